/- contracts of small functions -/
import Derived.Test.YtfkaafbeeegenaaGreatBit
import Derived.Test.YtfkaafbeeegenaaGreatProg
import Derived.KernelRfl
namespace Go.Proofs.YtfkaafbeeegenaaGreat.Zed
set_option linter.unusedVariables false
set_option linter.unusedSimpArgs false
set_option maxRecDepth 100000
set_option maxHeartbeats 4000000
theorem nagg_5 : nagg Tryz.prog 5 = true := by kernel_rfl
theorem mixed : Tryz.prog.follows .mixedOrders = true := by kernel_rfl
theorem byteT_5 : byteT Tryz.prog 5 := ⟨_, rfl, rfl, rfl, rfl⟩
theorem nagg_39 : nagg Tryz.prog 39 = true := by kernel_rfl
theorem fo_201_0 : foff Tryz.prog 201 0 = some 0 := by kernel_rfl
theorem nagg_43 : nagg Tryz.prog 43 = true := by kernel_rfl
theorem fo_68_1 : foff Tryz.prog 68 1 = some 1 := by kernel_rfl
theorem nagg_22 : nagg Tryz.prog 22 = true := by kernel_rfl
theorem zero_29 : (Tryz.prog.info? 29).bind (·.zero) = some (.agg #[(.slice none 0 0), (.slice none 0 0), (.slice none 0 0), (.slice none 0 0)]) := by kernel_rfl
theorem aggs_29 : aggs Tryz.prog 29 = some 4 := by kernel_rfl


theorem or_add (x y i N : Nat) (hN : 2 ^ i = N) (hx : x < N) : x ||| y * N = y * N + x := by
  subst hN
  rw [Nat.mul_comm y, Nat.two_pow_add_eq_or_of_lt hx, Nat.or_comm]
theorem or_add' (x y i N : Nat) (hN : 2 ^ i = N) (hx : x < N) : y * N ||| x = y * N + x := by rw [Nat.or_comm]; exact or_add x y i N hN hx
theorem raw2 (bs : List UInt8) : nb bs 1 ||| nb bs 0 * 256 = bN bs 0 2 := by
  have h1 := nb_lt bs 1
  rw [or_add _ _ 8 256 rfl h1]
  simp [bN]
theorem raw4 (bs : List UInt8) : nb bs 3 ||| nb bs 2 * 256 ||| nb bs 1 * 65536 ||| nb bs 0 * 16777216 = bN bs 0 4 := by
  have h0 := nb_lt bs 0
  have h1 := nb_lt bs 1
  have h2 := nb_lt bs 2
  have h3 := nb_lt bs 3
  rw [or_add (nb bs 3) (nb bs 2) 8 256 rfl h3, or_add _ (nb bs 1) 16 65536 rfl (by omega), or_add _ (nb bs 0) 24 16777216 rfl (by omega)]
  simp only [bN, Nat.zero_add, Nat.zero_mul]
  omega
theorem raw8 (bs : List UInt8) : nb bs 7 ||| nb bs 6 * 256 ||| nb bs 5 * 65536 ||| nb bs 4 * 16777216 ||| nb bs 3 * 4294967296 ||| nb bs 2 * 1099511627776 ||| nb bs 1 * 281474976710656 ||| nb bs 0 * 72057594037927936 = bN bs 0 8 := by
  have h0 := nb_lt bs 0
  have h1 := nb_lt bs 1
  have h2 := nb_lt bs 2
  have h3 := nb_lt bs 3
  have h4 := nb_lt bs 4
  have h5 := nb_lt bs 5
  have h6 := nb_lt bs 6
  have h7 := nb_lt bs 7
  rw [or_add (nb bs 7) (nb bs 6) 8 256 rfl h7, or_add _ (nb bs 5) 16 65536 rfl (by omega), or_add _ (nb bs 4) 24 16777216 rfl (by omega), or_add _ (nb bs 3) 32 4294967296 rfl (by omega),
    or_add _ (nb bs 2) 40 1099511627776 rfl (by omega), or_add _ (nb bs 1) 48 281474976710656 rfl (by omega), or_add _ (nb bs 0) 56 72057594037927936 rfl (by omega)]
  simp only [bN, Nat.zero_add, Nat.zero_mul]
  omega
def lN (r : List UInt8) (i : Nat) : Nat := nb r i + nb r (i + 1) * 256 + nb r (i + 2) * 65536 + nb r (i + 3) * 16777216
theorem rawl4 (bs : List UInt8) : nb bs 0 ||| nb bs 1 * 256 ||| nb bs 2 * 65536 ||| nb bs 3 * 16777216 = lN bs 0 := by
  have h0 := nb_lt bs 0
  have h1 := nb_lt bs 1
  have h2 := nb_lt bs 2
  have h3 := nb_lt bs 3
  rw [or_add (nb bs 0) (nb bs 1) 8 256 rfl h0, or_add _ (nb bs 2) 16 65536 rfl (by omega), or_add _ (nb bs 3) 24 16777216 rfl (by omega)]
  simp only [lN, Nat.zero_add]
  omega
theorem lN_lt (r : List UInt8) (i : Nat) : lN r i < 4294967296 := by
  have h0 := nb_lt r i
  have h1 := nb_lt r (i + 1)
  have h2 := nb_lt r (i + 2)
  have h3 := nb_lt r (i + 3)
  simp only [lN]
  omega
theorem bN_lt7 (bs : List UInt8) (i : Nat) (h : i < 8) : bN bs 0 i < 72057594037927936 :=
  Nat.lt_of_lt_of_le (bN_lt bs 0 i _ rfl) (Nat.le_trans (Nat.pow_le_pow_right (by decide) (show i ≤ 7 by omega)) (by decide))
theorem bN_step (bs : List UInt8) (i : Nat) : bN bs 0 i * 256 ||| nb bs i = bN bs 0 (i + 1) := by
  have h := nb_lt bs i
  rw [or_add' _ _ 8 256 rfl h]
  simp [bN]

theorem U16Raw (w : World) (A : Option Addr) (n : Nat) (c : Nat) (bs : List UInt8) (h1 : 2 ≤ n) (hst : St w [] [] [Byt A n c bs] w) : Calls Tryz.prog 91 #[(.agg #[]), (.slice A n c)] w (fun e w' => e = .returned (.int .u16 ((bN bs 0 2 : Nat) : Int)) ∧ Pres [] w w') := by
  have hnc00 : n ≤ c := (hst.fact (j := 0) rfl).2.1
  refine enter (vs := [(.agg #[]), (.slice A n c)]) Tryz.func91 rfl rfl rfl hst ?_
  refine HT.seq ?_
  refine HT.plain ?_
  refine sl_ (l_box (by decide) rfl fun b2 => ?_)
  refine sq (St.closed _ _ _ _) (q_assign rfl) rfl ?_
  refine send ?_
  refine eseq ?_
  refine HT.seq ?_
  refine HT.plain ?_
  refine sq (St.closed _ _ _ _) (q_move rfl) rfl ?_
  refine sq (St.closed _ _ _ _) (q_index (i := 1) (j := 0) rfl rfl Tryz.underlying22 nagg_5 (fun _ h => h) rfl (by omega)) rfl ?_
  refine sq (St.closed _ _ _ _) (q_byte (i := 1) (j := 0) rfl nagg_5 (fun _ h => h) rfl (by omega)) rfl ?_
  refine send ?_
  refine eseq ?_
  refine HT.seq ?_
  refine HT.drawnS mixed (St.closed _ _ _ _) ?_
  refine dtake (f := 0) [0, 1, 2, 3, 4, 5, 6, 7, 8, 9, 10] (by kernel_rfl) (St.closed _ _ _ _) (fun _ h => h) (by kernel_rfl) ?_
  refine dq rfl (q_move rfl) ?_
  refine dq rfl (q_index (i := 1) (j := 0) rfl rfl Tryz.underlying22 nagg_5 (fun _ h => h) rfl (by omega)) ?_
  refine dq rfl (q_byte (i := 1) (j := 0) rfl nagg_5 (fun _ h => h) rfl (by omega)) ?_
  refine dq rfl (q_convn (p := nb bs 1) rfl Tryz.underlying5 Tryz.underlying70 (show nb bs 1 < 65536 by have := nb_lt bs 1; omega)) ?_
  refine dq rfl (q_move rfl) ?_
  refine dq rfl (q_index (i := 0) (j := 0) rfl rfl Tryz.underlying22 nagg_5 (fun _ h => h) rfl (by omega)) ?_
  refine dq rfl (q_byte (i := 0) (j := 0) rfl nagg_5 (fun _ h => h) rfl (by omega)) ?_
  refine dq rfl (q_convn (p := nb bs 0) rfl Tryz.underlying5 Tryz.underlying70 (show nb bs 0 < 65536 by have := nb_lt bs 0; omega)) ?_
  refine dq rfl (q_shl (p := nb bs 0) (e := 8) (N := 256) rfl rfl (by decide) rfl (show (nb bs 0) * 256 < 65536 by have := nb_lt bs 0; omega)) ?_
  refine dq rfl (q_N (q_or (p := nb bs 1) (q := (nb bs 0) * 256) rfl rfl rfl (show nb bs 1 < 65536 by have := nb_lt bs 1; omega) (show (nb bs 0) * 256 < 65536 by have := nb_lt bs 0; omega)) (a := (nb bs 1) ||| ((nb bs 0) * 256)) (b := bN bs 0 2) (raw2 bs)) ?_
  refine dq rfl (q_assign rfl) ?_
  refine QL.nil ?_
  refine dend (by kernel_rfl) ?_
  refine eseq ?_
  refine HT.ret ?_
  exact fun a ha w' hw => fin_ ha (res1 ha Tryz.results91 rfl) ⟨rfl, hw.pres⟩

theorem U16 (w : World) (A : Option Addr) (n c : Nat) (r : List UInt8) {lo hi : Nat} (h : (Byt A n c r).ok w) (h1 : lo + 2 ≤ hi) (h2 : hi ≤ n) :
    Calls Tryz.prog 91 #[(.agg #[]), (.slice (cutA A c lo) (hi - lo) (c - lo))] w (fun e w' => e = .returned (.int .u16 ((bN r lo 2 : Nat) : Int)) ∧ Pres [] w w') := by
  have h := U16Raw w (cutA A c lo) (hi - lo) (c - lo) (sl r lo hi) (by omega) (St.start1 (M := []) (Byt.cut h (by omega) h2))
  rw [bN_sl 0 2 (by omega)] at h
  exact h

theorem U32Raw (w : World) (A : Option Addr) (n : Nat) (c : Nat) (bs : List UInt8) (h1 : 4 ≤ n) (hst : St w [] [] [Byt A n c bs] w) : Calls Tryz.prog 97 #[(.agg #[]), (.slice A n c)] w (fun e w' => e = .returned (.int .u32 ((bN bs 0 4 : Nat) : Int)) ∧ Pres [] w w') := by
  have hnc00 : n ≤ c := (hst.fact (j := 0) rfl).2.1
  refine enter (vs := [(.agg #[]), (.slice A n c)]) Tryz.func97 rfl rfl rfl hst ?_
  refine HT.seq ?_
  refine HT.plain ?_
  refine sl_ (l_box (by decide) rfl fun b2 => ?_)
  refine sq (St.closed _ _ _ _) (q_assign rfl) rfl ?_
  refine send ?_
  refine eseq ?_
  refine HT.seq ?_
  refine HT.plain ?_
  refine sq (St.closed _ _ _ _) (q_move rfl) rfl ?_
  refine sq (St.closed _ _ _ _) (q_index (i := 3) (j := 0) rfl rfl Tryz.underlying22 nagg_5 (fun _ h => h) rfl (by omega)) rfl ?_
  refine sq (St.closed _ _ _ _) (q_byte (i := 3) (j := 0) rfl nagg_5 (fun _ h => h) rfl (by omega)) rfl ?_
  refine send ?_
  refine eseq ?_
  refine HT.seq ?_
  refine HT.drawnS mixed (St.closed _ _ _ _) ?_
  refine dtake (f := 0) [0, 1, 2, 3, 4, 5, 6, 7, 8, 9, 10, 11, 12, 13, 14, 15, 16, 17, 18, 19, 20, 21, 22] (by kernel_rfl) (St.closed _ _ _ _) (fun _ h => h) (by kernel_rfl) ?_
  refine dq rfl (q_move rfl) ?_
  refine dq rfl (q_index (i := 3) (j := 0) rfl rfl Tryz.underlying22 nagg_5 (fun _ h => h) rfl (by omega)) ?_
  refine dq rfl (q_byte (i := 3) (j := 0) rfl nagg_5 (fun _ h => h) rfl (by omega)) ?_
  refine dq rfl (q_convn (p := nb bs 3) rfl Tryz.underlying5 Tryz.underlying111 (show nb bs 3 < 4294967296 by have := nb_lt bs 3; omega)) ?_
  refine dq rfl (q_move rfl) ?_
  refine dq rfl (q_index (i := 2) (j := 0) rfl rfl Tryz.underlying22 nagg_5 (fun _ h => h) rfl (by omega)) ?_
  refine dq rfl (q_byte (i := 2) (j := 0) rfl nagg_5 (fun _ h => h) rfl (by omega)) ?_
  refine dq rfl (q_convn (p := nb bs 2) rfl Tryz.underlying5 Tryz.underlying111 (show nb bs 2 < 4294967296 by have := nb_lt bs 2; omega)) ?_
  refine dq rfl (q_shl (p := nb bs 2) (e := 8) (N := 256) rfl rfl (by decide) rfl (show (nb bs 2) * 256 < 4294967296 by have := nb_lt bs 2; omega)) ?_
  refine dq rfl (q_or (p := nb bs 3) (q := (nb bs 2) * 256) rfl rfl rfl (show nb bs 3 < 4294967296 by have := nb_lt bs 3; omega) (show (nb bs 2) * 256 < 4294967296 by have := nb_lt bs 2; omega)) ?_
  refine dq rfl (q_move rfl) ?_
  refine dq rfl (q_index (i := 1) (j := 0) rfl rfl Tryz.underlying22 nagg_5 (fun _ h => h) rfl (by omega)) ?_
  refine dq rfl (q_byte (i := 1) (j := 0) rfl nagg_5 (fun _ h => h) rfl (by omega)) ?_
  refine dq rfl (q_convn (p := nb bs 1) rfl Tryz.underlying5 Tryz.underlying111 (show nb bs 1 < 4294967296 by have := nb_lt bs 1; omega)) ?_
  refine dq rfl (q_shl (p := nb bs 1) (e := 16) (N := 65536) rfl rfl (by decide) rfl (show (nb bs 1) * 65536 < 4294967296 by have := nb_lt bs 1; omega)) ?_
  refine dq rfl (q_or (p := (nb bs 3) ||| ((nb bs 2) * 256)) (q := (nb bs 1) * 65536) rfl rfl rfl (show (nb bs 3) ||| ((nb bs 2) * 256) < 4294967296 by have := nb_lt bs 3; have := nb_lt bs 2; have := or_lt_ (nb bs 3) ((nb bs 2) * 256) 16 (by have := nb_lt bs 3; omega) (by have := nb_lt bs 2; omega); omega) (show (nb bs 1) * 65536 < 4294967296 by have := nb_lt bs 1; omega)) ?_
  refine dq rfl (q_move rfl) ?_
  refine dq rfl (q_index (i := 0) (j := 0) rfl rfl Tryz.underlying22 nagg_5 (fun _ h => h) rfl (by omega)) ?_
  refine dq rfl (q_byte (i := 0) (j := 0) rfl nagg_5 (fun _ h => h) rfl (by omega)) ?_
  refine dq rfl (q_convn (p := nb bs 0) rfl Tryz.underlying5 Tryz.underlying111 (show nb bs 0 < 4294967296 by have := nb_lt bs 0; omega)) ?_
  refine dq rfl (q_shl (p := nb bs 0) (e := 24) (N := 16777216) rfl rfl (by decide) rfl (show (nb bs 0) * 16777216 < 4294967296 by have := nb_lt bs 0; omega)) ?_
  refine dq rfl (q_N (q_or (p := ((nb bs 3) ||| ((nb bs 2) * 256)) ||| ((nb bs 1) * 65536)) (q := (nb bs 0) * 16777216) rfl rfl rfl (show ((nb bs 3) ||| ((nb bs 2) * 256)) ||| ((nb bs 1) * 65536) < 4294967296 by have := nb_lt bs 3; have := nb_lt bs 2; have := or_lt_ (nb bs 3) ((nb bs 2) * 256) 16 (by have := nb_lt bs 3; omega) (by have := nb_lt bs 2; omega); have := nb_lt bs 1; have := or_lt_ ((nb bs 3) ||| ((nb bs 2) * 256)) ((nb bs 1) * 65536) 24 (by have := nb_lt bs 3; have := nb_lt bs 2; have := or_lt_ (nb bs 3) ((nb bs 2) * 256) 16 (by have := nb_lt bs 3; omega) (by have := nb_lt bs 2; omega); omega) (by have := nb_lt bs 1; omega); omega) (show (nb bs 0) * 16777216 < 4294967296 by have := nb_lt bs 0; omega)) (a := (((nb bs 3) ||| ((nb bs 2) * 256)) ||| ((nb bs 1) * 65536)) ||| ((nb bs 0) * 16777216)) (b := bN bs 0 4) (raw4 bs)) ?_
  refine dq rfl (q_assign rfl) ?_
  refine QL.nil ?_
  refine dend (by kernel_rfl) ?_
  refine eseq ?_
  refine HT.ret ?_
  exact fun a ha w' hw => fin_ ha (res1 ha Tryz.results97 rfl) ⟨rfl, hw.pres⟩

theorem U32 (w : World) (A : Option Addr) (n c : Nat) (r : List UInt8) {lo hi : Nat} (h : (Byt A n c r).ok w) (h1 : lo + 4 ≤ hi) (h2 : hi ≤ n) :
    Calls Tryz.prog 97 #[(.agg #[]), (.slice (cutA A c lo) (hi - lo) (c - lo))] w (fun e w' => e = .returned (.int .u32 ((bN r lo 4 : Nat) : Int)) ∧ Pres [] w w') := by
  have h := U32Raw w (cutA A c lo) (hi - lo) (c - lo) (sl r lo hi) (by omega) (St.start1 (M := []) (Byt.cut h (by omega) h2))
  rw [bN_sl 0 4 (by omega)] at h
  exact h

theorem U64Raw (w : World) (A : Option Addr) (n : Nat) (c : Nat) (bs : List UInt8) (h1 : 8 ≤ n) (hst : St w [] [] [Byt A n c bs] w) : Calls Tryz.prog 102 #[(.agg #[]), (.slice A n c)] w (fun e w' => e = .returned (.int .u64 ((bN bs 0 8 : Nat) : Int)) ∧ Pres [] w w') := by
  have hnc00 : n ≤ c := (hst.fact (j := 0) rfl).2.1
  refine enter (vs := [(.agg #[]), (.slice A n c)]) Tryz.func102 rfl rfl rfl hst ?_
  refine HT.seq ?_
  refine HT.plain ?_
  refine sl_ (l_box (by decide) rfl fun b2 => ?_)
  refine sq (St.closed _ _ _ _) (q_assign rfl) rfl ?_
  refine send ?_
  refine eseq ?_
  refine HT.seq ?_
  refine HT.plain ?_
  refine sq (St.closed _ _ _ _) (q_move rfl) rfl ?_
  refine sq (St.closed _ _ _ _) (q_index (i := 7) (j := 0) rfl rfl Tryz.underlying22 nagg_5 (fun _ h => h) rfl (by omega)) rfl ?_
  refine sq (St.closed _ _ _ _) (q_byte (i := 7) (j := 0) rfl nagg_5 (fun _ h => h) rfl (by omega)) rfl ?_
  refine send ?_
  refine eseq ?_
  refine HT.seq ?_
  refine HT.drawnS mixed (St.closed _ _ _ _) ?_
  refine dtake (f := 0) [0, 1, 2, 3, 4, 5, 6, 7, 8, 9, 10, 11, 12, 13, 14, 15, 16, 17, 18, 19, 20, 21, 22, 23, 24, 25, 26, 27, 28, 29, 30, 31, 32, 33, 34, 35, 36, 37, 38, 39, 40, 41, 42, 43, 44, 45, 46] (by kernel_rfl) (St.closed _ _ _ _) (fun _ h => h) (by kernel_rfl) ?_
  refine dq rfl (q_move rfl) ?_
  refine dq rfl (q_index (i := 7) (j := 0) rfl rfl Tryz.underlying22 nagg_5 (fun _ h => h) rfl (by omega)) ?_
  refine dq rfl (q_byte (i := 7) (j := 0) rfl nagg_5 (fun _ h => h) rfl (by omega)) ?_
  refine dq rfl (q_convn (p := nb bs 7) rfl Tryz.underlying5 Tryz.underlying39 (show nb bs 7 < 18446744073709551616 by have := nb_lt bs 7; omega)) ?_
  refine dq rfl (q_move rfl) ?_
  refine dq rfl (q_index (i := 6) (j := 0) rfl rfl Tryz.underlying22 nagg_5 (fun _ h => h) rfl (by omega)) ?_
  refine dq rfl (q_byte (i := 6) (j := 0) rfl nagg_5 (fun _ h => h) rfl (by omega)) ?_
  refine dq rfl (q_convn (p := nb bs 6) rfl Tryz.underlying5 Tryz.underlying39 (show nb bs 6 < 18446744073709551616 by have := nb_lt bs 6; omega)) ?_
  refine dq rfl (q_shl (p := nb bs 6) (e := 8) (N := 256) rfl rfl (by decide) rfl (show (nb bs 6) * 256 < 18446744073709551616 by have := nb_lt bs 6; omega)) ?_
  refine dq rfl (q_or (p := nb bs 7) (q := (nb bs 6) * 256) rfl rfl rfl (show nb bs 7 < 18446744073709551616 by have := nb_lt bs 7; omega) (show (nb bs 6) * 256 < 18446744073709551616 by have := nb_lt bs 6; omega)) ?_
  refine dq rfl (q_move rfl) ?_
  refine dq rfl (q_index (i := 5) (j := 0) rfl rfl Tryz.underlying22 nagg_5 (fun _ h => h) rfl (by omega)) ?_
  refine dq rfl (q_byte (i := 5) (j := 0) rfl nagg_5 (fun _ h => h) rfl (by omega)) ?_
  refine dq rfl (q_convn (p := nb bs 5) rfl Tryz.underlying5 Tryz.underlying39 (show nb bs 5 < 18446744073709551616 by have := nb_lt bs 5; omega)) ?_
  refine dq rfl (q_shl (p := nb bs 5) (e := 16) (N := 65536) rfl rfl (by decide) rfl (show (nb bs 5) * 65536 < 18446744073709551616 by have := nb_lt bs 5; omega)) ?_
  refine dq rfl (q_or (p := (nb bs 7) ||| ((nb bs 6) * 256)) (q := (nb bs 5) * 65536) rfl rfl rfl (show (nb bs 7) ||| ((nb bs 6) * 256) < 18446744073709551616 by have := nb_lt bs 7; have := nb_lt bs 6; have := or_lt_ (nb bs 7) ((nb bs 6) * 256) 16 (by have := nb_lt bs 7; omega) (by have := nb_lt bs 6; omega); omega) (show (nb bs 5) * 65536 < 18446744073709551616 by have := nb_lt bs 5; omega)) ?_
  refine dq rfl (q_move rfl) ?_
  refine dq rfl (q_index (i := 4) (j := 0) rfl rfl Tryz.underlying22 nagg_5 (fun _ h => h) rfl (by omega)) ?_
  refine dq rfl (q_byte (i := 4) (j := 0) rfl nagg_5 (fun _ h => h) rfl (by omega)) ?_
  refine dq rfl (q_convn (p := nb bs 4) rfl Tryz.underlying5 Tryz.underlying39 (show nb bs 4 < 18446744073709551616 by have := nb_lt bs 4; omega)) ?_
  refine dq rfl (q_shl (p := nb bs 4) (e := 24) (N := 16777216) rfl rfl (by decide) rfl (show (nb bs 4) * 16777216 < 18446744073709551616 by have := nb_lt bs 4; omega)) ?_
  refine dq rfl (q_or (p := ((nb bs 7) ||| ((nb bs 6) * 256)) ||| ((nb bs 5) * 65536)) (q := (nb bs 4) * 16777216) rfl rfl rfl (show ((nb bs 7) ||| ((nb bs 6) * 256)) ||| ((nb bs 5) * 65536) < 18446744073709551616 by have := nb_lt bs 7; have := nb_lt bs 6; have := or_lt_ (nb bs 7) ((nb bs 6) * 256) 16 (by have := nb_lt bs 7; omega) (by have := nb_lt bs 6; omega); have := nb_lt bs 5; have := or_lt_ ((nb bs 7) ||| ((nb bs 6) * 256)) ((nb bs 5) * 65536) 24 (by have := nb_lt bs 7; have := nb_lt bs 6; have := or_lt_ (nb bs 7) ((nb bs 6) * 256) 16 (by have := nb_lt bs 7; omega) (by have := nb_lt bs 6; omega); omega) (by have := nb_lt bs 5; omega); omega) (show (nb bs 4) * 16777216 < 18446744073709551616 by have := nb_lt bs 4; omega)) ?_
  refine dq rfl (q_move rfl) ?_
  refine dq rfl (q_index (i := 3) (j := 0) rfl rfl Tryz.underlying22 nagg_5 (fun _ h => h) rfl (by omega)) ?_
  refine dq rfl (q_byte (i := 3) (j := 0) rfl nagg_5 (fun _ h => h) rfl (by omega)) ?_
  refine dq rfl (q_convn (p := nb bs 3) rfl Tryz.underlying5 Tryz.underlying39 (show nb bs 3 < 18446744073709551616 by have := nb_lt bs 3; omega)) ?_
  refine dq rfl (q_shl (p := nb bs 3) (e := 32) (N := 4294967296) rfl rfl (by decide) rfl (show (nb bs 3) * 4294967296 < 18446744073709551616 by have := nb_lt bs 3; omega)) ?_
  refine dq rfl (q_or (p := (((nb bs 7) ||| ((nb bs 6) * 256)) ||| ((nb bs 5) * 65536)) ||| ((nb bs 4) * 16777216)) (q := (nb bs 3) * 4294967296) rfl rfl rfl (show (((nb bs 7) ||| ((nb bs 6) * 256)) ||| ((nb bs 5) * 65536)) ||| ((nb bs 4) * 16777216) < 18446744073709551616 by have := nb_lt bs 7; have := nb_lt bs 6; have := or_lt_ (nb bs 7) ((nb bs 6) * 256) 16 (by have := nb_lt bs 7; omega) (by have := nb_lt bs 6; omega); have := nb_lt bs 5; have := or_lt_ ((nb bs 7) ||| ((nb bs 6) * 256)) ((nb bs 5) * 65536) 24 (by have := nb_lt bs 7; have := nb_lt bs 6; have := or_lt_ (nb bs 7) ((nb bs 6) * 256) 16 (by have := nb_lt bs 7; omega) (by have := nb_lt bs 6; omega); omega) (by have := nb_lt bs 5; omega); have := nb_lt bs 4; have := or_lt_ (((nb bs 7) ||| ((nb bs 6) * 256)) ||| ((nb bs 5) * 65536)) ((nb bs 4) * 16777216) 32 (by have := nb_lt bs 7; have := nb_lt bs 6; have := or_lt_ (nb bs 7) ((nb bs 6) * 256) 16 (by have := nb_lt bs 7; omega) (by have := nb_lt bs 6; omega); have := nb_lt bs 5; have := or_lt_ ((nb bs 7) ||| ((nb bs 6) * 256)) ((nb bs 5) * 65536) 24 (by have := nb_lt bs 7; have := nb_lt bs 6; have := or_lt_ (nb bs 7) ((nb bs 6) * 256) 16 (by have := nb_lt bs 7; omega) (by have := nb_lt bs 6; omega); omega) (by have := nb_lt bs 5; omega); omega) (by have := nb_lt bs 4; omega); omega) (show (nb bs 3) * 4294967296 < 18446744073709551616 by have := nb_lt bs 3; omega)) ?_
  refine dq rfl (q_move rfl) ?_
  refine dq rfl (q_index (i := 2) (j := 0) rfl rfl Tryz.underlying22 nagg_5 (fun _ h => h) rfl (by omega)) ?_
  refine dq rfl (q_byte (i := 2) (j := 0) rfl nagg_5 (fun _ h => h) rfl (by omega)) ?_
  refine dq rfl (q_convn (p := nb bs 2) rfl Tryz.underlying5 Tryz.underlying39 (show nb bs 2 < 18446744073709551616 by have := nb_lt bs 2; omega)) ?_
  refine dq rfl (q_shl (p := nb bs 2) (e := 40) (N := 1099511627776) rfl rfl (by decide) rfl (show (nb bs 2) * 1099511627776 < 18446744073709551616 by have := nb_lt bs 2; omega)) ?_
  refine dq rfl (q_or (p := ((((nb bs 7) ||| ((nb bs 6) * 256)) ||| ((nb bs 5) * 65536)) ||| ((nb bs 4) * 16777216)) ||| ((nb bs 3) * 4294967296)) (q := (nb bs 2) * 1099511627776) rfl rfl rfl (show ((((nb bs 7) ||| ((nb bs 6) * 256)) ||| ((nb bs 5) * 65536)) ||| ((nb bs 4) * 16777216)) ||| ((nb bs 3) * 4294967296) < 18446744073709551616 by have := nb_lt bs 7; have := nb_lt bs 6; have := or_lt_ (nb bs 7) ((nb bs 6) * 256) 16 (by have := nb_lt bs 7; omega) (by have := nb_lt bs 6; omega); have := nb_lt bs 5; have := or_lt_ ((nb bs 7) ||| ((nb bs 6) * 256)) ((nb bs 5) * 65536) 24 (by have := nb_lt bs 7; have := nb_lt bs 6; have := or_lt_ (nb bs 7) ((nb bs 6) * 256) 16 (by have := nb_lt bs 7; omega) (by have := nb_lt bs 6; omega); omega) (by have := nb_lt bs 5; omega); have := nb_lt bs 4; have := or_lt_ (((nb bs 7) ||| ((nb bs 6) * 256)) ||| ((nb bs 5) * 65536)) ((nb bs 4) * 16777216) 32 (by have := nb_lt bs 7; have := nb_lt bs 6; have := or_lt_ (nb bs 7) ((nb bs 6) * 256) 16 (by have := nb_lt bs 7; omega) (by have := nb_lt bs 6; omega); have := nb_lt bs 5; have := or_lt_ ((nb bs 7) ||| ((nb bs 6) * 256)) ((nb bs 5) * 65536) 24 (by have := nb_lt bs 7; have := nb_lt bs 6; have := or_lt_ (nb bs 7) ((nb bs 6) * 256) 16 (by have := nb_lt bs 7; omega) (by have := nb_lt bs 6; omega); omega) (by have := nb_lt bs 5; omega); omega) (by have := nb_lt bs 4; omega); have := nb_lt bs 3; have := or_lt_ ((((nb bs 7) ||| ((nb bs 6) * 256)) ||| ((nb bs 5) * 65536)) ||| ((nb bs 4) * 16777216)) ((nb bs 3) * 4294967296) 40 (by have := nb_lt bs 7; have := nb_lt bs 6; have := or_lt_ (nb bs 7) ((nb bs 6) * 256) 16 (by have := nb_lt bs 7; omega) (by have := nb_lt bs 6; omega); have := nb_lt bs 5; have := or_lt_ ((nb bs 7) ||| ((nb bs 6) * 256)) ((nb bs 5) * 65536) 24 (by have := nb_lt bs 7; have := nb_lt bs 6; have := or_lt_ (nb bs 7) ((nb bs 6) * 256) 16 (by have := nb_lt bs 7; omega) (by have := nb_lt bs 6; omega); omega) (by have := nb_lt bs 5; omega); have := nb_lt bs 4; have := or_lt_ (((nb bs 7) ||| ((nb bs 6) * 256)) ||| ((nb bs 5) * 65536)) ((nb bs 4) * 16777216) 32 (by have := nb_lt bs 7; have := nb_lt bs 6; have := or_lt_ (nb bs 7) ((nb bs 6) * 256) 16 (by have := nb_lt bs 7; omega) (by have := nb_lt bs 6; omega); have := nb_lt bs 5; have := or_lt_ ((nb bs 7) ||| ((nb bs 6) * 256)) ((nb bs 5) * 65536) 24 (by have := nb_lt bs 7; have := nb_lt bs 6; have := or_lt_ (nb bs 7) ((nb bs 6) * 256) 16 (by have := nb_lt bs 7; omega) (by have := nb_lt bs 6; omega); omega) (by have := nb_lt bs 5; omega); omega) (by have := nb_lt bs 4; omega); omega) (by have := nb_lt bs 3; omega); omega) (show (nb bs 2) * 1099511627776 < 18446744073709551616 by have := nb_lt bs 2; omega)) ?_
  refine dq rfl (q_move rfl) ?_
  refine dq rfl (q_index (i := 1) (j := 0) rfl rfl Tryz.underlying22 nagg_5 (fun _ h => h) rfl (by omega)) ?_
  refine dq rfl (q_byte (i := 1) (j := 0) rfl nagg_5 (fun _ h => h) rfl (by omega)) ?_
  refine dq rfl (q_convn (p := nb bs 1) rfl Tryz.underlying5 Tryz.underlying39 (show nb bs 1 < 18446744073709551616 by have := nb_lt bs 1; omega)) ?_
  refine dq rfl (q_shl (p := nb bs 1) (e := 48) (N := 281474976710656) rfl rfl (by decide) rfl (show (nb bs 1) * 281474976710656 < 18446744073709551616 by have := nb_lt bs 1; omega)) ?_
  refine dq rfl (q_or (p := (((((nb bs 7) ||| ((nb bs 6) * 256)) ||| ((nb bs 5) * 65536)) ||| ((nb bs 4) * 16777216)) ||| ((nb bs 3) * 4294967296)) ||| ((nb bs 2) * 1099511627776)) (q := (nb bs 1) * 281474976710656) rfl rfl rfl (show (((((nb bs 7) ||| ((nb bs 6) * 256)) ||| ((nb bs 5) * 65536)) ||| ((nb bs 4) * 16777216)) ||| ((nb bs 3) * 4294967296)) ||| ((nb bs 2) * 1099511627776) < 18446744073709551616 by have := nb_lt bs 7; have := nb_lt bs 6; have := or_lt_ (nb bs 7) ((nb bs 6) * 256) 16 (by have := nb_lt bs 7; omega) (by have := nb_lt bs 6; omega); have := nb_lt bs 5; have := or_lt_ ((nb bs 7) ||| ((nb bs 6) * 256)) ((nb bs 5) * 65536) 24 (by have := nb_lt bs 7; have := nb_lt bs 6; have := or_lt_ (nb bs 7) ((nb bs 6) * 256) 16 (by have := nb_lt bs 7; omega) (by have := nb_lt bs 6; omega); omega) (by have := nb_lt bs 5; omega); have := nb_lt bs 4; have := or_lt_ (((nb bs 7) ||| ((nb bs 6) * 256)) ||| ((nb bs 5) * 65536)) ((nb bs 4) * 16777216) 32 (by have := nb_lt bs 7; have := nb_lt bs 6; have := or_lt_ (nb bs 7) ((nb bs 6) * 256) 16 (by have := nb_lt bs 7; omega) (by have := nb_lt bs 6; omega); have := nb_lt bs 5; have := or_lt_ ((nb bs 7) ||| ((nb bs 6) * 256)) ((nb bs 5) * 65536) 24 (by have := nb_lt bs 7; have := nb_lt bs 6; have := or_lt_ (nb bs 7) ((nb bs 6) * 256) 16 (by have := nb_lt bs 7; omega) (by have := nb_lt bs 6; omega); omega) (by have := nb_lt bs 5; omega); omega) (by have := nb_lt bs 4; omega); have := nb_lt bs 3; have := or_lt_ ((((nb bs 7) ||| ((nb bs 6) * 256)) ||| ((nb bs 5) * 65536)) ||| ((nb bs 4) * 16777216)) ((nb bs 3) * 4294967296) 40 (by have := nb_lt bs 7; have := nb_lt bs 6; have := or_lt_ (nb bs 7) ((nb bs 6) * 256) 16 (by have := nb_lt bs 7; omega) (by have := nb_lt bs 6; omega); have := nb_lt bs 5; have := or_lt_ ((nb bs 7) ||| ((nb bs 6) * 256)) ((nb bs 5) * 65536) 24 (by have := nb_lt bs 7; have := nb_lt bs 6; have := or_lt_ (nb bs 7) ((nb bs 6) * 256) 16 (by have := nb_lt bs 7; omega) (by have := nb_lt bs 6; omega); omega) (by have := nb_lt bs 5; omega); have := nb_lt bs 4; have := or_lt_ (((nb bs 7) ||| ((nb bs 6) * 256)) ||| ((nb bs 5) * 65536)) ((nb bs 4) * 16777216) 32 (by have := nb_lt bs 7; have := nb_lt bs 6; have := or_lt_ (nb bs 7) ((nb bs 6) * 256) 16 (by have := nb_lt bs 7; omega) (by have := nb_lt bs 6; omega); have := nb_lt bs 5; have := or_lt_ ((nb bs 7) ||| ((nb bs 6) * 256)) ((nb bs 5) * 65536) 24 (by have := nb_lt bs 7; have := nb_lt bs 6; have := or_lt_ (nb bs 7) ((nb bs 6) * 256) 16 (by have := nb_lt bs 7; omega) (by have := nb_lt bs 6; omega); omega) (by have := nb_lt bs 5; omega); omega) (by have := nb_lt bs 4; omega); omega) (by have := nb_lt bs 3; omega); have := nb_lt bs 2; have := or_lt_ (((((nb bs 7) ||| ((nb bs 6) * 256)) ||| ((nb bs 5) * 65536)) ||| ((nb bs 4) * 16777216)) ||| ((nb bs 3) * 4294967296)) ((nb bs 2) * 1099511627776) 48 (by have := nb_lt bs 7; have := nb_lt bs 6; have := or_lt_ (nb bs 7) ((nb bs 6) * 256) 16 (by have := nb_lt bs 7; omega) (by have := nb_lt bs 6; omega); have := nb_lt bs 5; have := or_lt_ ((nb bs 7) ||| ((nb bs 6) * 256)) ((nb bs 5) * 65536) 24 (by have := nb_lt bs 7; have := nb_lt bs 6; have := or_lt_ (nb bs 7) ((nb bs 6) * 256) 16 (by have := nb_lt bs 7; omega) (by have := nb_lt bs 6; omega); omega) (by have := nb_lt bs 5; omega); have := nb_lt bs 4; have := or_lt_ (((nb bs 7) ||| ((nb bs 6) * 256)) ||| ((nb bs 5) * 65536)) ((nb bs 4) * 16777216) 32 (by have := nb_lt bs 7; have := nb_lt bs 6; have := or_lt_ (nb bs 7) ((nb bs 6) * 256) 16 (by have := nb_lt bs 7; omega) (by have := nb_lt bs 6; omega); have := nb_lt bs 5; have := or_lt_ ((nb bs 7) ||| ((nb bs 6) * 256)) ((nb bs 5) * 65536) 24 (by have := nb_lt bs 7; have := nb_lt bs 6; have := or_lt_ (nb bs 7) ((nb bs 6) * 256) 16 (by have := nb_lt bs 7; omega) (by have := nb_lt bs 6; omega); omega) (by have := nb_lt bs 5; omega); omega) (by have := nb_lt bs 4; omega); have := nb_lt bs 3; have := or_lt_ ((((nb bs 7) ||| ((nb bs 6) * 256)) ||| ((nb bs 5) * 65536)) ||| ((nb bs 4) * 16777216)) ((nb bs 3) * 4294967296) 40 (by have := nb_lt bs 7; have := nb_lt bs 6; have := or_lt_ (nb bs 7) ((nb bs 6) * 256) 16 (by have := nb_lt bs 7; omega) (by have := nb_lt bs 6; omega); have := nb_lt bs 5; have := or_lt_ ((nb bs 7) ||| ((nb bs 6) * 256)) ((nb bs 5) * 65536) 24 (by have := nb_lt bs 7; have := nb_lt bs 6; have := or_lt_ (nb bs 7) ((nb bs 6) * 256) 16 (by have := nb_lt bs 7; omega) (by have := nb_lt bs 6; omega); omega) (by have := nb_lt bs 5; omega); have := nb_lt bs 4; have := or_lt_ (((nb bs 7) ||| ((nb bs 6) * 256)) ||| ((nb bs 5) * 65536)) ((nb bs 4) * 16777216) 32 (by have := nb_lt bs 7; have := nb_lt bs 6; have := or_lt_ (nb bs 7) ((nb bs 6) * 256) 16 (by have := nb_lt bs 7; omega) (by have := nb_lt bs 6; omega); have := nb_lt bs 5; have := or_lt_ ((nb bs 7) ||| ((nb bs 6) * 256)) ((nb bs 5) * 65536) 24 (by have := nb_lt bs 7; have := nb_lt bs 6; have := or_lt_ (nb bs 7) ((nb bs 6) * 256) 16 (by have := nb_lt bs 7; omega) (by have := nb_lt bs 6; omega); omega) (by have := nb_lt bs 5; omega); omega) (by have := nb_lt bs 4; omega); omega) (by have := nb_lt bs 3; omega); omega) (by have := nb_lt bs 2; omega); omega) (show (nb bs 1) * 281474976710656 < 18446744073709551616 by have := nb_lt bs 1; omega)) ?_
  refine dq rfl (q_move rfl) ?_
  refine dq rfl (q_index (i := 0) (j := 0) rfl rfl Tryz.underlying22 nagg_5 (fun _ h => h) rfl (by omega)) ?_
  refine dq rfl (q_byte (i := 0) (j := 0) rfl nagg_5 (fun _ h => h) rfl (by omega)) ?_
  refine dq rfl (q_convn (p := nb bs 0) rfl Tryz.underlying5 Tryz.underlying39 (show nb bs 0 < 18446744073709551616 by have := nb_lt bs 0; omega)) ?_
  refine dq rfl (q_shl (p := nb bs 0) (e := 56) (N := 72057594037927936) rfl rfl (by decide) rfl (show (nb bs 0) * 72057594037927936 < 18446744073709551616 by have := nb_lt bs 0; omega)) ?_
  refine dq rfl (q_N (q_or (p := ((((((nb bs 7) ||| ((nb bs 6) * 256)) ||| ((nb bs 5) * 65536)) ||| ((nb bs 4) * 16777216)) ||| ((nb bs 3) * 4294967296)) ||| ((nb bs 2) * 1099511627776)) ||| ((nb bs 1) * 281474976710656)) (q := (nb bs 0) * 72057594037927936) rfl rfl rfl (show ((((((nb bs 7) ||| ((nb bs 6) * 256)) ||| ((nb bs 5) * 65536)) ||| ((nb bs 4) * 16777216)) ||| ((nb bs 3) * 4294967296)) ||| ((nb bs 2) * 1099511627776)) ||| ((nb bs 1) * 281474976710656) < 18446744073709551616 by have := nb_lt bs 7; have := nb_lt bs 6; have := or_lt_ (nb bs 7) ((nb bs 6) * 256) 16 (by have := nb_lt bs 7; omega) (by have := nb_lt bs 6; omega); have := nb_lt bs 5; have := or_lt_ ((nb bs 7) ||| ((nb bs 6) * 256)) ((nb bs 5) * 65536) 24 (by have := nb_lt bs 7; have := nb_lt bs 6; have := or_lt_ (nb bs 7) ((nb bs 6) * 256) 16 (by have := nb_lt bs 7; omega) (by have := nb_lt bs 6; omega); omega) (by have := nb_lt bs 5; omega); have := nb_lt bs 4; have := or_lt_ (((nb bs 7) ||| ((nb bs 6) * 256)) ||| ((nb bs 5) * 65536)) ((nb bs 4) * 16777216) 32 (by have := nb_lt bs 7; have := nb_lt bs 6; have := or_lt_ (nb bs 7) ((nb bs 6) * 256) 16 (by have := nb_lt bs 7; omega) (by have := nb_lt bs 6; omega); have := nb_lt bs 5; have := or_lt_ ((nb bs 7) ||| ((nb bs 6) * 256)) ((nb bs 5) * 65536) 24 (by have := nb_lt bs 7; have := nb_lt bs 6; have := or_lt_ (nb bs 7) ((nb bs 6) * 256) 16 (by have := nb_lt bs 7; omega) (by have := nb_lt bs 6; omega); omega) (by have := nb_lt bs 5; omega); omega) (by have := nb_lt bs 4; omega); have := nb_lt bs 3; have := or_lt_ ((((nb bs 7) ||| ((nb bs 6) * 256)) ||| ((nb bs 5) * 65536)) ||| ((nb bs 4) * 16777216)) ((nb bs 3) * 4294967296) 40 (by have := nb_lt bs 7; have := nb_lt bs 6; have := or_lt_ (nb bs 7) ((nb bs 6) * 256) 16 (by have := nb_lt bs 7; omega) (by have := nb_lt bs 6; omega); have := nb_lt bs 5; have := or_lt_ ((nb bs 7) ||| ((nb bs 6) * 256)) ((nb bs 5) * 65536) 24 (by have := nb_lt bs 7; have := nb_lt bs 6; have := or_lt_ (nb bs 7) ((nb bs 6) * 256) 16 (by have := nb_lt bs 7; omega) (by have := nb_lt bs 6; omega); omega) (by have := nb_lt bs 5; omega); have := nb_lt bs 4; have := or_lt_ (((nb bs 7) ||| ((nb bs 6) * 256)) ||| ((nb bs 5) * 65536)) ((nb bs 4) * 16777216) 32 (by have := nb_lt bs 7; have := nb_lt bs 6; have := or_lt_ (nb bs 7) ((nb bs 6) * 256) 16 (by have := nb_lt bs 7; omega) (by have := nb_lt bs 6; omega); have := nb_lt bs 5; have := or_lt_ ((nb bs 7) ||| ((nb bs 6) * 256)) ((nb bs 5) * 65536) 24 (by have := nb_lt bs 7; have := nb_lt bs 6; have := or_lt_ (nb bs 7) ((nb bs 6) * 256) 16 (by have := nb_lt bs 7; omega) (by have := nb_lt bs 6; omega); omega) (by have := nb_lt bs 5; omega); omega) (by have := nb_lt bs 4; omega); omega) (by have := nb_lt bs 3; omega); have := nb_lt bs 2; have := or_lt_ (((((nb bs 7) ||| ((nb bs 6) * 256)) ||| ((nb bs 5) * 65536)) ||| ((nb bs 4) * 16777216)) ||| ((nb bs 3) * 4294967296)) ((nb bs 2) * 1099511627776) 48 (by have := nb_lt bs 7; have := nb_lt bs 6; have := or_lt_ (nb bs 7) ((nb bs 6) * 256) 16 (by have := nb_lt bs 7; omega) (by have := nb_lt bs 6; omega); have := nb_lt bs 5; have := or_lt_ ((nb bs 7) ||| ((nb bs 6) * 256)) ((nb bs 5) * 65536) 24 (by have := nb_lt bs 7; have := nb_lt bs 6; have := or_lt_ (nb bs 7) ((nb bs 6) * 256) 16 (by have := nb_lt bs 7; omega) (by have := nb_lt bs 6; omega); omega) (by have := nb_lt bs 5; omega); have := nb_lt bs 4; have := or_lt_ (((nb bs 7) ||| ((nb bs 6) * 256)) ||| ((nb bs 5) * 65536)) ((nb bs 4) * 16777216) 32 (by have := nb_lt bs 7; have := nb_lt bs 6; have := or_lt_ (nb bs 7) ((nb bs 6) * 256) 16 (by have := nb_lt bs 7; omega) (by have := nb_lt bs 6; omega); have := nb_lt bs 5; have := or_lt_ ((nb bs 7) ||| ((nb bs 6) * 256)) ((nb bs 5) * 65536) 24 (by have := nb_lt bs 7; have := nb_lt bs 6; have := or_lt_ (nb bs 7) ((nb bs 6) * 256) 16 (by have := nb_lt bs 7; omega) (by have := nb_lt bs 6; omega); omega) (by have := nb_lt bs 5; omega); omega) (by have := nb_lt bs 4; omega); have := nb_lt bs 3; have := or_lt_ ((((nb bs 7) ||| ((nb bs 6) * 256)) ||| ((nb bs 5) * 65536)) ||| ((nb bs 4) * 16777216)) ((nb bs 3) * 4294967296) 40 (by have := nb_lt bs 7; have := nb_lt bs 6; have := or_lt_ (nb bs 7) ((nb bs 6) * 256) 16 (by have := nb_lt bs 7; omega) (by have := nb_lt bs 6; omega); have := nb_lt bs 5; have := or_lt_ ((nb bs 7) ||| ((nb bs 6) * 256)) ((nb bs 5) * 65536) 24 (by have := nb_lt bs 7; have := nb_lt bs 6; have := or_lt_ (nb bs 7) ((nb bs 6) * 256) 16 (by have := nb_lt bs 7; omega) (by have := nb_lt bs 6; omega); omega) (by have := nb_lt bs 5; omega); have := nb_lt bs 4; have := or_lt_ (((nb bs 7) ||| ((nb bs 6) * 256)) ||| ((nb bs 5) * 65536)) ((nb bs 4) * 16777216) 32 (by have := nb_lt bs 7; have := nb_lt bs 6; have := or_lt_ (nb bs 7) ((nb bs 6) * 256) 16 (by have := nb_lt bs 7; omega) (by have := nb_lt bs 6; omega); have := nb_lt bs 5; have := or_lt_ ((nb bs 7) ||| ((nb bs 6) * 256)) ((nb bs 5) * 65536) 24 (by have := nb_lt bs 7; have := nb_lt bs 6; have := or_lt_ (nb bs 7) ((nb bs 6) * 256) 16 (by have := nb_lt bs 7; omega) (by have := nb_lt bs 6; omega); omega) (by have := nb_lt bs 5; omega); omega) (by have := nb_lt bs 4; omega); omega) (by have := nb_lt bs 3; omega); omega) (by have := nb_lt bs 2; omega); have := nb_lt bs 1; have := or_lt_ ((((((nb bs 7) ||| ((nb bs 6) * 256)) ||| ((nb bs 5) * 65536)) ||| ((nb bs 4) * 16777216)) ||| ((nb bs 3) * 4294967296)) ||| ((nb bs 2) * 1099511627776)) ((nb bs 1) * 281474976710656) 56 (by have := nb_lt bs 7; have := nb_lt bs 6; have := or_lt_ (nb bs 7) ((nb bs 6) * 256) 16 (by have := nb_lt bs 7; omega) (by have := nb_lt bs 6; omega); have := nb_lt bs 5; have := or_lt_ ((nb bs 7) ||| ((nb bs 6) * 256)) ((nb bs 5) * 65536) 24 (by have := nb_lt bs 7; have := nb_lt bs 6; have := or_lt_ (nb bs 7) ((nb bs 6) * 256) 16 (by have := nb_lt bs 7; omega) (by have := nb_lt bs 6; omega); omega) (by have := nb_lt bs 5; omega); have := nb_lt bs 4; have := or_lt_ (((nb bs 7) ||| ((nb bs 6) * 256)) ||| ((nb bs 5) * 65536)) ((nb bs 4) * 16777216) 32 (by have := nb_lt bs 7; have := nb_lt bs 6; have := or_lt_ (nb bs 7) ((nb bs 6) * 256) 16 (by have := nb_lt bs 7; omega) (by have := nb_lt bs 6; omega); have := nb_lt bs 5; have := or_lt_ ((nb bs 7) ||| ((nb bs 6) * 256)) ((nb bs 5) * 65536) 24 (by have := nb_lt bs 7; have := nb_lt bs 6; have := or_lt_ (nb bs 7) ((nb bs 6) * 256) 16 (by have := nb_lt bs 7; omega) (by have := nb_lt bs 6; omega); omega) (by have := nb_lt bs 5; omega); omega) (by have := nb_lt bs 4; omega); have := nb_lt bs 3; have := or_lt_ ((((nb bs 7) ||| ((nb bs 6) * 256)) ||| ((nb bs 5) * 65536)) ||| ((nb bs 4) * 16777216)) ((nb bs 3) * 4294967296) 40 (by have := nb_lt bs 7; have := nb_lt bs 6; have := or_lt_ (nb bs 7) ((nb bs 6) * 256) 16 (by have := nb_lt bs 7; omega) (by have := nb_lt bs 6; omega); have := nb_lt bs 5; have := or_lt_ ((nb bs 7) ||| ((nb bs 6) * 256)) ((nb bs 5) * 65536) 24 (by have := nb_lt bs 7; have := nb_lt bs 6; have := or_lt_ (nb bs 7) ((nb bs 6) * 256) 16 (by have := nb_lt bs 7; omega) (by have := nb_lt bs 6; omega); omega) (by have := nb_lt bs 5; omega); have := nb_lt bs 4; have := or_lt_ (((nb bs 7) ||| ((nb bs 6) * 256)) ||| ((nb bs 5) * 65536)) ((nb bs 4) * 16777216) 32 (by have := nb_lt bs 7; have := nb_lt bs 6; have := or_lt_ (nb bs 7) ((nb bs 6) * 256) 16 (by have := nb_lt bs 7; omega) (by have := nb_lt bs 6; omega); have := nb_lt bs 5; have := or_lt_ ((nb bs 7) ||| ((nb bs 6) * 256)) ((nb bs 5) * 65536) 24 (by have := nb_lt bs 7; have := nb_lt bs 6; have := or_lt_ (nb bs 7) ((nb bs 6) * 256) 16 (by have := nb_lt bs 7; omega) (by have := nb_lt bs 6; omega); omega) (by have := nb_lt bs 5; omega); omega) (by have := nb_lt bs 4; omega); omega) (by have := nb_lt bs 3; omega); have := nb_lt bs 2; have := or_lt_ (((((nb bs 7) ||| ((nb bs 6) * 256)) ||| ((nb bs 5) * 65536)) ||| ((nb bs 4) * 16777216)) ||| ((nb bs 3) * 4294967296)) ((nb bs 2) * 1099511627776) 48 (by have := nb_lt bs 7; have := nb_lt bs 6; have := or_lt_ (nb bs 7) ((nb bs 6) * 256) 16 (by have := nb_lt bs 7; omega) (by have := nb_lt bs 6; omega); have := nb_lt bs 5; have := or_lt_ ((nb bs 7) ||| ((nb bs 6) * 256)) ((nb bs 5) * 65536) 24 (by have := nb_lt bs 7; have := nb_lt bs 6; have := or_lt_ (nb bs 7) ((nb bs 6) * 256) 16 (by have := nb_lt bs 7; omega) (by have := nb_lt bs 6; omega); omega) (by have := nb_lt bs 5; omega); have := nb_lt bs 4; have := or_lt_ (((nb bs 7) ||| ((nb bs 6) * 256)) ||| ((nb bs 5) * 65536)) ((nb bs 4) * 16777216) 32 (by have := nb_lt bs 7; have := nb_lt bs 6; have := or_lt_ (nb bs 7) ((nb bs 6) * 256) 16 (by have := nb_lt bs 7; omega) (by have := nb_lt bs 6; omega); have := nb_lt bs 5; have := or_lt_ ((nb bs 7) ||| ((nb bs 6) * 256)) ((nb bs 5) * 65536) 24 (by have := nb_lt bs 7; have := nb_lt bs 6; have := or_lt_ (nb bs 7) ((nb bs 6) * 256) 16 (by have := nb_lt bs 7; omega) (by have := nb_lt bs 6; omega); omega) (by have := nb_lt bs 5; omega); omega) (by have := nb_lt bs 4; omega); have := nb_lt bs 3; have := or_lt_ ((((nb bs 7) ||| ((nb bs 6) * 256)) ||| ((nb bs 5) * 65536)) ||| ((nb bs 4) * 16777216)) ((nb bs 3) * 4294967296) 40 (by have := nb_lt bs 7; have := nb_lt bs 6; have := or_lt_ (nb bs 7) ((nb bs 6) * 256) 16 (by have := nb_lt bs 7; omega) (by have := nb_lt bs 6; omega); have := nb_lt bs 5; have := or_lt_ ((nb bs 7) ||| ((nb bs 6) * 256)) ((nb bs 5) * 65536) 24 (by have := nb_lt bs 7; have := nb_lt bs 6; have := or_lt_ (nb bs 7) ((nb bs 6) * 256) 16 (by have := nb_lt bs 7; omega) (by have := nb_lt bs 6; omega); omega) (by have := nb_lt bs 5; omega); have := nb_lt bs 4; have := or_lt_ (((nb bs 7) ||| ((nb bs 6) * 256)) ||| ((nb bs 5) * 65536)) ((nb bs 4) * 16777216) 32 (by have := nb_lt bs 7; have := nb_lt bs 6; have := or_lt_ (nb bs 7) ((nb bs 6) * 256) 16 (by have := nb_lt bs 7; omega) (by have := nb_lt bs 6; omega); have := nb_lt bs 5; have := or_lt_ ((nb bs 7) ||| ((nb bs 6) * 256)) ((nb bs 5) * 65536) 24 (by have := nb_lt bs 7; have := nb_lt bs 6; have := or_lt_ (nb bs 7) ((nb bs 6) * 256) 16 (by have := nb_lt bs 7; omega) (by have := nb_lt bs 6; omega); omega) (by have := nb_lt bs 5; omega); omega) (by have := nb_lt bs 4; omega); omega) (by have := nb_lt bs 3; omega); omega) (by have := nb_lt bs 2; omega); omega) (by have := nb_lt bs 1; omega); omega) (show (nb bs 0) * 72057594037927936 < 18446744073709551616 by have := nb_lt bs 0; omega)) (a := (((((((nb bs 7) ||| ((nb bs 6) * 256)) ||| ((nb bs 5) * 65536)) ||| ((nb bs 4) * 16777216)) ||| ((nb bs 3) * 4294967296)) ||| ((nb bs 2) * 1099511627776)) ||| ((nb bs 1) * 281474976710656)) ||| ((nb bs 0) * 72057594037927936)) (b := bN bs 0 8) (raw8 bs)) ?_
  refine dq rfl (q_assign rfl) ?_
  refine QL.nil ?_
  refine dend (by kernel_rfl) ?_
  refine eseq ?_
  refine HT.ret ?_
  exact fun a ha w' hw => fin_ ha (res1 ha Tryz.results102 rfl) ⟨rfl, hw.pres⟩

theorem U64 (w : World) (A : Option Addr) (n c : Nat) (r : List UInt8) {lo hi : Nat} (h : (Byt A n c r).ok w) (h1 : lo + 8 ≤ hi) (h2 : hi ≤ n) :
    Calls Tryz.prog 102 #[(.agg #[]), (.slice (cutA A c lo) (hi - lo) (c - lo))] w (fun e w' => e = .returned (.int .u64 ((bN r lo 8 : Nat) : Int)) ∧ Pres [] w w') := by
  have h := U64Raw w (cutA A c lo) (hi - lo) (c - lo) (sl r lo hi) (by omega) (St.start1 (M := []) (Byt.cut h (by omega) h2))
  rw [bN_sl 0 8 (by omega)] at h
  exact h

theorem L32Raw (w : World) (A : Option Addr) (n : Nat) (c : Nat) (bs : List UInt8) (h1 : 4 ≤ n) (hst : St w [] [] [Byt A n c bs] w) : Calls Tryz.prog 101 #[(.agg #[]), (.slice A n c)] w (fun e w' => e = .returned (.int .u32 ((lN bs 0 : Nat) : Int)) ∧ Pres [] w w') := by
  have hnc00 : n ≤ c := (hst.fact (j := 0) rfl).2.1
  refine enter (vs := [(.agg #[]), (.slice A n c)]) Tryz.func101 rfl rfl rfl hst ?_
  refine HT.seq ?_
  refine HT.plain ?_
  refine sl_ (l_box (by decide) rfl fun b2 => ?_)
  refine sq (St.closed _ _ _ _) (q_assign rfl) rfl ?_
  refine send ?_
  refine eseq ?_
  refine HT.seq ?_
  refine HT.plain ?_
  refine sq (St.closed _ _ _ _) (q_move rfl) rfl ?_
  refine sq (St.closed _ _ _ _) (q_index (i := 3) (j := 0) rfl rfl Tryz.underlying22 nagg_5 (fun _ h => h) rfl (by omega)) rfl ?_
  refine sq (St.closed _ _ _ _) (q_byte (i := 3) (j := 0) rfl nagg_5 (fun _ h => h) rfl (by omega)) rfl ?_
  refine send ?_
  refine eseq ?_
  refine HT.seq ?_
  refine HT.drawnS mixed (St.closed _ _ _ _) ?_
  refine dtake (f := 0) [0, 1, 2, 3, 4, 5, 6, 7, 8, 9, 10, 11, 12, 13, 14, 15, 16, 17, 18, 19, 20, 21, 22] (by kernel_rfl) (St.closed _ _ _ _) (fun _ h => h) (by kernel_rfl) ?_
  refine dq rfl (q_move rfl) ?_
  refine dq rfl (q_index (i := 0) (j := 0) rfl rfl Tryz.underlying22 nagg_5 (fun _ h => h) rfl (by omega)) ?_
  refine dq rfl (q_byte (i := 0) (j := 0) rfl nagg_5 (fun _ h => h) rfl (by omega)) ?_
  refine dq rfl (q_convn (p := nb bs 0) rfl Tryz.underlying5 Tryz.underlying111 (show nb bs 0 < 4294967296 by have := nb_lt bs 0; omega)) ?_
  refine dq rfl (q_move rfl) ?_
  refine dq rfl (q_index (i := 1) (j := 0) rfl rfl Tryz.underlying22 nagg_5 (fun _ h => h) rfl (by omega)) ?_
  refine dq rfl (q_byte (i := 1) (j := 0) rfl nagg_5 (fun _ h => h) rfl (by omega)) ?_
  refine dq rfl (q_convn (p := nb bs 1) rfl Tryz.underlying5 Tryz.underlying111 (show nb bs 1 < 4294967296 by have := nb_lt bs 1; omega)) ?_
  refine dq rfl (q_shl (p := nb bs 1) (e := 8) (N := 256) rfl rfl (by decide) rfl (show (nb bs 1) * 256 < 4294967296 by have := nb_lt bs 1; omega)) ?_
  refine dq rfl (q_or (p := nb bs 0) (q := (nb bs 1) * 256) rfl rfl rfl (show nb bs 0 < 4294967296 by have := nb_lt bs 0; omega) (show (nb bs 1) * 256 < 4294967296 by have := nb_lt bs 1; omega)) ?_
  refine dq rfl (q_move rfl) ?_
  refine dq rfl (q_index (i := 2) (j := 0) rfl rfl Tryz.underlying22 nagg_5 (fun _ h => h) rfl (by omega)) ?_
  refine dq rfl (q_byte (i := 2) (j := 0) rfl nagg_5 (fun _ h => h) rfl (by omega)) ?_
  refine dq rfl (q_convn (p := nb bs 2) rfl Tryz.underlying5 Tryz.underlying111 (show nb bs 2 < 4294967296 by have := nb_lt bs 2; omega)) ?_
  refine dq rfl (q_shl (p := nb bs 2) (e := 16) (N := 65536) rfl rfl (by decide) rfl (show (nb bs 2) * 65536 < 4294967296 by have := nb_lt bs 2; omega)) ?_
  refine dq rfl (q_or (p := (nb bs 0) ||| ((nb bs 1) * 256)) (q := (nb bs 2) * 65536) rfl rfl rfl (show (nb bs 0) ||| ((nb bs 1) * 256) < 4294967296 by have := nb_lt bs 0; have := nb_lt bs 1; have := or_lt_ (nb bs 0) ((nb bs 1) * 256) 16 (by have := nb_lt bs 0; omega) (by have := nb_lt bs 1; omega); omega) (show (nb bs 2) * 65536 < 4294967296 by have := nb_lt bs 2; omega)) ?_
  refine dq rfl (q_move rfl) ?_
  refine dq rfl (q_index (i := 3) (j := 0) rfl rfl Tryz.underlying22 nagg_5 (fun _ h => h) rfl (by omega)) ?_
  refine dq rfl (q_byte (i := 3) (j := 0) rfl nagg_5 (fun _ h => h) rfl (by omega)) ?_
  refine dq rfl (q_convn (p := nb bs 3) rfl Tryz.underlying5 Tryz.underlying111 (show nb bs 3 < 4294967296 by have := nb_lt bs 3; omega)) ?_
  refine dq rfl (q_shl (p := nb bs 3) (e := 24) (N := 16777216) rfl rfl (by decide) rfl (show (nb bs 3) * 16777216 < 4294967296 by have := nb_lt bs 3; omega)) ?_
  refine dq rfl (q_N (q_or (p := ((nb bs 0) ||| ((nb bs 1) * 256)) ||| ((nb bs 2) * 65536)) (q := (nb bs 3) * 16777216) rfl rfl rfl (show ((nb bs 0) ||| ((nb bs 1) * 256)) ||| ((nb bs 2) * 65536) < 4294967296 by have := nb_lt bs 0; have := nb_lt bs 1; have := or_lt_ (nb bs 0) ((nb bs 1) * 256) 16 (by have := nb_lt bs 0; omega) (by have := nb_lt bs 1; omega); have := nb_lt bs 2; have := or_lt_ ((nb bs 0) ||| ((nb bs 1) * 256)) ((nb bs 2) * 65536) 24 (by have := nb_lt bs 0; have := nb_lt bs 1; have := or_lt_ (nb bs 0) ((nb bs 1) * 256) 16 (by have := nb_lt bs 0; omega) (by have := nb_lt bs 1; omega); omega) (by have := nb_lt bs 2; omega); omega) (show (nb bs 3) * 16777216 < 4294967296 by have := nb_lt bs 3; omega)) (a := (((nb bs 0) ||| ((nb bs 1) * 256)) ||| ((nb bs 2) * 65536)) ||| ((nb bs 3) * 16777216)) (b := lN bs 0) (rawl4 bs)) ?_
  refine dq rfl (q_assign rfl) ?_
  refine QL.nil ?_
  refine dend (by kernel_rfl) ?_
  refine eseq ?_
  refine HT.ret ?_
  exact fun a ha w' hw => fin_ ha (res1 ha Tryz.results101 rfl) ⟨rfl, hw.pres⟩

theorem L32 (w : World) (A : Option Addr) (n c : Nat) (r : List UInt8) {lo hi : Nat} (h : (Byt A n c r).ok w) (h1 : lo + 4 ≤ hi) (h2 : hi ≤ n) :
    Calls Tryz.prog 101 #[(.agg #[]), (.slice (cutA A c lo) (hi - lo) (c - lo))] w (fun e w' => e = .returned (.int .u32 ((lN r lo : Nat) : Int)) ∧ Pres [] w w') := by
  have h := L32Raw w (cutA A c lo) (hi - lo) (c - lo) (sl r lo hi) (by omega) (St.start1 (M := []) (Byt.cut h (by omega) h2))
  have e : lN (sl r lo hi) 0 = lN r lo := by
    simp only [lN]
    rw [nb_sl (by omega), nb_sl (by omega), nb_sl (by omega), nb_sl (by omega)]
    simp
  rw [e] at h
  exact h

theorem NumberRaw (w : World) (A : Option Addr) (n : Nat) (c : Nat) (bs : List UInt8) (h8 : n ≤ 8) (hst : St w [] [] [Byt A n c bs] w) : Calls Tryz.prog 34 #[(.slice A n c)] w (fun e w' => e = .returned (.int .u64 ((bN bs 0 n : Nat) : Int)) ∧ Pres [] w w') := by
  have hnc00 : n ≤ c := (hst.fact (j := 0) rfl).2.1
  refine enter (vs := [(.slice A n c)]) Tryz.func34 rfl rfl rfl hst ?_
  refine HT.seq ?_
  refine HT.plain ?_
  refine sq (St.closed _ _ _ _) (q_assign rfl) rfl ?_
  refine send ?_
  refine eseq ?_
  refine HT.seq ?_
  refine HT.plain ?_
  refine sq (St.closed _ _ _ _) (q_assign rfl) rfl ?_
  refine send ?_
  refine eseq ?_
  refine HT.seq ?_
  refine HT.seq ?_
  refine HT.plain ?_
  refine sq (St.closed _ _ _ _) (q_move rfl) rfl ?_
  refine sq (St.closed _ _ _ _) (q_len (len := n) rfl Tryz.underlying22) rfl ?_
  refine sq (St.closed _ _ _ _) (q_move rfl) rfl ?_
  refine send ?_
  refine eseq ?_
  refine HT.block ?_
  refine HT.loop (ι := {i : Nat // i ≤ n}) (fun i => [(0, (.slice A n c)), (2, (.int .u64 ((0 : Nat) : Int))), (3, (.int .u64 ((bN bs 0 i.1 : Nat) : Int))), (6, (.slice A n c)), (7, (.int .i64 ((n : Nat) : Int))), (8, (.int .i64 ((i.1 : Nat) : Int)))]) (fun _ => St w [] [] [Byt A n c bs]) (fun i => n - i.1) ⟨0, Nat.zero_le _⟩ ⟨rfl, rfl, rfl, rfl, rfl, rfl, trivial⟩ (fun _ h => h) fun ⟨i, hi⟩ => ?_
  refine HT.seq ?_
  refine HT.plain ?_
  refine sq (St.closed _ _ _ _) (q_lt (p := i) (q := n) rfl rfl) rfl ?_
  refine send ?_
  refine eseq ?_
  refine HT.seq ?_
  refine condd rfl (fun h1 => ?_) (fun h1 => ?_)
  · refine HT.skip ?_
    refine eseq ?_
    refine HT.seq ?_
    refine HT.block ?_
    refine HT.seq ?_
    refine HT.plain ?_
    refine sq (St.closed _ _ _ _) (q_index (i := i) (j := 0) rfl rfl Tryz.underlying22 nagg_5 (fun _ h => h) rfl (by omega)) rfl ?_
    refine sq (St.closed _ _ _ _) (q_byte (i := i) (j := 0) rfl nagg_5 (fun _ h => h) rfl (by omega)) rfl ?_
    refine sq (St.closed _ _ _ _) (q_assign rfl) rfl ?_
    refine send ?_
    refine eseq ?_
    refine HT.plain ?_
    refine sq (St.closed _ _ _ _) (q_move rfl) rfl ?_
    refine sq (St.closed _ _ _ _) (q_shl (p := bN bs 0 i) (e := 8) (N := 256) rfl rfl (by decide) rfl (show (bN bs 0 i) * 256 < 18446744073709551616 by have := bN_lt7 bs i (by omega); omega)) rfl ?_
    refine sq (St.closed _ _ _ _) (q_move rfl) rfl ?_
    refine sq (St.closed _ _ _ _) (q_convn (p := nb bs i) rfl Tryz.underlying5 Tryz.underlying39 (show nb bs i < 18446744073709551616 by have := nb_lt bs i; omega)) rfl ?_
    refine sq (St.closed _ _ _ _) (q_N (q_or (p := (bN bs 0 i) * 256) (q := nb bs i) rfl rfl rfl (show (bN bs 0 i) * 256 < 18446744073709551616 by have := bN_lt7 bs i (by omega); omega) (show nb bs i < 18446744073709551616 by have := nb_lt bs i; omega)) (a := ((bN bs 0 i) * 256) ||| (nb bs i)) (b := bN bs 0 (i + 1)) (bN_step bs i)) rfl ?_
    refine sq (St.closed _ _ _ _) (q_assign rfl) rfl ?_
    refine send ?_
    refine ein ?_
    refine eseq ?_
    refine HT.plain ?_
    refine sq (St.closed _ _ _ _) (q_add (p := i) (q := 1) rfl rfl (show i + 1 < 9223372036854775808 by omega)) rfl ?_
    refine sq (St.closed _ _ _ _) (q_move rfl) rfl ?_
    refine send ?_
    exact eround ⟨i + 1, by omega⟩ (show n - (i + 1) < n - i by omega) ⟨rfl, rfl, rfl, rfl, rfl, rfl, trivial⟩ (fun _ h => h)
  · refine HT.exit ?_
    refine ex_then ?_
    refine ex_then ?_
    refine ex_in ?_
    refine eseq ?_
    refine HT.seq ?_
    refine HT.plain ?_
    refine sq (St.closed _ _ _ _) (q_move rfl) rfl ?_
    refine sq (St.closed _ _ _ _) (q_assign rfl) rfl ?_
    refine send ?_
    refine eseq ?_
    refine HT.ret ?_
    have e : i = n := by omega
    subst e
    exact fun a ha w' hw => fin_ ha (res1 ha Tryz.results34 rfl) ⟨rfl, hw.pres⟩

theorem NumberC (w : World) (A : Option Addr) (n c : Nat) (r : List UInt8) {lo hi k : Nat} (h : (Byt A n c r).ok w) (hk : hi - lo = k) (h8 : k ≤ 8) (h1 : lo ≤ hi) (h2 : hi ≤ n) :
    Calls Tryz.prog 34 #[(.slice (cutA A c lo) (hi - lo) (c - lo))] w (fun e w' => e = .returned (.int .u64 ((bN r lo k : Nat) : Int)) ∧ Pres [] w w') := by
  have h := NumberRaw w (cutA A c lo) (hi - lo) (c - lo) (sl r lo hi) (by omega) (St.start1 (M := []) (Byt.cut h h1 h2))
  subst hk
  rw [bN_sl 0 (hi - lo) (by omega)] at h
  exact h

theorem rev4 (bs : List UInt8) : bN [bs.getD 3 0, bs.getD 2 0, bs.getD 1 0, bs.getD 0 0] 0 4 = lN bs 0 := by
  have e : ∀ (l : List UInt8) (i : Nat), nb l i = (l.getD i 0).toNat := fun _ _ => rfl
  simp only [bN, lN, e]
  simp
  omega
theorem Number4 {w0 : World} {M : List Nat} {K : List Kb} {B : List Fact} {w : World} (h : St w0 M K B w) (bs : List UInt8) (b : Nat) {j : Nat} (hk : K[j]? = some ⟨b, 5, [some (.int .u8 ((nb bs 3 : Nat) : Int)), some (.int .u8 ((nb bs 2 : Nat) : Int)), some (.int .u8 ((nb bs 1 : Nat) : Int)), some (.int .u8 ((nb bs 0 : Nat) : Int))], true⟩) :
    Calls Tryz.prog 34 #[(.slice (some ⟨b, 0, none⟩) 4 4)] w (fun e w' => e = .returned (.int .u64 ((lN bs 0 : Nat) : Int)) ∧ Pres [] w w') := by
  have hb := (h.kb hk).byt (bs := [bs.getD 3 0, bs.getD 2 0, bs.getD 1 0, bs.getD 0 0]) rfl
  have := NumberRaw w (some ⟨b, 0, none⟩) 4 4 [bs.getD 3 0, bs.getD 2 0, bs.getD 1 0, bs.getD 0 0] (by decide) (St.start1 (M := []) hb)
  rw [rev4] at this
  exact this

theorem clone (w : World) (A : Option Addr) (n : Nat) (c : Nat) (bs : List UInt8) (hn : n ≤ 2147483647) (hst : St w [] [] [Byt A n c bs] w) : Calls Tryz.prog 60 #[(.slice A n c)] w (CP2 w [] [Byt A n c bs] (fun A5 c5 => (.slice A5 n c5)) (fun A5 c5 => []) (fun A5 c5 => [Byt A5 n c5 bs])) := by
  have hnc00 : n ≤ c := (hst.fact (j := 0) rfl).2.1
  refine enter (vs := [(.slice A n c)]) Tryz.func60 rfl rfl rfl hst ?_
  refine HT.seq ?_
  refine HT.plain ?_
  refine sq (St.closed _ _ _ _) (q_assign rfl) rfl ?_
  refine send ?_
  refine eseq ?_
  refine HT.seq ?_
  refine HT.plain ?_
  refine sq (St.closed _ _ _ _) (q_move rfl) rfl ?_
  refine sl_ (l_append0 (by decide) rfl rfl Tryz.underlying22 byteT_5 (j := 0) rfl (by omega) fun i4 hf4 => ?_)
  refine sq (St.closed _ _ _ _) (q_assign rfl) rfl ?_
  refine send ?_
  refine eseq ?_
  refine HT.ret ?_
  exact fun a ha w' hw => fin_ ha (res1 ha Tryz.results60 rfl) ⟨i4.1, i4.2, rfl, hw, (fr1 hf4 fr0)⟩

theorem q_appendNil {P : Program} {n : Nat} {S : World → Prop} {m : Mp} {d : Option Tmp} {ty : TypeId} {pos : String} {af : Array Edge} {g : Option (Nat × Bool)} {s x : Operand} {st e : Nat}
    (hs : ev m s = some (.slice none 0 0)) (hx : ev m x = some (.slice none 0 0)) (hst : P.underlying st = some (.slice e)) (he : byteT P e) : QF P n S ⟨d, .call ⟨.builtin .append, #[s, x], #[st, st]⟩, ty, pos, af, g⟩ m (.slice none 0 0) := by
  intro a ha w hw
  obtain ⟨i, hi, _⟩ := he
  rw [run_appendOp (ha.ev hs) (ha.ev hx) (run_append_none (ty := ty) hst hi w)]
  exact ⟨rfl, rfl⟩

theorem cloneNil (w : World)   (hst : St w [] [] [] w) : Calls Tryz.prog 60 #[(.slice none 0 0)] w (fun e w' => e = .returned (.slice none 0 0) ∧ Pres [] w w') := by
  refine enter (vs := [(.slice none 0 0)]) Tryz.func60 rfl rfl rfl hst ?_
  refine HT.seq ?_
  refine HT.plain ?_
  refine sq (St.closed _ _ _ _) (q_assign rfl) rfl ?_
  refine send ?_
  refine eseq ?_
  refine HT.seq ?_
  refine HT.plain ?_
  refine sq (St.closed _ _ _ _) (q_move rfl) rfl ?_
  refine sq (St.closed _ _ _ _) (q_appendNil rfl rfl Tryz.underlying22 byteT_5) rfl ?_
  refine sq (St.closed _ _ _ _) (q_assign rfl) rfl ?_
  refine send ?_
  refine eseq ?_
  refine HT.ret ?_
  exact fun a ha w' hw => fin_ ha (res1 ha Tryz.results60 rfl) ⟨rfl, hw.pres⟩

theorem St.addNone {w0 : World} {M : List Nat} {K : List Kb} {B : List Fact} {w : World} (h : St w0 M K B w) : St w0 M K (B ++ [Byt none 0 0 []]) w :=
  ⟨h.pres, h.ok, h.nd, h.wr, fun φ hφ => (List.mem_append.1 hφ).elim (h.facts φ) fun h => by rw [List.mem_singleton.1 h]; exact ⟨rfl, Nat.le_refl _, fun h => absurd rfl h⟩, fun φ hφ k hk hr hf => by
    rcases List.mem_append.1 hφ with hφ | hφ
    · exact h.apart φ hφ k hk hr hf
    · rw [List.mem_singleton.1 hφ] at hf; exact absurd rfl hf.1⟩

theorem CloneN (w : World) (n : Nat) (c : Nat) (bs : List UInt8) (hn : n ≤ 2147483647) (hb0 : bs = []) (hn0 : n = 0) (hst : St w [] [] [Byt none n c bs] w) : Calls Tryz.prog 59 #[(.slice none n c)] w (CP2 w [] [Byt none n c bs] (fun A5 c5 => (.slice A5 n c5)) (fun A5 c5 => []) (fun A5 c5 => [Byt A5 n c5 bs])) := by
  have hnc00 : n ≤ c := (hst.fact (j := 0) rfl).2.1
  refine enter (vs := [(.slice none n c)]) Tryz.func59 rfl rfl rfl hst ?_
  refine HT.seq ?_
  refine HT.plain ?_
  refine sq (St.closed _ _ _ _) (q_assign rfl) rfl ?_
  refine send ?_
  refine eseq ?_
  refine HT.seq ?_
  refine HT.seq ?_
  refine HT.plain ?_
  refine sq (St.closed _ _ _ _) (q_move rfl) rfl ?_
  refine sq (St.closed _ _ _ _) (q_eqNil rfl rfl Tryz.underlying22 (r := true) rfl) rfl ?_
  refine send ?_
  refine eseq ?_
  refine HT.yes rfl ?_
  refine HT.seq ?_
  refine HT.plain ?_
  refine sq (St.closed _ _ _ _) (q_assign rfl) rfl ?_
  refine send ?_
  refine eseq ?_
  refine HT.ret ?_
  refine rt_then ?_
  subst hn0; subst hb0
  exact fun a ha w' hw => fin_ ha (res1 ha Tryz.results59 rfl) ⟨none, 0, rfl, hw.addNone, fr1 (fun _ h => absurd rfl h.1) fr0⟩

theorem CloneS (w : World) (a : Addr) (n : Nat) (c : Nat) (bs : List UInt8) (hn : n ≤ 2147483647) (hst : St w [] [] [Byt (some a) n c bs] w) : Calls Tryz.prog 59 #[(.slice (some a) n c)] w (CP2 w [] [Byt (some a) n c bs] (fun A5 c5 => (.slice A5 n c5)) (fun A5 c5 => []) (fun A5 c5 => [Byt A5 n c5 bs])) := by
  have hnc00 : n ≤ c := (hst.fact (j := 0) rfl).2.1
  refine enter (vs := [(.slice (some a) n c)]) Tryz.func59 rfl rfl rfl hst ?_
  refine HT.seq ?_
  refine HT.plain ?_
  refine sq (St.closed _ _ _ _) (q_assign rfl) rfl ?_
  refine send ?_
  refine eseq ?_
  refine HT.seq ?_
  refine HT.seq ?_
  refine HT.plain ?_
  refine sq (St.closed _ _ _ _) (q_move rfl) rfl ?_
  refine sq (St.closed _ _ _ _) (q_eqNil rfl rfl Tryz.underlying22 (r := false) rfl) rfl ?_
  refine send ?_
  refine eseq ?_
  refine HT.no rfl ?_
  refine HT.skip ?_
  refine eseq ?_
  refine HT.seq ?_
  refine HT.plain ?_
  refine sl_ (l_buildSlice (e := 5) (vs := []) (cs := []) (by decide) rfl (fun _ => by kernel_rfl) fun b5 => ?_)
  refine sq (St.closed _ _ _ _) (q_move rfl) rfl ?_
  refine sl_ (l_append1 (by decide) rfl rfl Tryz.underlying22 byteT_5 (q := 0) (j := 0) rfl rfl (by omega) fun i7 hf7 => ?_)
  refine sq (St.closed _ _ _ _) (q_assign rfl) rfl ?_
  refine send ?_
  refine eseq ?_
  refine HT.ret ?_
  exact fun a ha w' hw => fin_ ha (res1 ha Tryz.results59 rfl) ⟨i7.1, i7.2, rfl, hw, (fr1 hf7 fr0)⟩

theorem Clone (w : World) (A : Option Addr) (n : Nat) (c : Nat) (bs : List UInt8) (hn : n ≤ 2147483647) (hst : St w [] [] [Byt A n c bs] w) : Calls Tryz.prog 59 #[(.slice A n c)] w (CP2 w [] [Byt A n c bs] (fun A5 c5 => (.slice A5 n c5)) (fun A5 c5 => []) (fun A5 c5 => [Byt A5 n c5 bs])) := by
  cases A with
  | none =>
    have hb := hst.fact (j := 0) rfl
    have h0 : bs = [] := Classical.byContradiction fun h => by obtain ⟨_, hA, _⟩ := hb.2.2 h; cases hA
    exact CloneN w n c bs hn h0 (by rw [hb.1, h0]; rfl) hst
  | some a => exact CloneS w a n c bs hn hst

theorem errNew (w : World) (s : ByteArray)  (hst : St w [] [] [] w) : Calls Tryz.prog 67 #[(.string s)] w (CP1 w [] [] (fun b5 => (.iface 204 (.pointer (some ⟨b5, 0, none⟩)))) (fun b5 => [⟨b5, 206, [some (.string s)], true⟩]) (fun b5 => [])) := by
  refine enter (vs := [(.string s)]) Tryz.func67 rfl rfl rfl hst ?_
  refine HT.seq ?_
  refine HT.plain ?_
  refine sq (St.closed _ _ _ _) (q_assign rfl) rfl ?_
  refine send ?_
  refine eseq ?_
  refine HT.seq ?_
  refine HT.plain ?_
  refine sq (St.closed _ _ _ _) (q_move rfl) rfl ?_
  refine sq (St.closed _ _ _ _) (q_build (vs := [(0, (.string s))]) (v := (.agg #[(.string s)])) rfl (fun _ => by kernel_rfl)) rfl ?_
  refine sl_ (l_box (by decide) rfl fun b5 => ?_)
  refine sq (St.closed _ _ _ _) (q_iface rfl Tryz.underlying204 (fun _ h => nomatch h)) rfl ?_
  refine sq (St.closed _ _ _ _) (q_assign rfl) rfl ?_
  refine send ?_
  refine eseq ?_
  refine HT.ret ?_
  exact fun a ha w' hw => fin_ ha (res1 ha Tryz.results67 rfl) ⟨b5, rfl, hw, fr0⟩

theorem bitCT (w : World)   (hst : St w [] [] [] w) : Calls Tryz.prog 61 #[(.bool true)] w (fun e w' => e = .returned (.int .u64 ((1 : Nat) : Int)) ∧ Pres [] w w') := by
  refine enter (vs := [(.bool true)]) Tryz.func61 rfl rfl rfl hst ?_
  refine HT.seq ?_
  refine HT.plain ?_
  refine sq (St.closed _ _ _ _) (q_assign rfl) rfl ?_
  refine send ?_
  refine eseq ?_
  refine HT.seq ?_
  refine HT.seq ?_
  refine HT.plain ?_
  refine sq (St.closed _ _ _ _) (q_move rfl) rfl ?_
  refine send ?_
  refine eseq ?_
  refine HT.yes rfl ?_
  refine HT.seq ?_
  refine HT.plain ?_
  refine sq (St.closed _ _ _ _) (q_assign rfl) rfl ?_
  refine send ?_
  refine eseq ?_
  refine HT.ret ?_
  refine rt_then ?_
  exact fun a ha w' hw => fin_ ha (res1 ha Tryz.results61 rfl) ⟨rfl, hw.pres⟩

theorem bitCF (w : World)   (hst : St w [] [] [] w) : Calls Tryz.prog 61 #[(.bool false)] w (fun e w' => e = .returned (.int .u64 ((0 : Nat) : Int)) ∧ Pres [] w w') := by
  refine enter (vs := [(.bool false)]) Tryz.func61 rfl rfl rfl hst ?_
  refine HT.seq ?_
  refine HT.plain ?_
  refine sq (St.closed _ _ _ _) (q_assign rfl) rfl ?_
  refine send ?_
  refine eseq ?_
  refine HT.seq ?_
  refine HT.seq ?_
  refine HT.plain ?_
  refine sq (St.closed _ _ _ _) (q_move rfl) rfl ?_
  refine send ?_
  refine eseq ?_
  refine HT.no rfl ?_
  refine HT.skip ?_
  refine eseq ?_
  refine HT.seq ?_
  refine HT.plain ?_
  refine sq (St.closed _ _ _ _) (q_assign rfl) rfl ?_
  refine send ?_
  refine eseq ?_
  refine HT.ret ?_
  exact fun a ha w' hw => fin_ ha (res1 ha Tryz.results61 rfl) ⟨rfl, hw.pres⟩

theorem bitC (w : World) (x : Bool) (hst : St w [] [] [] w) : Calls Tryz.prog 61 #[(.bool x)] w (fun e w' => e = .returned (.int .u64 ((bitN x : Nat) : Int)) ∧ Pres [] w w') := by
  cases x
  · exact bitCF w hst
  · exact bitCT w hst

theorem truthC (w : World) (x : Nat)  (hst : St w [] [] [] w) : Calls Tryz.prog 54 #[(.int .u64 ((x : Nat) : Int))] w (fun e w' => e = .returned (.int .u64 ((bitN (decide (x ≠ 0)) : Nat) : Int)) ∧ Pres [] w w') := by
  refine enter (vs := [(.int .u64 ((x : Nat) : Int))]) Tryz.func54 rfl rfl rfl hst ?_
  refine HT.seq ?_
  refine HT.plain ?_
  refine sq (St.closed _ _ _ _) (q_assign rfl) rfl ?_
  refine send ?_
  refine eseq ?_
  refine HT.seq ?_
  refine HT.seq ?_
  refine HT.plain ?_
  refine sq (St.closed _ _ _ _) (q_move rfl) rfl ?_
  refine sq (St.closed _ _ _ _) (q_ne (p := x) (q := 0) rfl rfl) rfl ?_
  refine send ?_
  refine eseq ?_
  refine condd rfl (fun h1 => ?_) (fun h1 => ?_)
  · refine HT.seq ?_
    refine HT.plain ?_
    refine sq (St.closed _ _ _ _) (q_assign rfl) rfl ?_
    refine send ?_
    refine eseq ?_
    refine HT.ret ?_
    refine rt_then ?_
    exact fun a ha w' hw => fin_ ha (res1 ha Tryz.results54 rfl) ⟨by simp [h1, bitN], hw.pres⟩
  · refine HT.skip ?_
    refine eseq ?_
    refine HT.seq ?_
    refine HT.plain ?_
    refine sq (St.closed _ _ _ _) (q_assign rfl) rfl ?_
    refine send ?_
    refine eseq ?_
    refine HT.ret ?_
    exact fun a ha w' hw => fin_ ha (res1 ha Tryz.results54 rfl) ⟨by simp [h1, bitN], hw.pres⟩

theorem tenthsC (w : World) (x : Nat) (hx : x < 256) (hst : St w [] [] [] w) : Calls Tryz.prog 56 #[(.int .u8 ((x : Nat) : Int))] w (fun e w' => e = .returned (.int .u64 ((x * 100000000 : Nat) : Int)) ∧ Pres [] w w') := by
  refine enter (vs := [(.int .u8 ((x : Nat) : Int))]) Tryz.func56 rfl rfl rfl hst ?_
  refine HT.seq ?_
  refine HT.plain ?_
  refine sq (St.closed _ _ _ _) (q_assign rfl) rfl ?_
  refine send ?_
  refine eseq ?_
  refine HT.seq ?_
  refine HT.plain ?_
  refine sq (St.closed _ _ _ _) (q_move rfl) rfl ?_
  refine sq (St.closed _ _ _ _) (q_convn (p := x) rfl Tryz.underlying5 Tryz.underlying39 (show x < 18446744073709551616 by have := hx; omega)) rfl ?_
  refine sq (St.closed _ _ _ _) (q_mul (p := x) (q := 100000000) rfl rfl (show x * 100000000 < 18446744073709551616 by have := hx; omega)) rfl ?_
  refine sq (St.closed _ _ _ _) (q_assign rfl) rfl ?_
  refine send ?_
  refine eseq ?_
  refine HT.ret ?_
  exact fun a ha w' hw => fin_ ha (res1 ha Tryz.results56 rfl) ⟨rfl, hw.pres⟩

theorem keyBit (w : World) (e : Nat) (N : Nat) (b : Nat) (x : Nat) (hx : x < 18446744073709551616) (he : e ≤ 64) (hN : 2 ^ e = N) (hN0 : 0 < N) (hst : St w [] [⟨b, 39, [some (.int .u64 ((x : Nat) : Int))], false⟩] [] w) : Calls Tryz.prog 53 #[(.int .i64 ((e : Nat) : Int)), (.pointer (some ⟨b, 0, none⟩))] w (fun e w' => e = .returned (.int .u64 (((x / N) &&& 1 : Nat) : Int)) ∧ Pres [] w w') := by
  refine enter (vs := [(.int .i64 ((e : Nat) : Int)), (.pointer (some ⟨b, 0, none⟩))]) Tryz.func53 rfl rfl rfl hst ?_
  refine HT.seq ?_
  refine HT.plain ?_
  refine sq (St.closed _ _ _ _) (q_assign rfl) rfl ?_
  refine send ?_
  refine eseq ?_
  refine HT.seq ?_
  refine HT.plain ?_
  refine sq (St.closed _ _ _ _) (q_load (b := b) (off := 0) (j := 0) rfl nagg_39 (fun _ h => h) rfl rfl rfl) rfl ?_
  refine sq (St.closed _ _ _ _) (q_move rfl) rfl ?_
  refine sq (St.closed _ _ _ _) (q_shr (p := x) (e := e) (N := N) rfl rfl (show e ≤ 64 by omega) hN) rfl ?_
  refine sq (St.closed _ _ _ _) (q_and (p := x / N) (q := 1) rfl rfl rfl (show x / N < 18446744073709551616 by have := hx; have := Nat.div_le_self x N; omega) (by decide)) rfl ?_
  refine sq (St.closed _ _ _ _) (q_assign rfl) rfl ?_
  refine send ?_
  refine eseq ?_
  refine HT.ret ?_
  exact fun a ha w' hw => fin_ ha (res1 ha Tryz.results53 rfl) ⟨rfl, hw.pres⟩

theorem bfdBit (w : World) (e : Nat) (N : Nat) (b : Nat) (x : Nat) (hx : x < 256) (he : e ≤ 8) (hN : 2 ^ e = N) (hN0 : 0 < N) (hst : St w [] [⟨b, 5, [some (.int .u8 ((x : Nat) : Int))], false⟩] [] w) : Calls Tryz.prog 55 #[(.int .i64 ((e : Nat) : Int)), (.pointer (some ⟨b, 0, none⟩))] w (fun e w' => e = .returned (.int .u64 (((x / N) &&& 1 : Nat) : Int)) ∧ Pres [] w w') := by
  refine enter (vs := [(.int .i64 ((e : Nat) : Int)), (.pointer (some ⟨b, 0, none⟩))]) Tryz.func55 rfl rfl rfl hst ?_
  refine HT.seq ?_
  refine HT.plain ?_
  refine sq (St.closed _ _ _ _) (q_assign rfl) rfl ?_
  refine send ?_
  refine eseq ?_
  refine HT.seq ?_
  refine HT.plain ?_
  refine sq (St.closed _ _ _ _) (q_load (b := b) (off := 0) (j := 0) rfl nagg_5 (fun _ h => h) rfl rfl rfl) rfl ?_
  refine sq (St.closed _ _ _ _) (q_move rfl) rfl ?_
  refine sq (St.closed _ _ _ _) (q_shr (p := x) (e := e) (N := N) rfl rfl (show e ≤ 8 by omega) hN) rfl ?_
  refine sq (St.closed _ _ _ _) (q_and (p := x / N) (q := 1) rfl rfl rfl (show x / N < 256 by have := hx; have := Nat.div_le_self x N; omega) (by decide)) rfl ?_
  refine sq (St.closed _ _ _ _) (q_convn (p := (x / N) &&& 1) rfl Tryz.underlying5 Tryz.underlying39 (show (x / N) &&& 1 < 18446744073709551616 by have := hx; have := Nat.div_le_self x N; have := zm1 (x / N); have := Nat.and_le_left (n := x / N) (m := 1); have := Nat.and_le_right (n := x / N) (m := 1); omega)) rfl ?_
  refine sq (St.closed _ _ _ _) (q_assign rfl) rfl ?_
  refine send ?_
  refine eseq ?_
  refine HT.ret ?_
  exact fun a ha w' hw => fin_ ha (res1 ha Tryz.results55 rfl) ⟨rfl, hw.pres⟩

theorem igmpTime (w : World) (x : Nat) (hx : x < 128) (hst : St w [] [] [] w) : Calls Tryz.prog 124 #[(.int .u8 ((x : Nat) : Int))] w (fun e w' => e = .returned (.int .i64 ((100000000 * x : Nat) : Int)) ∧ Pres [] w w') := by
  refine enter (vs := [(.int .u8 ((x : Nat) : Int))]) Tryz.func124 rfl rfl rfl hst ?_
  refine HT.seq ?_
  refine HT.plain ?_
  refine sq (St.closed _ _ _ _) (q_assign rfl) rfl ?_
  refine send ?_
  refine eseq ?_
  refine HT.seq ?_
  refine HT.seq ?_
  refine HT.plain ?_
  refine sq (St.closed _ _ _ _) (q_move rfl) rfl ?_
  refine sq (St.closed _ _ _ _) (q_and (p := x) (q := 128) rfl rfl rfl (show x < 256 by have := hx; omega) (by decide)) rfl ?_
  refine sq (St.closed _ _ _ _) (q_T (q_eq (p := x &&& 128) (q := 0) rfl rfl) (by have := hx; have := zb128 (x); have := Nat.and_le_left (n := x) (m := 128); have := Nat.and_le_right (n := x) (m := 128); omega)) rfl ?_
  refine send ?_
  refine eseq ?_
  refine HT.yes rfl ?_
  refine HT.seq ?_
  refine HT.plain ?_
  refine sq (St.closed _ _ _ _) (q_move rfl) rfl ?_
  refine sq (St.closed _ _ _ _) (q_convn (p := x) rfl Tryz.underlying5 Tryz.underlying174 (show x < 9223372036854775808 by have := hx; omega)) rfl ?_
  refine sq (St.closed _ _ _ _) (q_mul (p := 100000000) (q := x) rfl rfl (show 100000000 * x < 9223372036854775808 by have := hx; omega)) rfl ?_
  refine sq (St.closed _ _ _ _) (q_assign rfl) rfl ?_
  refine send ?_
  refine eseq ?_
  refine HT.ret ?_
  refine rt_then ?_
  exact fun a ha w' hw => fin_ ha (res1 ha Tryz.results124 rfl) ⟨rfl, hw.pres⟩

theorem numberC (w : World) (A : Option Addr) (n : Nat) (c : Nat) (bs : List UInt8) (i : Nat) (hi : i + 2 ≤ n) (hn : n ≤ 2147483647) (hst : St w [] [] [Byt A n c bs] w) : Calls Tryz.prog 62 #[(.slice A n c), (.int .i64 ((i : Nat) : Int))] w (fun e w' => e = .returned (.int .i64 ((bN bs i 2 : Nat) : Int)) ∧ Pres [] w w') := by
  have hnc00 : n ≤ c := (hst.fact (j := 0) rfl).2.1
  refine enter (vs := [(.slice A n c), (.int .i64 ((i : Nat) : Int))]) Tryz.func62 rfl rfl rfl hst ?_
  refine HT.seq ?_
  refine HT.plain ?_
  refine sq (St.closed _ _ _ _) (q_assign rfl) rfl ?_
  refine send ?_
  refine eseq ?_
  refine HT.seq ?_
  refine HT.drawnS mixed (St.closed _ _ _ _) ?_
  refine dtake (f := 0) [0, 1, 2, 3, 4, 5, 6, 7, 8, 9, 10, 11, 12, 13] (by kernel_rfl) (St.closed _ _ _ _) (fun _ h => h) (by kernel_rfl) ?_
  refine dq rfl (q_move rfl) ?_
  refine dq rfl (q_move rfl) ?_
  refine dq rfl (q_index (i := i) (j := 0) rfl rfl Tryz.underlying22 nagg_5 (fun _ h => h) rfl (by omega)) ?_
  refine dq rfl (q_byte (i := i) (j := 0) rfl nagg_5 (fun _ h => h) rfl (by omega)) ?_
  refine dq rfl (q_convn (p := nb bs i) rfl Tryz.underlying5 Tryz.underlying3 (show nb bs i < 9223372036854775808 by have := nb_lt bs i; omega)) ?_
  refine dq rfl (q_shl (p := nb bs i) (e := 8) (N := 256) rfl rfl (by decide) rfl (show (nb bs i) * 256 < 9223372036854775808 by have := nb_lt bs i; omega)) ?_
  refine dq rfl (q_move rfl) ?_
  refine dq rfl (q_move rfl) ?_
  refine dq rfl (q_add (p := i) (q := 1) rfl rfl (show i + 1 < 9223372036854775808 by omega)) ?_
  refine dq rfl (q_index (i := i + 1) (j := 0) rfl rfl Tryz.underlying22 nagg_5 (fun _ h => h) rfl (by omega)) ?_
  refine dq rfl (q_byte (i := i + 1) (j := 0) rfl nagg_5 (fun _ h => h) rfl (by omega)) ?_
  refine dq rfl (q_convn (p := nb bs (i + 1)) rfl Tryz.underlying5 Tryz.underlying3 (show nb bs (i + 1) < 9223372036854775808 by have := nb_lt bs (i + 1); omega)) ?_
  refine dq rfl (q_N (q_orI (p := (nb bs i) * 256) (q := nb bs (i + 1)) rfl rfl (show (nb bs i) * 256 < 9223372036854775808 by have := nb_lt bs i; omega) (show nb bs (i + 1) < 9223372036854775808 by have := nb_lt bs (i + 1); omega)) (a := ((nb bs i) * 256) ||| (nb bs (i + 1))) (b := bN bs i 2) (by rw [or_add' _ _ 8 256 rfl (nb_lt bs (i + 1))]; simp [bN])) ?_
  refine dq rfl (q_assign rfl) ?_
  refine QL.nil ?_
  refine dend (by kernel_rfl) ?_
  refine eseq ?_
  refine HT.ret ?_
  exact fun a ha w' hw => fin_ ha (res1 ha Tryz.results62 rfl) ⟨rfl, hw.pres⟩

theorem setTrunc (w : World) (b : Nat)  (hst : St w [] [] [] w) : Calls Tryz.prog 167 #[(.pointer (some ⟨b, 0, none⟩))] w (fun e w' => e = .returned (.tuple #[]) ∧ Pres [] w w') := by
  refine enter (vs := [(.pointer (some ⟨b, 0, none⟩))]) Tryz.func167 rfl rfl rfl hst ?_
  refine HT.skip ?_
  exact fun a ha w' hw => finN ha (res0 Tryz.results167) ⟨rfl, hw.pres⟩

theorem addLayer (w : World) (kb : Nat) (T : Nat) (b : Nat)  (hst : St w [kb] [⟨kb, 201, [some .nilIface], true⟩] [] w) : Calls Tryz.prog 166 #[(.pointer (some ⟨kb, 0, none⟩)), (.iface T (.pointer (some ⟨b, 0, none⟩)))] w (CP0 w [kb] [] ((.tuple #[])) ([⟨kb, 201, [some (.iface T (.pointer (some ⟨b, 0, none⟩)))], true⟩]) ([])) := by
  refine enter (vs := [(.pointer (some ⟨kb, 0, none⟩)), (.iface T (.pointer (some ⟨b, 0, none⟩)))]) Tryz.func166 rfl rfl rfl hst ?_
  refine HT.plain ?_
  refine sq (St.closed _ _ _ _) (q_move rfl) rfl ?_
  refine sq (St.closed _ _ _ _) (q_move rfl) rfl ?_
  refine sq (St.closed _ _ _ _) (q_nil rfl) rfl ?_
  refine sq (St.closed _ _ _ _) (q_field (b := kb) (off := 0) rfl fo_201_0) rfl ?_
  refine sl_ (l_store (b := kb) (off := 0) (j := 0) rfl rfl nagg_43 rfl rfl rfl rfl (dlt rfl) ?_)
  refine send ?_
  exact fun a ha w' hw => finN ha (res0 Tryz.results166) ⟨rfl, hw, fr0⟩

theorem layPay0 (w : World) (b : Nat) (ty : Nat) (x : Option Value) (v : Value) (r : List (Option Value))  (hst : St w [] [⟨b, ty, x :: some v :: r, false⟩] [] w) : Calls Tryz.prog 120 #[(.pointer (some ⟨b, 0, none⟩))] w (fun e w' => e = .returned v ∧ Pres [] w w') := by
  refine enter (vs := [(.pointer (some ⟨b, 0, none⟩))]) Tryz.func120 rfl rfl rfl hst ?_
  refine HT.seq ?_
  refine HT.plain ?_
  refine sq (St.closed _ _ _ _) (q_assign rfl) rfl ?_
  refine send ?_
  refine eseq ?_
  refine HT.seq ?_
  refine HT.plain ?_
  refine sq (St.closed _ _ _ _) (q_move rfl) rfl ?_
  refine sq (St.closed _ _ _ _) (q_nil rfl) rfl ?_
  refine sq (St.closed _ _ _ _) (q_field (b := b) (off := 0) rfl fo_68_1) rfl ?_
  refine sq (St.closed _ _ _ _) (q_load (b := b) (off := 1) (j := 0) rfl nagg_22 (fun _ h => h) rfl rfl rfl) rfl ?_
  refine sq (St.closed _ _ _ _) (q_assign rfl) rfl ?_
  refine send ?_
  refine eseq ?_
  refine HT.ret ?_
  exact fun a ha w' hw => fin_ ha (res1 ha Tryz.results120 rfl) ⟨rfl, hw.pres⟩

def es0 : List MapEntry := []
theorem fi0 : Instr.findNow .string (.string ⟨#[112, 112, 112, 111, 101]⟩) es0 0 = some none := by kernel_rfl
def es1 : List MapEntry := es0 ++ [MapEntry.mk (.string ⟨#[112, 112, 112, 111, 101]⟩) (.int .i64 ((6 : Nat) : Int)) 0]
theorem fi1 : Instr.findNow .string (.string ⟨#[112, 112, 112]⟩) es1 0 = some none := by kernel_rfl
def es2 : List MapEntry := es1 ++ [MapEntry.mk (.string ⟨#[112, 112, 112]⟩) (.int .i64 ((1 : Nat) : Int)) 1]
theorem fi2 : Instr.findNow .string (.string ⟨#[108, 108, 99]⟩) es2 0 = some none := by kernel_rfl
def es3 : List MapEntry := es2 ++ [MapEntry.mk (.string ⟨#[108, 108, 99]⟩) (.int .i64 ((3 : Nat) : Int)) 2]
theorem fi3 : Instr.findNow .string (.string ⟨#[115, 110, 97, 112]⟩) es3 0 = some none := by kernel_rfl
def es4 : List MapEntry := es3 ++ [MapEntry.mk (.string ⟨#[115, 110, 97, 112]⟩) (.int .i64 ((5 : Nat) : Int)) 3]
theorem fi4 : Instr.findNow .string (.string ⟨#[108, 111, 111, 112, 98, 97, 99, 107]⟩) es4 0 = some none := by kernel_rfl
def es5 : List MapEntry := es4 ++ [MapEntry.mk (.string ⟨#[108, 111, 111, 112, 98, 97, 99, 107]⟩) (.int .i64 ((4 : Nat) : Int)) 4]
theorem fi5 : Instr.findNow .string (.string ⟨#[108, 105, 110, 117, 120, 115, 108, 108]⟩) es5 0 = some none := by kernel_rfl
def es6 : List MapEntry := es5 ++ [MapEntry.mk (.string ⟨#[108, 105, 110, 117, 120, 115, 108, 108]⟩) (.int .i64 ((16 : Nat) : Int)) 5]
theorem fi6 : Instr.findNow .string (.string ⟨#[101, 97, 112, 111, 108]⟩) es6 0 = some none := by kernel_rfl
def es7 : List MapEntry := es6 ++ [MapEntry.mk (.string ⟨#[101, 97, 112, 111, 108]⟩) (.int .i64 ((4 : Nat) : Int)) 6]
theorem fi7 : Instr.findNow .string (.string ⟨#[101, 97, 112, 111, 108, 107, 101, 121]⟩) es7 0 = some none := by kernel_rfl
def es8 : List MapEntry := es7 ++ [MapEntry.mk (.string ⟨#[101, 97, 112, 111, 108, 107, 101, 121]⟩) (.int .i64 ((95 : Nat) : Int)) 7]
theorem fi8 : Instr.findNow .string (.string ⟨#[101, 97, 112]⟩) es8 0 = some none := by kernel_rfl
def es9 : List MapEntry := es8 ++ [MapEntry.mk (.string ⟨#[101, 97, 112]⟩) (.int .i64 ((4 : Nat) : Int)) 8]
theorem fi9 : Instr.findNow .string (.string ⟨#[109, 112, 108, 115]⟩) es9 0 = some none := by kernel_rfl
def es10 : List MapEntry := es9 ++ [MapEntry.mk (.string ⟨#[109, 112, 108, 115]⟩) (.int .i64 ((4 : Nat) : Int)) 9]
theorem fi10 : Instr.findNow .string (.string ⟨#[103, 101, 110, 101, 118, 101]⟩) es10 0 = some none := by kernel_rfl
def es11 : List MapEntry := es10 ++ [MapEntry.mk (.string ⟨#[103, 101, 110, 101, 118, 101]⟩) (.int .i64 ((8 : Nat) : Int)) 10]
theorem fi11 : Instr.findNow .string (.string ⟨#[103, 116, 112]⟩) es11 0 = some none := by kernel_rfl
def es12 : List MapEntry := es11 ++ [MapEntry.mk (.string ⟨#[103, 116, 112]⟩) (.int .i64 ((8 : Nat) : Int)) 11]
theorem fi12 : Instr.findNow .string (.string ⟨#[101, 116, 104, 101, 114, 105, 112]⟩) es12 0 = some none := by kernel_rfl
def es13 : List MapEntry := es12 ++ [MapEntry.mk (.string ⟨#[101, 116, 104, 101, 114, 105, 112]⟩) (.int .i64 ((2 : Nat) : Int)) 12]
theorem fi13 : Instr.findNow .string (.string ⟨#[101, 114, 115, 112, 97, 110]⟩) es13 0 = some none := by kernel_rfl
def es14 : List MapEntry := es13 ++ [MapEntry.mk (.string ⟨#[101, 114, 115, 112, 97, 110]⟩) (.int .i64 ((8 : Nat) : Int)) 13]
theorem fi14 : Instr.findNow .string (.string ⟨#[117, 100, 112, 108, 105, 116, 101]⟩) es14 0 = some none := by kernel_rfl
def es15 : List MapEntry := es14 ++ [MapEntry.mk (.string ⟨#[117, 100, 112, 108, 105, 116, 101]⟩) (.int .i64 ((8 : Nat) : Int)) 14]
theorem fi15 : Instr.findNow .string (.string ⟨#[98, 102, 100]⟩) es15 0 = some none := by kernel_rfl
def es16 : List MapEntry := es15 ++ [MapEntry.mk (.string ⟨#[98, 102, 100]⟩) (.int .i64 ((24 : Nat) : Int)) 15]
theorem fi16 : Instr.findNow .string (.string ⟨#[110, 116, 112]⟩) es16 0 = some none := by kernel_rfl
def es17 : List MapEntry := es16 ++ [MapEntry.mk (.string ⟨#[110, 116, 112]⟩) (.int .i64 ((48 : Nat) : Int)) 16]
theorem fi17 : Instr.findNow .string (.string ⟨#[118, 114, 114, 112]⟩) es17 0 = some none := by kernel_rfl
def es18 : List MapEntry := es17 ++ [MapEntry.mk (.string ⟨#[118, 114, 114, 112]⟩) (.int .i64 ((8 : Nat) : Int)) 17]
theorem fi18 : Instr.findNow .string (.string ⟨#[97, 104]⟩) es18 0 = some none := by kernel_rfl
def es19 : List MapEntry := es18 ++ [MapEntry.mk (.string ⟨#[97, 104]⟩) (.int .i64 ((12 : Nat) : Int)) 18]
theorem fi19 : Instr.findNow .string (.string ⟨#[101, 115, 112]⟩) es19 0 = some none := by kernel_rfl
def es20 : List MapEntry := es19 ++ [MapEntry.mk (.string ⟨#[101, 115, 112]⟩) (.int .i64 ((8 : Nat) : Int)) 19]
theorem fi20 : Instr.findNow .string (.string ⟨#[105, 103, 109, 112, 49]⟩) es20 0 = some none := by kernel_rfl
def es21 : List MapEntry := es20 ++ [MapEntry.mk (.string ⟨#[105, 103, 109, 112, 49]⟩) (.int .i64 ((8 : Nat) : Int)) 20]
theorem layerC (w : World) (Ap : Option Addr) (np : Nat) (cp : Nat) (Aq : Option Addr) (nq : Nat) (cq : Nat)  (hst : St w [] [] [] w) : Calls Tryz.prog 33 #[(.slice Ap np cp), (.slice Aq nq cq)] w (fun e w' => e = .returned (.agg #[(.slice Aq nq cq), (.slice none 0 0), (.slice none 0 0), (.slice Ap np cp)]) ∧ Pres [] w w') := by
  refine enter (vs := [(.slice Ap np cp), (.slice Aq nq cq)]) Tryz.func33 rfl rfl rfl hst ?_
  refine HT.seq ?_
  refine HT.plain ?_
  refine sl_ (l_alloc (by decide) zero_29 fun b4 => ?_)
  refine send ?_
  refine eseq ?_
  refine HT.seq ?_
  refine HT.plain ?_
  refine sq (St.closed _ _ _ _) (q_move rfl) rfl ?_
  refine sq (St.closed _ _ _ _) (q_move rfl) rfl ?_
  refine sq (St.closed _ _ _ _) (q_build (vs := [(0, (.slice Aq nq cq)), (3, (.slice Ap np cp))]) (v := (.agg #[(.slice Aq nq cq), (.slice none 0 0), (.slice none 0 0), (.slice Ap np cp)])) rfl (fun _ => by kernel_rfl)) rfl ?_
  refine sl_ (l_storeAgg (b := b4) (off := 0) (j := 0) (vs := [(.slice Aq nq cq), (.slice none 0 0), (.slice none 0 0), (.slice Ap np cp)]) rfl rfl aggs_29 (by simp [Value.one1]) rfl rfl rfl (Nat.le_of_ble_eq_true rfl) ?_)
  refine send ?_
  refine eseq ?_
  refine HT.ret ?_
  exact fun a ha w' hw => fin_ ha (resc1 ha Tryz.results33 rfl (ld_ aggs_29 hw (j := 0) rfl rfl (vs := [(.slice Aq nq cq), (.slice none 0 0), (.slice none 0 0), (.slice Ap np cp)]) rfl)) ⟨rfl, hw.pres⟩
end Go.Proofs.YtfkaafbeeegenaaGreat.Zed
