/- geneve: the package, case 6 -/
import Derived.Test.YtfkaafbeeegenaaGreatGeneve0
import Derived.KernelRfl
namespace Go.Proofs.YtfkaafbeeegenaaGreat.Zed
set_option linter.unusedVariables false
set_option linter.unusedSimpArgs false
set_option maxRecDepth 100000
set_option maxHeartbeats 4000000


theorem geneve_q6 (w : World) (A : Option Addr) (n : Nat) (c : Nat) (bs : List UInt8) (N : Nat) (hn : n ≤ 400) (ha : 8 ≤ n) (hb : nb bs 0 ≤ 61) (hc : 4 * nb bs 0 ≤ n - 8) (hd : ∀ i, i < N → vof bs i < 8 + 4 * nb bs 0 ∧ vof bs (i + 1) ≤ 8 + 4 * nb bs 0 ∧ nb bs (vof bs i + 3) / 16 % 2 = 0) (he : vof bs N = 8 + 4 * nb bs 0) (hst : St w [] [] [Byt A n c bs] w) : Calls Tryz.prog 64 #[(.slice A n c)] w (fun e w' => e = .returned (.bool true) ∧ Pres [] w w') := by
  have hnc00 : n ≤ c := (hst.fact (j := 0) rfl).2.1
  refine enter (vs := [(.slice A n c)]) Tryz.func64 rfl rfl rfl hst ?_
  refine HT.seq ?_
  refine HT.plain ?_
  refine sAs rfl rfl ?_
  refine send ?_
  refine eseq ?_
  refine HT.seq ?_
  refine HT.seq ?_
  refine HT.plain ?_
  refine sMv rfl rfl ?_
  refine sqS (q_len (len := n) rfl Tryz.underlying22) rfl ?_
  refine sqS (q_F (q_lt (p := n) (q := 8) rfl rfl) (by omega)) rfl ?_
  refine send ?_
  refine eseq ?_
  refine HT.no rfl ?_
  refine HT.skip ?_
  refine eseq ?_
  refine HT.seq ?_
  refine HT.plain ?_
  refine sAs rfl rfl ?_
  refine send ?_
  refine eseq ?_
  refine HT.seq ?_
  refine HT.seq ?_
  refine HT.plain ?_
  refine sMv rfl rfl ?_
  refine sqS (q_index (i := 0) (j := 0) rfl rfl Tryz.underlying22 nagg_5 (fun _ h => h) rfl (by omega)) rfl ?_
  refine sqS (q_byte (i := 0) (j := 0) rfl nagg_5 (fun _ h => h) rfl (by omega)) rfl ?_
  refine sqS (q_N (q_and (p := nb bs 0) (q := 63) rfl rfl rfl (show nb bs 0 < 256 by have := nb_lt bs 0; omega) (by decide)) (a := (nb bs 0) &&& 63) (b := nb bs 0) (by have := zm63 (nb bs 0); omega)) rfl ?_
  refine sqS (q_convn (p := nb bs 0) rfl Tryz.underlying5 Tryz.underlying3 (show nb bs 0 < 9223372036854775808 by have := nb_lt bs 0; omega)) rfl ?_
  refine sqS (q_mul (p := nb bs 0) (q := 4) rfl rfl (show (nb bs 0) * 4 < 9223372036854775808 by have := nb_lt bs 0; omega)) rfl ?_
  refine sAs rfl rfl ?_
  refine send ?_
  refine eseq ?_
  refine HT.block ?_
  refine HT.loop (ι := {p : Nat // p ≤ N}) (fun p => [(0, (.slice A n c)), (3, (.int .i64 ((vof bs p.1 : Nat) : Int))), (4, (.int .i64 (((8 + 4 * nb bs 0) - vof bs p.1 : Nat) : Int)))]) (fun p => St w [] [] [Byt A n c bs]) (fun p => N - p.1) ⟨0, by omega⟩ ⟨rfl, rfl, inc (n' := (8 + 4 * nb bs 0) - vof bs 0) (by have : vof bs 0 = 8 := rfl; omega), trivial⟩ (fun _ h => h) fun ⟨i, hil⟩ => ?_
  have ho := vof_succ bs i
  have hge := vof_ge bs i
  have hmo := vof_mod bs i
  have hmo2 := vof_mod bs (i + 1)
  have hma := vof_many bs i
  have h256 := nb_lt bs (vof bs i + 3)
  have hal := vof_le (e := 8 + 4 * nb bs 0) (by omega) (fun j hj => (hd j hj).2.1) i (by omega)
  have hc := hd i
  have hz : i = N → vof bs i = 8 + 4 * nb bs 0 := fun e => by rw [e]; exact he
  have hz15 := zm15 (nb bs (vof bs i + 3))
  show HT _ _ _ [(0, (.slice A n c)), (3, (.int .i64 ((vof bs i : Nat) : Int))), (4, (.int .i64 (((8 + 4 * nb bs 0) - vof bs i : Nat) : Int)))] (St w [] [] [Byt A n c bs]) _
  refine HT.seq ?_
  refine HT.seq ?_
  refine HT.plain ?_
  refine sMv rfl rfl ?_
  by_cases h1 : 0 < (8 + 4 * nb bs 0) - vof bs i
  · refine sqS (q_T (q_gt (p := (8 + 4 * nb bs 0) - vof bs i) (q := 0) rfl rfl) h1) rfl ?_
    refine send ?_
    refine eseq ?_
    refine HT.yes rfl ?_
    refine HT.skip ?_
    refine eseq ?_
    refine HT.block ?_
    refine HT.seq ?_
    refine HT.seq ?_
    refine HT.plain ?_
    refine sMv rfl rfl ?_
    refine sqS (q_len (len := n) rfl Tryz.underlying22) rfl ?_
    refine sMv rfl rfl ?_
    refine sqS (q_sub (p := n) (q := vof bs i) rfl rfl (by omega) (show n < 9223372036854775808 by omega)) rfl ?_
    refine sqS (q_F (q_eq (p := n - (vof bs i)) (q := 3) rfl rfl) (by omega)) rfl ?_
    refine send ?_
    refine eseq ?_
    refine HT.no rfl ?_
    refine HT.skip ?_
    refine eseq ?_
    refine HT.seq ?_
    refine HT.seq ?_
    refine HT.plain ?_
    refine sMv rfl rfl ?_
    refine sqS (q_len (len := n) rfl Tryz.underlying22) rfl ?_
    refine sMv rfl rfl ?_
    refine sqS (q_sub (p := n) (q := vof bs i) rfl rfl (by omega) (show n < 9223372036854775808 by omega)) rfl ?_
    refine sqS (q_F (q_lt (p := n - (vof bs i)) (q := 3) rfl rfl) (by omega)) rfl ?_
    refine send ?_
    refine eseq ?_
    refine HT.no rfl ?_
    refine HT.skip ?_
    refine eseq ?_
    refine HT.seq ?_
    refine HT.plain ?_
    refine sMv rfl rfl ?_
    refine sMv rfl rfl ?_
    refine sqS (q_add (p := vof bs i) (q := 3) rfl rfl (show (vof bs i) + 3 < 9223372036854775808 by omega)) rfl ?_
    refine sqS (q_index (i := (vof bs i) + 3) (j := 0) rfl rfl Tryz.underlying22 nagg_5 (fun _ h => h) rfl (by omega)) rfl ?_
    refine sqS (q_byte (i := (vof bs i) + 3) (j := 0) rfl nagg_5 (fun _ h => h) rfl (by omega)) rfl ?_
    refine sqS (q_and (p := nb bs ((vof bs i) + 3)) (q := 15) rfl rfl rfl (show nb bs ((vof bs i) + 3) < 256 by have := nb_lt bs ((vof bs i) + 3); omega) (by decide)) rfl ?_
    refine sqS (q_convn (p := (nb bs ((vof bs i) + 3)) &&& 15) rfl Tryz.underlying5 Tryz.underlying3 (show (nb bs ((vof bs i) + 3)) &&& 15 < 9223372036854775808 by have := nb_lt bs ((vof bs i) + 3); have := zm15 (nb bs ((vof bs i) + 3)); have := Nat.and_le_left (n := nb bs ((vof bs i) + 3)) (m := 15); have := Nat.and_le_right (n := nb bs ((vof bs i) + 3)) (m := 15); omega)) rfl ?_
    refine sqS (q_mul (p := (nb bs ((vof bs i) + 3)) &&& 15) (q := 4) rfl rfl (show ((nb bs ((vof bs i) + 3)) &&& 15) * 4 < 9223372036854775808 by have := nb_lt bs ((vof bs i) + 3); have := zm15 (nb bs ((vof bs i) + 3)); have := Nat.and_le_left (n := nb bs ((vof bs i) + 3)) (m := 15); have := Nat.and_le_right (n := nb bs ((vof bs i) + 3)) (m := 15); omega)) rfl ?_
    refine sqS (q_add (p := ((nb bs ((vof bs i) + 3)) &&& 15) * 4) (q := 4) rfl rfl (show (((nb bs ((vof bs i) + 3)) &&& 15) * 4) + 4 < 9223372036854775808 by have := nb_lt bs ((vof bs i) + 3); have := zm15 (nb bs ((vof bs i) + 3)); have := Nat.and_le_left (n := nb bs ((vof bs i) + 3)) (m := 15); have := Nat.and_le_right (n := nb bs ((vof bs i) + 3)) (m := 15); omega)) rfl ?_
    refine sAs rfl rfl ?_
    refine send ?_
    refine eseq ?_
    refine HT.seq ?_
    refine HT.seq ?_
    refine HT.plain ?_
    refine sMv rfl rfl ?_
    refine sqS (q_len (len := n) rfl Tryz.underlying22) rfl ?_
    refine sMv rfl rfl ?_
    refine sqS (q_sub (p := n) (q := vof bs i) rfl rfl (by omega) (show n < 9223372036854775808 by omega)) rfl ?_
    refine sMv rfl rfl ?_
    refine sqS (q_F (q_lt (p := n - (vof bs i)) (q := (((nb bs ((vof bs i) + 3)) &&& 15) * 4) + 4) rfl rfl) (by have := nb_lt bs ((vof bs i) + 3); have := zm15 (nb bs ((vof bs i) + 3)); have := Nat.and_le_left (n := nb bs ((vof bs i) + 3)) (m := 15); have := Nat.and_le_right (n := nb bs ((vof bs i) + 3)) (m := 15); omega)) rfl ?_
    refine send ?_
    refine eseq ?_
    refine HT.no rfl ?_
    refine HT.skip ?_
    refine eseq ?_
    refine HT.seq ?_
    refine HT.plain ?_
    refine sMv rfl rfl ?_
    refine sMv rfl rfl ?_
    refine sqS (q_sub (p := (8 + 4 * nb bs 0) - vof bs i) (q := (((nb bs ((vof bs i) + 3)) &&& 15) * 4) + 4) rfl rfl (by have := nb_lt bs ((vof bs i) + 3); have := zm15 (nb bs ((vof bs i) + 3)); have := Nat.and_le_left (n := nb bs ((vof bs i) + 3)) (m := 15); have := Nat.and_le_right (n := nb bs ((vof bs i) + 3)) (m := 15); omega) (show (8 + 4 * nb bs 0) - vof bs i < 9223372036854775808 by omega)) rfl ?_
    refine sAs rfl rfl ?_
    refine send ?_
    refine eseq ?_
    refine HT.plain ?_
    refine sMv rfl rfl ?_
    refine sMv rfl rfl ?_
    refine sqS (q_add (p := vof bs i) (q := (((nb bs ((vof bs i) + 3)) &&& 15) * 4) + 4) rfl rfl (show (vof bs i) + ((((nb bs ((vof bs i) + 3)) &&& 15) * 4) + 4) < 9223372036854775808 by have := nb_lt bs ((vof bs i) + 3); have := zm15 (nb bs ((vof bs i) + 3)); have := Nat.and_le_left (n := nb bs ((vof bs i) + 3)) (m := 15); have := Nat.and_le_right (n := nb bs ((vof bs i) + 3)) (m := 15); omega)) rfl ?_
    refine sAs rfl rfl ?_
    refine send ?_
    refine ein ?_
    exact eround ⟨i + 1, by omega⟩ (show N - (i + 1) < N - i by omega) ⟨rfl, inc (n' := vof bs (i + 1)) (by omega), inc (n' := (8 + 4 * nb bs 0) - vof bs (i + 1)) (by omega), trivial⟩ (fun _ h => h)
  · refine sqS (q_F (q_gt (p := (8 + 4 * nb bs 0) - vof bs i) (q := 0) rfl rfl) h1) rfl ?_
    refine send ?_
    refine eseq ?_
    refine HT.no rfl ?_
    refine HT.exit ?_
    refine ex_then ?_
    refine ex_then ?_
    refine ex_in ?_
    refine eseq ?_
    have hiN : N = i := by omega
    subst hiN
    refine HT.seq ?_
    refine HT.plain ?_
    refine sMv rfl rfl ?_
    refine sqS (q_T (q_le (p := vof bs N) (q := 255) rfl rfl) (by omega)) rfl ?_
    refine sAs rfl rfl ?_
    refine send ?_
    refine eseq ?_
    refine HT.ret ?_
    exact fun a ha w' hw => fin_ ha (res1 ha Tryz.results64 rfl) ⟨rfl, hw.pres⟩

theorem geneve_c6 (w : World) (A : Option Addr) (n : Nat) (c : Nat) (bs : List UInt8) (N : Nat) (hn : n ≤ 400) (ha : 8 ≤ n) (hb : nb bs 0 ≤ 61) (hc : 4 * nb bs 0 ≤ n - 8) (hd : ∀ i, i < N → vof bs i < 8 + 4 * nb bs 0 ∧ vof bs (i + 1) ≤ 8 + 4 * nb bs 0 ∧ nb bs (vof bs i + 3) / 16 % 2 = 0) (he : vof bs N = 8 + 4 * nb bs 0) (hst : St w [] [] [Byt A n c bs] w) : Calls Tryz.prog 57 #[(.string ⟨#[103, 101, 110, 101, 118, 101]⟩), (.slice A n c)] w (fun e w' => e = .returned (.bool true) ∧ Pres [] w w') := by
  have hnc00 : n ≤ c := (hst.fact (j := 0) rfl).2.1
  refine enter (vs := [(.string ⟨#[103, 101, 110, 101, 118, 101]⟩), (.slice A n c)]) Tryz.func57 rfl rfl rfl hst ?_
  refine HT.seq ?_
  refine HT.plain ?_
  refine sAs rfl rfl ?_
  refine send ?_
  refine eseq ?_
  refine HT.seq ?_
  refine HT.seq ?_
  refine HT.plain ?_
  refine sMv rfl rfl ?_
  refine send ?_
  refine eseq ?_
  refine HT.block ?_
  refine HT.seq ?_
  refine HT.plain ?_
  refine sqS (q_eqs rfl rfl (r := false) (by kernel_rfl)) rfl ?_
  refine sAs rfl rfl ?_
  refine send ?_
  refine eseq ?_
  refine HT.no rfl ?_
  refine HT.seq ?_
  refine HT.plain ?_
  refine sqS (q_eqs rfl rfl (r := false) (by kernel_rfl)) rfl ?_
  refine sAs rfl rfl ?_
  refine send ?_
  refine eseq ?_
  refine HT.no rfl ?_
  refine HT.seq ?_
  refine HT.plain ?_
  refine sqS (q_eqs rfl rfl (r := false) (by kernel_rfl)) rfl ?_
  refine sAs rfl rfl ?_
  refine send ?_
  refine eseq ?_
  refine HT.no rfl ?_
  refine HT.seq ?_
  refine HT.plain ?_
  refine sqS (q_eqs rfl rfl (r := false) (by kernel_rfl)) rfl ?_
  refine sAs rfl rfl ?_
  refine send ?_
  refine eseq ?_
  refine HT.no rfl ?_
  refine HT.seq ?_
  refine HT.plain ?_
  refine sqS (q_eqs rfl rfl (r := false) (by kernel_rfl)) rfl ?_
  refine sAs rfl rfl ?_
  refine send ?_
  refine eseq ?_
  refine HT.no rfl ?_
  refine HT.seq ?_
  refine HT.seq ?_
  refine HT.plain ?_
  refine sqS (q_eqs rfl rfl (r := false) (by kernel_rfl)) rfl ?_
  refine sAs rfl rfl ?_
  refine send ?_
  refine eseq ?_
  refine HT.no rfl ?_
  refine HT.seq ?_
  refine HT.plain ?_
  refine sqS (q_eqs rfl rfl (r := false) (by kernel_rfl)) rfl ?_
  refine sAs rfl rfl ?_
  refine send ?_
  refine eseq ?_
  refine HT.no rfl ?_
  refine HT.plain ?_
  refine sqS (q_eqs rfl rfl (r := false) (by kernel_rfl)) rfl ?_
  refine sAs rfl rfl ?_
  refine send ?_
  refine eseq ?_
  refine HT.no rfl ?_
  refine HT.seq ?_
  refine HT.plain ?_
  refine sqS (q_eqs rfl rfl (r := false) (by kernel_rfl)) rfl ?_
  refine sAs rfl rfl ?_
  refine send ?_
  refine eseq ?_
  refine HT.no rfl ?_
  refine HT.seq ?_
  refine HT.plain ?_
  refine sqS (q_eqs rfl rfl (r := false) (by kernel_rfl)) rfl ?_
  refine sAs rfl rfl ?_
  refine send ?_
  refine eseq ?_
  refine HT.no rfl ?_
  refine HT.seq ?_
  refine HT.plain ?_
  refine sqS (q_eqs rfl rfl (r := true) (by kernel_rfl)) rfl ?_
  refine sAs rfl rfl ?_
  refine send ?_
  refine eseq ?_
  refine HT.yes rfl ?_
  refine HT.seq ?_
  refine HT.plain ?_
  refine sMv rfl rfl ?_
  refine sqS (q_call (vs := [(.slice A n c)]) (v := (.bool true)) rfl ca_64 (fun w h => geneve_q6 w A n c bs N (by omega) (by omega) (by omega) (by omega) hd (by omega) (St.enter (sp := []) (Kc := []) (bi := [0]) h rfl rfl rfl))) rfl ?_
  refine sAs rfl rfl ?_
  refine send ?_
  refine eseq ?_
  refine HT.ret ?_
  refine rt_in ?_
  refine rt_then ?_
  exact fun a ha w' hw => fin_ ha (res1 ha Tryz.results57 rfl) ⟨rfl, hw.pres⟩

abbrev geneve_m1_6_k0 (rb : Nat) (bs : List UInt8) (v : Value) : Kb := ⟨rb, 117, [some (.slice none 0 0), some (.slice none 0 0), some (.int .u8 (((nb bs 0) / 128 : Nat) : Int)), some (.int .u8 (((nb bs 0) * 4 : Nat) : Int)), some (.bool (decide (0 < (nb bs 1) &&& 128))), some (.bool (decide (0 < (nb bs 1) &&& 64))), some (.int .u16 ((bN bs 2 2 : Nat) : Int)), some (.int .u32 ((bN bs 4 3 : Nat) : Int)), some v], true⟩
abbrev geneve_m1_6_k1 (bo : Nat) (bs : List UInt8) (i : Nat) (gd : Nat) : Kb := ⟨bo, 120, [some (.int .u16 ((bN bs (vof bs i) 2 : Nat) : Int)), some (.int .u8 ((nb bs ((vof bs i) + 2) : Nat) : Int)), some (.int .u8 (((nb bs ((vof bs i) + 3)) / 16 : Nat) : Int)), some (.int .u8 (((((nb bs ((vof bs i) + 3)) % 16) * 4) + 4 : Nat) : Int)), some (.slice (some ⟨gd, 0, none⟩) ((nb bs ((vof bs i) + 3) % 16) * 4 + 4 - 4) ((nb bs ((vof bs i) + 3) % 16) * 4 + 4 - 4))], true⟩
abbrev geneve_m1_6_k2 (rb : Nat) (bs : List UInt8) : Kb := ⟨rb, 117, [some (.slice none 0 0), some (.slice none 0 0), some (.int .u8 (((nb bs 0) / 128 : Nat) : Int)), some (.int .u8 (((nb bs 0) * 4 : Nat) : Int)), some (.bool (decide (0 < (nb bs 1) &&& 128))), some (.bool (decide (0 < (nb bs 1) &&& 64))), some (.int .u16 ((bN bs 2 2 : Nat) : Int)), some (.int .u32 ((0 : Nat) : Int)), some (.slice none 0 0)], true⟩

theorem geneve_m1_6 (w : World) (A : Option Addr) (n : Nat) (c : Nat) (bs : List UInt8) (N : Nat) (rb : Nat) (kb : Nat) (hn : n ≤ 400) (ha : 8 ≤ n) (hb : nb bs 0 ≤ 61) (hc : 4 * nb bs 0 ≤ n - 8) (hd : ∀ i, i < N → vof bs i < 8 + 4 * nb bs 0 ∧ vof bs (i + 1) ≤ 8 + 4 * nb bs 0 ∧ nb bs (vof bs i + 3) / 16 % 2 = 0) (he : vof bs N = 8 + 4 * nb bs 0) (hst : St w [rb] [⟨rb, 117, [some (.slice none 0 0), some (.slice none 0 0), some (.int .u8 ((0 : Nat) : Int)), some (.int .u8 ((0 : Nat) : Int)), some (.bool false), some (.bool false), some (.int .u16 ((0 : Nat) : Int)), some (.int .u32 ((0 : Nat) : Int)), some (.slice none 0 0)], true⟩] [Byt A n c bs] w) : Calls Tryz.prog 144 #[(.pointer (some ⟨rb, 0, none⟩)), (.slice A n c), (.iface 199 (.pointer (some ⟨kb, 0, none⟩)))] w (CP4 w [rb] [Byt A n c bs] (fun AQ cQ be de => .nilIface) (fun AQ cQ be de => [⟨rb, 117, [some (.slice (cutA A c 0) ((vof bs N) - 0) (c - 0)), some (.slice (cutA A c (vof bs N)) (n - (vof bs N)) (c - (vof bs N))), some (.int .u8 (((nb bs 0) / 128 : Nat) : Int)), some (.int .u8 (((nb bs 0) * 4 : Nat) : Int)), some (.bool (decide (0 < (nb bs 1) &&& 128))), some (.bool (decide (0 < (nb bs 1) &&& 64))), some (.int .u16 ((bN bs 2 2 : Nat) : Int)), some (.int .u32 ((bN bs 4 3 : Nat) : Int)), some (.slice AQ N cQ)], true⟩]) (fun AQ cQ be de => [Cel AQ N cQ 1 (rowX (ptrs be) N), GF be de (fun j d => [.int .u16 ((bN bs (vof bs j) 2 : Nat) : Int), .int .u8 ((nb bs (vof bs j + 2) : Nat) : Int), .int .u8 ((nb bs (vof bs j + 3) / 16 : Nat) : Int), .int .u8 (((nb bs (vof bs j + 3) % 16) * 4 + 4 : Nat) : Int), .slice (some ⟨d, 0, none⟩) ((nb bs (vof bs j + 3) % 16) * 4 + 4 - 4) ((nb bs (vof bs j + 3) % 16) * 4 + 4 - 4)]) (fun j => (nb bs (vof bs j + 3) % 16) * 4 + 4 - 4) (fun j => sl bs (vof bs j + 4) (vof bs j + ((nb bs (vof bs j + 3) % 16) * 4 + 4))) N])) := by
  have hnc00 : n ≤ c := (hst.fact (j := 0) rfl).2.1
  have hbl : n = bs.length := (hst.fact (j := 0) rfl).1
  refine enter (vs := [(.pointer (some ⟨rb, 0, none⟩)), (.slice A n c), (.iface 199 (.pointer (some ⟨kb, 0, none⟩)))]) Tryz.func144 rfl rfl rfl hst ?_
  refine HT.seq ?_
  refine HT.plain ?_
  refine sAs rfl rfl ?_
  refine send ?_
  refine eseq ?_
  refine HT.seq ?_
  refine HT.seq ?_
  refine HT.plain ?_
  refine sMv rfl rfl ?_
  refine sqS (q_len (len := n) rfl Tryz.underlying22) rfl ?_
  refine sqS (q_F (q_lt (p := n) (q := 7) rfl rfl) (by omega)) rfl ?_
  refine send ?_
  refine eseq ?_
  refine HT.no rfl ?_
  refine HT.skip ?_
  refine eseq ?_
  refine HT.seq ?_
  refine HT.plain ?_
  refine sMv rfl rfl ?_
  refine sMv rfl rfl ?_
  refine sqS (q_index (i := 0) (j := 0) rfl rfl Tryz.underlying22 nagg_5 (fun _ h => h) rfl (by omega)) rfl ?_
  refine sqS (q_byte (i := 0) (j := 0) rfl nagg_5 (fun _ h => h) rfl (by omega)) rfl ?_
  refine sqS (q_shr (p := nb bs 0) (e := 7) (N := 128) rfl rfl (by decide) rfl) rfl ?_
  refine sqS (q_nil rfl) rfl ?_
  refine sqS (q_field (b := rb) (off := 0) rfl fo_117_1) rfl ?_
  refine sl_ (l_store (b := rb) (off := 2) (j := 0) rfl rfl nagg_5 rfl rfl rfl rfl (dlt rfl) ?_)
  refine send ?_
  refine eseq ?_
  refine HT.norm [⟨rb, 117, [some (.slice none 0 0), some (.slice none 0 0), some (.int .u8 (((nb bs 0) / 128 : Nat) : Int)), some (.int .u8 ((0 : Nat) : Int)), some (.bool false), some (.bool false), some (.int .u16 ((0 : Nat) : Int)), some (.int .u32 ((0 : Nat) : Int)), some (.slice none 0 0)], true⟩] [Byt A n c bs] rfl rfl ?_
  refine HT.seq ?_
  refine HT.plain ?_
  refine sMv rfl rfl ?_
  refine sMv rfl rfl ?_
  refine sqS (q_index (i := 0) (j := 0) rfl rfl Tryz.underlying22 nagg_5 (fun _ h => h) rfl (by omega)) rfl ?_
  refine sqS (q_byte (i := 0) (j := 0) rfl nagg_5 (fun _ h => h) rfl (by omega)) rfl ?_
  refine sqS (q_N (q_and (p := nb bs 0) (q := 63) rfl rfl rfl (show nb bs 0 < 256 by have := nb_lt bs 0; omega) (by decide)) (a := (nb bs 0) &&& 63) (b := nb bs 0) (by have := zm63 (nb bs 0); omega)) rfl ?_
  refine sqS (q_mul (p := nb bs 0) (q := 4) rfl rfl (show (nb bs 0) * 4 < 256 by have := nb_lt bs 0; omega)) rfl ?_
  refine sqS (q_nil rfl) rfl ?_
  refine sqS (q_field (b := rb) (off := 0) rfl fo_117_2) rfl ?_
  refine sl_ (l_store (b := rb) (off := 3) (j := 0) rfl rfl nagg_5 rfl rfl rfl rfl (dlt rfl) ?_)
  refine send ?_
  refine eseq ?_
  refine HT.norm [⟨rb, 117, [some (.slice none 0 0), some (.slice none 0 0), some (.int .u8 (((nb bs 0) / 128 : Nat) : Int)), some (.int .u8 (((nb bs 0) * 4 : Nat) : Int)), some (.bool false), some (.bool false), some (.int .u16 ((0 : Nat) : Int)), some (.int .u32 ((0 : Nat) : Int)), some (.slice none 0 0)], true⟩] [Byt A n c bs] rfl rfl ?_
  refine HT.seq ?_
  refine HT.plain ?_
  refine sMv rfl rfl ?_
  refine sMv rfl rfl ?_
  refine sqS (q_index (i := 1) (j := 0) rfl rfl Tryz.underlying22 nagg_5 (fun _ h => h) rfl (by omega)) rfl ?_
  refine sqS (q_byte (i := 1) (j := 0) rfl nagg_5 (fun _ h => h) rfl (by omega)) rfl ?_
  refine sqS (q_and (p := nb bs 1) (q := 128) rfl rfl rfl (show nb bs 1 < 256 by have := nb_lt bs 1; omega) (by decide)) rfl ?_
  refine sqS (q_gt (p := (nb bs 1) &&& 128) (q := 0) rfl rfl) rfl ?_
  refine sqS (q_nil rfl) rfl ?_
  refine sqS (q_field (b := rb) (off := 0) rfl fo_117_3) rfl ?_
  refine sl_ (l_store (b := rb) (off := 4) (j := 0) rfl rfl nagg_4 rfl rfl rfl rfl (dlt rfl) ?_)
  refine send ?_
  refine eseq ?_
  refine HT.norm [⟨rb, 117, [some (.slice none 0 0), some (.slice none 0 0), some (.int .u8 (((nb bs 0) / 128 : Nat) : Int)), some (.int .u8 (((nb bs 0) * 4 : Nat) : Int)), some (.bool (decide (0 < (nb bs 1) &&& 128))), some (.bool false), some (.int .u16 ((0 : Nat) : Int)), some (.int .u32 ((0 : Nat) : Int)), some (.slice none 0 0)], true⟩] [Byt A n c bs] rfl rfl ?_
  refine HT.seq ?_
  refine HT.plain ?_
  refine sMv rfl rfl ?_
  refine sMv rfl rfl ?_
  refine sqS (q_index (i := 1) (j := 0) rfl rfl Tryz.underlying22 nagg_5 (fun _ h => h) rfl (by omega)) rfl ?_
  refine sqS (q_byte (i := 1) (j := 0) rfl nagg_5 (fun _ h => h) rfl (by omega)) rfl ?_
  refine sqS (q_and (p := nb bs 1) (q := 64) rfl rfl rfl (show nb bs 1 < 256 by have := nb_lt bs 1; omega) (by decide)) rfl ?_
  refine sqS (q_gt (p := (nb bs 1) &&& 64) (q := 0) rfl rfl) rfl ?_
  refine sqS (q_nil rfl) rfl ?_
  refine sqS (q_field (b := rb) (off := 0) rfl fo_117_4) rfl ?_
  refine sl_ (l_store (b := rb) (off := 5) (j := 0) rfl rfl nagg_4 rfl rfl rfl rfl (dlt rfl) ?_)
  refine send ?_
  refine eseq ?_
  refine HT.norm [⟨rb, 117, [some (.slice none 0 0), some (.slice none 0 0), some (.int .u8 (((nb bs 0) / 128 : Nat) : Int)), some (.int .u8 (((nb bs 0) * 4 : Nat) : Int)), some (.bool (decide (0 < (nb bs 1) &&& 128))), some (.bool (decide (0 < (nb bs 1) &&& 64))), some (.int .u16 ((0 : Nat) : Int)), some (.int .u32 ((0 : Nat) : Int)), some (.slice none 0 0)], true⟩] [Byt A n c bs] rfl rfl ?_
  refine HT.seq ?_
  refine HT.drawn mixed (St.closed _ _ _ _) (St w [rb] [⟨rb, 117, [some (.slice none 0 0), some (.slice none 0 0), some (.int .u8 (((nb bs 0) / 128 : Nat) : Int)), some (.int .u8 (((nb bs 0) * 4 : Nat) : Int)), some (.bool (decide (0 < (nb bs 1) &&& 128))), some (.bool (decide (0 < (nb bs 1) &&& 64))), none, some (.int .u32 ((0 : Nat) : Int)), some (.slice none 0 0)], true⟩] [Byt A n c bs]) ?_
  refine dtake (f := 1) [0, 1, 2, 3, 4, 5, 6] (by kernel_rfl) (St.closed _ _ _ _) (fun _ h => (h.wk [(0, [6])] rfl)) (by kernel_rfl) ?_
  refine dq rfl (q_move rfl) ?_
  refine dq rfl (q_loadEmpty rfl aggs_210) ?_
  refine dq rfl (q_move rfl) ?_
  refine dq rfl (q_slice (lo := 2) (hi := 4) rfl Tryz.underlying22 nagg_5 (.inr ⟨_, _, rfl, rfl⟩) (.inr ⟨_, _, rfl, rfl⟩) (by omega) (by omega)) ?_
  refine dq rfl (q_call (vs := [(.agg #[]), (.slice (cutA A c 2) (4 - 2) (c - 2))]) (v := (.int .u16 ((bN bs 2 2 : Nat) : Int))) rfl ca_91 (fun w h => U16 w A n c bs (lo := 2) (hi := 4) (h.fact (j := 0) rfl) (by omega) (by omega))) ?_
  refine dq rfl (q_nil rfl) ?_
  refine dq rfl (q_field (b := rb) (off := 0) rfl fo_117_5) ?_
  refine QL.nil ?_
  refine RG.step1 7 (by kernel_rfl) ?_
  refine dop rfl (l_store (b := rb) (off := 6) (j := 0) rfl rfl nagg_82 rfl rfl rfl rfl (dlt rfl) ⟨(fun _ h => (h.wk [(0, [6])] rfl)), ?_⟩)
  refine dend (by kernel_rfl) ?_
  refine eseq ?_
  refine HT.norm [(geneve_m1_6_k2 rb bs)] [Byt A n c bs] rfl rfl ?_
  refine HT.seq ?_
  refine HT.plain ?_
  refine sl_ (l_alloc (by decide) zero_242 fun b7 => ?_)
  refine send ?_
  refine eseq ?_
  refine HT.norm [(geneve_m1_6_k2 rb bs), ⟨b7, 242, [some (.int .u8 ((0 : Nat) : Int)), some (.int .u8 ((0 : Nat) : Int)), some (.int .u8 ((0 : Nat) : Int)), some (.int .u8 ((0 : Nat) : Int))], true⟩] [Byt A n c bs] rfl rfl ?_
  refine HT.seq ?_
  refine HT.drawn mixed (St.closed _ _ _ _) (St w [rb] [(geneve_m1_6_k2 rb bs)] [Byt A n c bs]) ?_
  refine dtake (f := 1) [0, 1, 2] (by kernel_rfl) (St.closed _ _ _ _) (fun _ h => (h.wk [(0, [])] rfl)) (by kernel_rfl) ?_
  refine dq rfl (q_sliceArr (N := 4) (lo := 1) rfl Tryz.underlying242 nagg_5 (.inr ⟨_, _, rfl, rfl⟩) (by decide)) ?_
  refine dq rfl (q_move rfl) ?_
  refine dq rfl (q_slice (lo := 4) (hi := 7) rfl Tryz.underlying22 nagg_5 (.inr ⟨_, _, rfl, rfl⟩) (.inr ⟨_, _, rfl, rfl⟩) (by omega) (by omega)) ?_
  refine QL.nil ?_
  refine RG.step1 3 (by kernel_rfl) ?_
  refine dop rfl (l_copyB (j := 1) (q := 1) (sn := 3) (off := 1) (K' := [(geneve_m1_6_k2 rb bs), ⟨b7, 242, [some (.int .u8 ((0 : Nat) : Int))] ++ cb (sl bs 4 7) ++ [], true⟩]) [some (.int .u8 ((0 : Nat) : Int))] [some (.int .u8 ((0 : Nat) : Int)), some (.int .u8 ((0 : Nat) : Int)), some (.int .u8 ((0 : Nat) : Int))] [] rfl rfl Tryz.underlying22 byteT_5 rfl rfl rfl rfl rfl (Bx := [Byt A n c bs, Byt (cutA A c 4) (7 - 4) (c - 4) (sl bs 4 7)]) (fun _ h => h.cut (j := 0) (lo := 4) (hi := 7) rfl (by omega) (by omega)) rfl rfl (ht := by simp) ⟨(fun _ h => (h.wk [(0, [])] rfl)), ?_⟩)
  refine dend (by kernel_rfl) ?_
  refine eseq ?_
  refine HT.norm [(geneve_m1_6_k2 rb bs), ⟨b7, 242, [some (.int .u8 ((0 : Nat) : Int))] ++ cb (sl bs 4 7) ++ [], true⟩] [Byt A n c bs] rfl rfl ?_
  refine HT.seq ?_
  refine HT.drawn mixed (St.closed _ _ _ _) (St w [rb] [⟨rb, 117, [some (.slice none 0 0), some (.slice none 0 0), some (.int .u8 (((nb bs 0) / 128 : Nat) : Int)), some (.int .u8 (((nb bs 0) * 4 : Nat) : Int)), some (.bool (decide (0 < (nb bs 1) &&& 128))), some (.bool (decide (0 < (nb bs 1) &&& 64))), some (.int .u16 ((bN bs 2 2 : Nat) : Int)), none, some (.slice none 0 0)], true⟩, ⟨b7, 242, [some (.int .u8 ((0 : Nat) : Int))] ++ cb (sl bs 4 7) ++ [], true⟩] [Byt A n c bs]) ?_
  refine dtake (f := 1) [0, 1, 2, 3, 4, 5] (by kernel_rfl) (St.closed _ _ _ _) (fun _ h => (h.wk [(0, [7]), (1, [])] rfl)) (by kernel_rfl) ?_
  refine dq rfl (q_move rfl) ?_
  refine dq rfl (q_loadEmpty rfl aggs_210) ?_
  refine dq rfl (q_sliceArr (N := 4) (lo := 0) rfl Tryz.underlying242 nagg_5 (.inl ⟨rfl, rfl⟩) (by decide)) ?_
  refine dq rfl (q_call (vs := [(.agg #[]), (.slice (some ⟨b7, 0, none⟩) 4 4)]) (v := (.int .u32 ((bN bs 4 3 : Nat) : Int))) rfl ca_97 (fun w h => U32buf h bs b7 242 (j := 1) rfl (by omega))) ?_
  refine dq rfl (q_nil rfl) ?_
  refine dq rfl (q_field (b := rb) (off := 0) rfl fo_117_6) ?_
  refine QL.nil ?_
  refine RG.step1 6 (by kernel_rfl) ?_
  refine dop rfl (l_store (b := rb) (off := 7) (j := 0) rfl rfl nagg_111 rfl rfl rfl rfl (dlt rfl) ⟨(fun _ h => (h.wk [(0, [7]), (1, [])] rfl)), ?_⟩)
  refine dend (by kernel_rfl) ?_
  refine eseq ?_
  refine HT.norm [⟨rb, 117, [some (.slice none 0 0), some (.slice none 0 0), some (.int .u8 (((nb bs 0) / 128 : Nat) : Int)), some (.int .u8 (((nb bs 0) * 4 : Nat) : Int)), some (.bool (decide (0 < (nb bs 1) &&& 128))), some (.bool (decide (0 < (nb bs 1) &&& 64))), some (.int .u16 ((bN bs 2 2 : Nat) : Int)), some (.int .u32 ((bN bs 4 3 : Nat) : Int)), some (.slice none 0 0)], true⟩, ⟨b7, 242, [some (.int .u8 ((0 : Nat) : Int))] ++ cb (sl bs 4 7) ++ [], true⟩] [Byt A n c bs] rfl rfl ?_
  refine HT.seq ?_
  refine HT.drawnS mixed (St.closed _ _ _ _) ?_
  refine dtake (f := 0) [0, 1, 2, 3, 4, 5, 6] (by kernel_rfl) (St.closed _ _ _ _) (fun _ h => h) (by kernel_rfl) ?_
  refine dq rfl (q_move rfl) ?_
  refine dq rfl (q_nil rfl) ?_
  refine dq rfl (q_field (b := rb) (off := 0) rfl fo_117_2) ?_
  refine dq rfl (q_load (b := rb) (off := 3) (j := 0) rfl nagg_5 (fun _ h => h) rfl rfl rfl) ?_
  refine dq rfl (q_convn (p := (nb bs 0) * 4) rfl Tryz.underlying5 Tryz.underlying21 (show (nb bs 0) * 4 < 2147483648 by have := nb_lt bs 0; omega)) ?_
  refine dq rfl (q_assign rfl) ?_
  refine dq rfl (q_assign rfl) ?_
  refine QL.nil ?_
  refine dend (by kernel_rfl) ?_
  refine eseq ?_
  refine HT.seq ?_
  refine HT.seq ?_
  refine HT.plain ?_
  refine sMv rfl rfl ?_
  refine sqS (q_len (len := n) rfl Tryz.underlying22) rfl ?_
  refine sMv rfl rfl ?_
  refine sqS (q_add (p := (nb bs 0) * 4) (q := 7) rfl rfl (show ((nb bs 0) * 4) + 7 < 2147483648 by have := nb_lt bs 0; omega)) rfl ?_
  refine sqS (q_convn (p := ((nb bs 0) * 4) + 7) rfl Tryz.underlying21 Tryz.underlying3 (show ((nb bs 0) * 4) + 7 < 9223372036854775808 by have := nb_lt bs 0; omega)) rfl ?_
  refine sqS (q_F (q_lt (p := n) (q := ((nb bs 0) * 4) + 7) rfl rfl) (by have := nb_lt bs 0; omega)) rfl ?_
  refine send ?_
  refine eseq ?_
  refine HT.no rfl ?_
  refine HT.skip ?_
  refine eseq ?_
  refine HT.seq ?_
  refine HT.block ?_
  refine HT.loop (ι := {p : Nat × Value × List Kb × (Nat → Nat) × (Nat → Nat) // DSt w.heap.size 118 (fun j d => [.int .u16 ((bN bs (vof bs j) 2 : Nat) : Int), .int .u8 ((nb bs (vof bs j + 2) : Nat) : Int), .int .u8 ((nb bs (vof bs j + 3) / 16 : Nat) : Int), .int .u8 (((nb bs (vof bs j + 3) % 16) * 4 + 4 : Nat) : Int), .slice (some ⟨d, 0, none⟩) ((nb bs (vof bs j + 3) % 16) * 4 + 4 - 4) ((nb bs (vof bs j + 3) % 16) * 4 + 4 - 4)]) (fun j => (nb bs (vof bs j + 3) % 16) * 4 + 4 - 4) (fun j => sl bs (vof bs j + 4) (vof bs j + ((nb bs (vof bs j + 3) % 16) * 4 + 4))) N p.1 p.2.1 p.2.2.1 p.2.2.2.1 p.2.2.2.2}) (fun p => [(0, (.pointer (some ⟨rb, 0, none⟩))), (1, (.slice A n c)), (2, (.iface 199 (.pointer (some ⟨kb, 0, none⟩)))), (8, (.int .u8 ((vof bs p.1.1 : Nat) : Int))), (9, (.int .i32 (((8 + 4 * nb bs 0) - vof bs p.1.1 : Nat) : Int)))]) (fun p => St w [rb] ([⟨rb, 117, [some (.slice none 0 0), some (.slice none 0 0), some (.int .u8 (((nb bs 0) / 128 : Nat) : Int)), some (.int .u8 (((nb bs 0) * 4 : Nat) : Int)), some (.bool (decide (0 < (nb bs 1) &&& 128))), some (.bool (decide (0 < (nb bs 1) &&& 64))), some (.int .u16 ((bN bs 2 2 : Nat) : Int)), some (.int .u32 ((bN bs 4 3 : Nat) : Int)), some p.1.2.1], true⟩, ⟨b7, 242, [some (.int .u8 ((0 : Nat) : Int))] ++ cb (sl bs 4 7) ++ [], true⟩] ++ p.1.2.2.1) [Byt A n c bs, GF p.1.2.2.2.1 p.1.2.2.2.2 (fun j d => [.int .u16 ((bN bs (vof bs j) 2 : Nat) : Int), .int .u8 ((nb bs (vof bs j + 2) : Nat) : Int), .int .u8 ((nb bs (vof bs j + 3) / 16 : Nat) : Int), .int .u8 (((nb bs (vof bs j + 3) % 16) * 4 + 4 : Nat) : Int), .slice (some ⟨d, 0, none⟩) ((nb bs (vof bs j + 3) % 16) * 4 + 4 - 4) ((nb bs (vof bs j + 3) % 16) * 4 + 4 - 4)]) (fun j => (nb bs (vof bs j + 3) % 16) * 4 + 4 - 4) (fun j => sl bs (vof bs j + 4) (vof bs j + ((nb bs (vof bs j + 3) % 16) * 4 + 4))) p.1.1]) (fun p => N - p.1.1) ⟨(0, .slice none 0 0, [], fun _ => 0, fun _ => 0), DSt.nil⟩ ⟨rfl, rfl, rfl, rfl, inc (n' := (8 + 4 * nb bs 0) - vof bs 0) (by have : vof bs 0 = 8 := rfl; omega), trivial⟩ (fun _ h => GF_zero h) fun ⟨⟨i, v, Kr, be, de⟩, hp⟩ => ?_
  replace hp : DSt w.heap.size 118 (fun j d => [.int .u16 ((bN bs (vof bs j) 2 : Nat) : Int), .int .u8 ((nb bs (vof bs j + 2) : Nat) : Int), .int .u8 ((nb bs (vof bs j + 3) / 16 : Nat) : Int), .int .u8 (((nb bs (vof bs j + 3) % 16) * 4 + 4 : Nat) : Int), .slice (some ⟨d, 0, none⟩) ((nb bs (vof bs j + 3) % 16) * 4 + 4 - 4) ((nb bs (vof bs j + 3) % 16) * 4 + 4 - 4)]) (fun j => (nb bs (vof bs j + 3) % 16) * 4 + 4 - 4) (fun j => sl bs (vof bs j + 4) (vof bs j + ((nb bs (vof bs j + 3) % 16) * 4 + 4))) N i v Kr be de := hp
  have hil : i ≤ N := hp.le
  have hr : RowS 118 1 i (rowX (ptrs be) i) v Kr := hp.row
  have ho := vof_succ bs i
  have hge := vof_ge bs i
  have hmo := vof_mod bs i
  have hmo2 := vof_mod bs (i + 1)
  have hma := vof_many bs i
  have h256 := nb_lt bs (vof bs i + 3)
  have hal := vof_le (e := 8 + 4 * nb bs 0) (by omega) (fun j hj => (hd j hj).2.1) i (by omega)
  have hc := hd i
  have hz : i = N → vof bs i = 8 + 4 * nb bs 0 := fun e => by rw [e]; exact he
  have hz15 := zm15 (nb bs (vof bs i + 3))
  show HT _ _ _ [(0, (.pointer (some ⟨rb, 0, none⟩))), (1, (.slice A n c)), (2, (.iface 199 (.pointer (some ⟨kb, 0, none⟩)))), (8, (.int .u8 ((vof bs i : Nat) : Int))), (9, (.int .i32 (((8 + 4 * nb bs 0) - vof bs i : Nat) : Int)))] (St w [rb] ([(geneve_m1_6_k0 rb bs v), ⟨b7, 242, [some (.int .u8 ((0 : Nat) : Int))] ++ cb (sl bs 4 7) ++ [], true⟩] ++ Kr) [Byt A n c bs, GF be de (fun j d => [.int .u16 ((bN bs (vof bs j) 2 : Nat) : Int), .int .u8 ((nb bs (vof bs j + 2) : Nat) : Int), .int .u8 ((nb bs (vof bs j + 3) / 16 : Nat) : Int), .int .u8 (((nb bs (vof bs j + 3) % 16) * 4 + 4 : Nat) : Int), .slice (some ⟨d, 0, none⟩) ((nb bs (vof bs j + 3) % 16) * 4 + 4 - 4) ((nb bs (vof bs j + 3) % 16) * 4 + 4 - 4)]) (fun j => (nb bs (vof bs j + 3) % 16) * 4 + 4 - 4) (fun j => sl bs (vof bs j + 4) (vof bs j + ((nb bs (vof bs j + 3) % 16) * 4 + 4))) i]) _
  by_cases hlt : i < N
  · refine HT.seq ?_
    refine HT.seq ?_
    refine HT.plain ?_
    refine sMv rfl rfl ?_
    refine sqS (q_T (q_gt (p := (8 + 4 * nb bs 0) - vof bs i) (q := 0) rfl rfl) (by omega)) rfl ?_
    refine send ?_
    refine eseq ?_
    refine HT.yes rfl ?_
    refine HT.skip ?_
    refine eseq ?_
    refine HT.block ?_
    refine HT.seq ?_
    refine HT.plain ?_
    refine sMv rfl rfl ?_
    refine sMv rfl rfl ?_
    refine sqS (q_slice (lo := vof bs i) (hi := n) rfl Tryz.underlying22 nagg_5 (.inr ⟨_, _, rfl, rfl⟩) (.inl ⟨rfl, rfl⟩) (by omega) (by omega)) rfl ?_
    refine sMv rfl rfl ?_
    refine sMv rfl rfl ?_
    refine sl_ (l_callT2K (K := [(geneve_m1_6_k0 rb bs v), ⟨b7, 242, [some (.int .u8 ((0 : Nat) : Int))] ++ cb (sl bs 4 7) ++ [], true⟩]) (Kr := Kr) (vs := [(.slice (cutA A c (vof bs i)) (n - (vof bs i)) (c - (vof bs i))), (.pointer (some ⟨rb, 0, none⟩)), (.iface 199 (.pointer (some ⟨kb, 0, none⟩)))]) (Bc := [Byt (cutA A c (vof bs i)) (n - (vof bs i)) (c - (vof bs i)) (sl bs (vof bs i) n)]) (Bx := [Byt A n c bs, GF be de (fun j d => [.int .u16 ((bN bs (vof bs j) 2 : Nat) : Int), .int .u8 ((nb bs (vof bs j + 2) : Nat) : Int), .int .u8 ((nb bs (vof bs j + 3) / 16 : Nat) : Int), .int .u8 (((nb bs (vof bs j + 3) % 16) * 4 + 4 : Nat) : Int), .slice (some ⟨d, 0, none⟩) ((nb bs (vof bs j + 3) % 16) * 4 + 4 - 4) ((nb bs (vof bs j + 3) % 16) * 4 + 4 - 4)]) (fun j => (nb bs (vof bs j + 3) % 16) * 4 + 4 - 4) (fun j => sl bs (vof bs j + 4) (vof bs j + ((nb bs (vof bs j + 3) % 16) * 4 + 4))) i, Byt (cutA A c (vof bs i)) (n - (vof bs i)) (c - (vof bs i)) (sl bs (vof bs i) n)]) [2] (fun bo gd => [Byt A n c bs, GF be de (fun j d => [.int .u16 ((bN bs (vof bs j) 2 : Nat) : Int), .int .u8 ((nb bs (vof bs j + 2) : Nat) : Int), .int .u8 ((nb bs (vof bs j + 3) / 16 : Nat) : Int), .int .u8 (((nb bs (vof bs j + 3) % 16) * 4 + 4 : Nat) : Int), .slice (some ⟨d, 0, none⟩) ((nb bs (vof bs j + 3) % 16) * 4 + 4 - 4) ((nb bs (vof bs j + 3) % 16) * 4 + 4 - 4)]) (fun j => (nb bs (vof bs j + 3) % 16) * 4 + 4 - 4) (fun j => sl bs (vof bs j + 4) (vof bs j + ((nb bs (vof bs j + 3) % 16) * 4 + 4))) i, Byt (some ⟨gd, 0, none⟩) ((nb bs ((vof bs i) + 3) % 16) * 4 + 4 - 4) ((nb bs ((vof bs i) + 3) % 16) * 4 + 4 - 4) (sl bs ((vof bs i) + 4) ((vof bs i) + ((nb bs ((vof bs i) + 3) % 16) * 4 + 4)))]) (by decide) rfl ca_146 (fun _ h => (h.cut (j := 0) (lo := vof bs i) (hi := n) rfl (by omega) (by omega))) rfl (fun w h => gvoS w (cutA A c (vof bs i)) (n - (vof bs i)) (c - (vof bs i)) bs (vof bs i) n rb kb (by omega) (by omega) (by omega) (by omega) h) (fun _ _ => rfl) (fun _ _ => rfl) fun bo gd hf1 he2 => ?_)
    have hnc3 : (nb bs ((vof bs i) + 3) % 16) * 4 + 4 - 4 ≤ (nb bs ((vof bs i) + 3) % 16) * 4 + 4 - 4 := by obtain ⟨w, h⟩ := he2; exact (h _ List.mem_cons_self).2.1
    refine sMv rfl rfl ?_
    refine sqS (q_extract (vs := [(.pointer (some ⟨bo, 0, none⟩)), (.int .u8 (((((nb bs ((vof bs i) + 3)) % 16) * 4) + 4 : Nat) : Int)), .nilIface]) (i := 0) rfl rfl) rfl ?_
    refine sqS (q_extract (vs := [(.pointer (some ⟨bo, 0, none⟩)), (.int .u8 (((((nb bs ((vof bs i) + 3)) % 16) * 4) + 4 : Nat) : Int)), .nilIface]) (i := 1) rfl rfl) rfl ?_
    refine sqS (q_extract (vs := [(.pointer (some ⟨bo, 0, none⟩)), (.int .u8 (((((nb bs ((vof bs i) + 3)) % 16) * 4) + 4 : Nat) : Int)), .nilIface]) (i := 2) rfl rfl) rfl ?_
    refine sAs rfl rfl ?_
    refine sAs rfl rfl ?_
    refine sAs rfl rfl ?_
    refine send ?_
    refine eseq ?_
    refine HT.norm ([(geneve_m1_6_k0 rb bs v), ⟨b7, 242, [some (.int .u8 ((0 : Nat) : Int))] ++ cb (sl bs 4 7) ++ [], true⟩, (geneve_m1_6_k1 bo bs i gd)] ++ Kr) [Byt A n c bs, GF be de (fun j d => [.int .u16 ((bN bs (vof bs j) 2 : Nat) : Int), .int .u8 ((nb bs (vof bs j + 2) : Nat) : Int), .int .u8 ((nb bs (vof bs j + 3) / 16 : Nat) : Int), .int .u8 (((nb bs (vof bs j + 3) % 16) * 4 + 4 : Nat) : Int), .slice (some ⟨d, 0, none⟩) ((nb bs (vof bs j + 3) % 16) * 4 + 4 - 4) ((nb bs (vof bs j + 3) % 16) * 4 + 4 - 4)]) (fun j => (nb bs (vof bs j + 3) % 16) * 4 + 4 - 4) (fun j => sl bs (vof bs j + 4) (vof bs j + ((nb bs (vof bs j + 3) % 16) * 4 + 4))) i, Byt (some ⟨gd, 0, none⟩) ((nb bs ((vof bs i) + 3) % 16) * 4 + 4 - 4) ((nb bs ((vof bs i) + 3) % 16) * 4 + 4 - 4) (sl bs ((vof bs i) + 4) ((vof bs i) + ((nb bs ((vof bs i) + 3) % 16) * 4 + 4)))] rfl rfl ?_
    refine HT.seq ?_
    refine HT.seq ?_
    refine HT.plain ?_
    refine sMv rfl rfl ?_
    refine sqS (q_notNil rfl rfl Tryz.underlying59) rfl ?_
    refine send ?_
    refine eseq ?_
    refine HT.no rfl ?_
    refine HT.skip ?_
    refine eseq ?_
    refine HT.seq ?_
    refine HT.plain ?_
    refine sMv rfl rfl ?_
    refine sMv rfl rfl ?_
    refine sqS (q_nil rfl) rfl ?_
    refine sqS (q_field (b := rb) (off := 0) rfl fo_117_7) rfl ?_
    refine sqS (q_load (b := rb) (off := 8) (j := 0) rfl nagg_115 (fun _ h => h) rfl rfl rfl) rfl ?_
    refine sMv rfl rfl ?_
    refine sl_ (l_buildSliceT (K := [(geneve_m1_6_k0 rb bs v), ⟨b7, 242, [some (.int .u8 ((0 : Nat) : Int))] ++ cb (sl bs 4 7) ++ [], true⟩, (geneve_m1_6_k1 bo bs i gd)]) (Kr := Kr) (e := 118) (vs := [(0, (.pointer (some ⟨bo, 0, none⟩)))]) (cs := [(.pointer (some ⟨bo, 0, none⟩))]) (by decide) rfl (fun _ => by kernel_rfl) fun b102 => ?_)
    refine sl_ (l_appendR (K0 := [(geneve_m1_6_k0 rb bs v), ⟨b7, 242, [some (.int .u8 ((0 : Nat) : Int))] ++ cb (sl bs 4 7) ++ [], true⟩, (geneve_m1_6_k1 bo bs i gd), ⟨b102, 118, [some (.pointer (some ⟨bo, 0, none⟩))], true⟩]) (Kr := Kr) (k := i) (xs := (rowX (ptrs be) i)) (jq := 3) (news := [(.pointer (some ⟨bo, 0, none⟩))]) (by decide) rfl rfl Tryz.underlying115 rowT_118 (by decide) hr (by have := hil; omega) rfl rfl (by simp [Value.one1]) fun v103 Kr103 hr103 => ?_)
    refine sqS (q_nil rfl) rfl ?_
    refine sqS (q_field (b := rb) (off := 0) rfl fo_117_7) rfl ?_
    refine sl_ (l_store (b := rb) (off := 8) (j := 0) rfl rfl nagg_115 hr103.one rfl rfl rfl (dlt rfl) ?_)
    refine send ?_
    refine eseq ?_
    refine HT.norm ([⟨rb, 117, [some (.slice none 0 0), some (.slice none 0 0), some (.int .u8 (((nb bs 0) / 128 : Nat) : Int)), some (.int .u8 (((nb bs 0) * 4 : Nat) : Int)), some (.bool (decide (0 < (nb bs 1) &&& 128))), some (.bool (decide (0 < (nb bs 1) &&& 64))), some (.int .u16 ((bN bs 2 2 : Nat) : Int)), some (.int .u32 ((bN bs 4 3 : Nat) : Int)), some v103], true⟩, ⟨b7, 242, [some (.int .u8 ((0 : Nat) : Int))] ++ cb (sl bs 4 7) ++ [], true⟩, (geneve_m1_6_k1 bo bs i gd), ⟨b102, 118, [some (.pointer (some ⟨bo, 0, none⟩))], true⟩] ++ Kr103) [Byt A n c bs, GF be de (fun j d => [.int .u16 ((bN bs (vof bs j) 2 : Nat) : Int), .int .u8 ((nb bs (vof bs j + 2) : Nat) : Int), .int .u8 ((nb bs (vof bs j + 3) / 16 : Nat) : Int), .int .u8 (((nb bs (vof bs j + 3) % 16) * 4 + 4 : Nat) : Int), .slice (some ⟨d, 0, none⟩) ((nb bs (vof bs j + 3) % 16) * 4 + 4 - 4) ((nb bs (vof bs j + 3) % 16) * 4 + 4 - 4)]) (fun j => (nb bs (vof bs j + 3) % 16) * 4 + 4 - 4) (fun j => sl bs (vof bs j + 4) (vof bs j + ((nb bs (vof bs j + 3) % 16) * 4 + 4))) i, Byt (some ⟨gd, 0, none⟩) ((nb bs ((vof bs i) + 3) % 16) * 4 + 4 - 4) ((nb bs ((vof bs i) + 3) % 16) * 4 + 4 - 4) (sl bs ((vof bs i) + 4) ((vof bs i) + ((nb bs ((vof bs i) + 3) % 16) * 4 + 4)))] rfl rfl ?_
    refine HT.seq ?_
    refine HT.plain ?_
    refine sMv rfl rfl ?_
    refine sMv rfl rfl ?_
    refine sqS (q_convn (p := (((nb bs ((vof bs i) + 3)) % 16) * 4) + 4) rfl Tryz.underlying5 Tryz.underlying21 (show (((nb bs ((vof bs i) + 3)) % 16) * 4) + 4 < 2147483648 by have := nb_lt bs ((vof bs i) + 3); omega)) rfl ?_
    refine sqS (q_sub (p := (8 + 4 * nb bs 0) - vof bs i) (q := (((nb bs ((vof bs i) + 3)) % 16) * 4) + 4) rfl rfl (by have := nb_lt bs ((vof bs i) + 3); omega) (show (8 + 4 * nb bs 0) - vof bs i < 2147483648 by omega)) rfl ?_
    refine sAs rfl rfl ?_
    refine send ?_
    refine eseq ?_
    refine HT.plain ?_
    refine sMv rfl rfl ?_
    refine sMv rfl rfl ?_
    refine sqS (q_add (p := vof bs i) (q := (((nb bs ((vof bs i) + 3)) % 16) * 4) + 4) rfl rfl (show (vof bs i) + ((((nb bs ((vof bs i) + 3)) % 16) * 4) + 4) < 256 by have := nb_lt bs ((vof bs i) + 3); omega)) rfl ?_
    refine sAs rfl rfl ?_
    refine send ?_
    refine ein ?_
    exact fun a ha w' hw => by
      obtain ⟨hp2, hs2⟩ := DSt.step hp (X := [⟨rb, 117, [some (.slice none 0 0), some (.slice none 0 0), some (.int .u8 (((nb bs 0) / 128 : Nat) : Int)), some (.int .u8 (((nb bs 0) * 4 : Nat) : Int)), some (.bool (decide (0 < (nb bs 1) &&& 128))), some (.bool (decide (0 < (nb bs 1) &&& 64))), some (.int .u16 ((bN bs 2 2 : Nat) : Int)), some (.int .u32 ((bN bs 4 3 : Nat) : Int)), some v103], true⟩, ⟨b7, 242, [some (.int .u8 ((0 : Nat) : Int))] ++ cb (sl bs 4 7) ++ [], true⟩]) (Y := [⟨b102, 118, [some (.pointer (some ⟨bo, 0, none⟩))], true⟩]) (k := (geneve_m1_6_k1 bo bs i gd)) (B := [Byt A n c bs]) (d := gd) hw (by omega) rfl rfl rfl hr103 (fun i hi => by rw [List.mem_singleton.1 hi]; exact ⟨_, List.mem_cons_self, rfl⟩) (hf1 _ List.mem_cons_self)
      exact eround2 ⟨(i + 1, _, _, _, _), hp2⟩ (show N - (i + 1) < N - i by omega) (ha.sub ⟨rfl, rfl, rfl, inc (n' := vof bs (i + 1)) (by omega), inc (n' := (8 + 4 * nb bs 0) - vof bs (i + 1)) (by omega), trivial⟩) hs2
  · have hiN : i = N := by omega
    refine HT.seq ?_
    refine HT.seq ?_
    refine HT.plain ?_
    refine sMv rfl rfl ?_
    refine sqS (q_F (q_gt (p := (8 + 4 * nb bs 0) - vof bs i) (q := 0) rfl rfl) (by omega)) rfl ?_
    refine send ?_
    refine eseq ?_
    refine HT.no rfl ?_
    refine HT.exit ?_
    refine ex_then ?_
    refine ex_then ?_
    refine ex_in ?_
    refine eseq ?_
    replace hiN := hiN.symm
    subst hiN
    refine HT.rowFact (K := [(geneve_m1_6_k0 rb bs v), ⟨b7, 242, [some (.int .u8 ((0 : Nat) : Int))] ++ cb (sl bs 4 7) ++ [], true⟩]) (Kr := Kr) hr (fun i hi => by rw [List.mem_singleton.1 hi]; exact ⟨_, List.mem_cons_self, rfl⟩) fun AQ cQ hvQ hncQ hfQ => ?_
    subst hvQ
    refine HT.seq ?_
    refine HT.drawn mixed (St.closed _ _ _ _) (St w [rb] [⟨rb, 117, [none, none, some (.int .u8 (((nb bs 0) / 128 : Nat) : Int)), some (.int .u8 (((nb bs 0) * 4 : Nat) : Int)), some (.bool (decide (0 < (nb bs 1) &&& 128))), some (.bool (decide (0 < (nb bs 1) &&& 64))), some (.int .u16 ((bN bs 2 2 : Nat) : Int)), some (.int .u32 ((bN bs 4 3 : Nat) : Int)), some (.slice AQ N cQ)], true⟩, ⟨b7, 242, [some (.int .u8 ((0 : Nat) : Int))] ++ cb (sl bs 4 7) ++ [], true⟩] [Byt A n c bs, GF be de (fun j d => [.int .u16 ((bN bs (vof bs j) 2 : Nat) : Int), .int .u8 ((nb bs (vof bs j + 2) : Nat) : Int), .int .u8 ((nb bs (vof bs j + 3) / 16 : Nat) : Int), .int .u8 (((nb bs (vof bs j + 3) % 16) * 4 + 4 : Nat) : Int), .slice (some ⟨d, 0, none⟩) ((nb bs (vof bs j + 3) % 16) * 4 + 4 - 4) ((nb bs (vof bs j + 3) % 16) * 4 + 4 - 4)]) (fun j => (nb bs (vof bs j + 3) % 16) * 4 + 4 - 4) (fun j => sl bs (vof bs j + 4) (vof bs j + ((nb bs (vof bs j + 3) % 16) * 4 + 4))) N, Cel AQ N cQ 1 (rowX (ptrs be) N)]) ?_
    refine dtake (f := 1) [0, 1, 2, 3, 4, 5, 6, 7, 8, 9] (by kernel_rfl) (St.closed _ _ _ _) (fun _ h => (h.wk [(0, [0, 1]), (1, [])] rfl)) (by kernel_rfl) ?_
    refine dq rfl (q_move rfl) ?_
    refine dq rfl (q_move rfl) ?_
    refine dq rfl (q_move rfl) ?_
    refine dq rfl (q_slice (lo := 0) (hi := vof bs N) rfl Tryz.underlying22 nagg_5 (.inl ⟨rfl, rfl⟩) (.inr ⟨_, _, rfl, rfl⟩) (by omega) (by omega)) ?_
    refine dq rfl (q_move rfl) ?_
    refine dq rfl (q_move rfl) ?_
    refine dq rfl (q_slice (lo := vof bs N) (hi := n) rfl Tryz.underlying22 nagg_5 (.inr ⟨_, _, rfl, rfl⟩) (.inl ⟨rfl, rfl⟩) (by omega) (by omega)) ?_
    refine dq rfl (q_build (vs := [(0, (.slice (cutA A c 0) ((vof bs N) - 0) (c - 0))), (1, (.slice (cutA A c (vof bs N)) (n - (vof bs N)) (c - (vof bs N))))]) (v := (.agg #[(.slice (cutA A c 0) ((vof bs N) - 0) (c - 0)), (.slice (cutA A c (vof bs N)) (n - (vof bs N)) (c - (vof bs N)))])) rfl (fun _ => by kernel_rfl)) ?_
    refine dq rfl (q_nil rfl) ?_
    refine dq rfl (q_field (b := rb) (off := 0) rfl fo_117_0) ?_
    refine QL.nil ?_
    refine RG.step1 10 (by kernel_rfl) ?_
    refine dop rfl (l_storeAgg (b := rb) (off := 0) (j := 0) (vs := [(.slice (cutA A c 0) ((vof bs N) - 0) (c - 0)), (.slice (cutA A c (vof bs N)) (n - (vof bs N)) (c - (vof bs N)))]) rfl rfl aggs_68 (by simp [Value.one1]) rfl rfl rfl (Nat.le_of_ble_eq_true rfl) ⟨(fun _ h => (h.wk [(0, [0, 1]), (1, [])] rfl)), ?_⟩)
    refine dend (by kernel_rfl) ?_
    refine eseq ?_
    refine HT.norm [⟨rb, 117, [some (.slice (cutA A c 0) ((vof bs N) - 0) (c - 0)), some (.slice (cutA A c (vof bs N)) (n - (vof bs N)) (c - (vof bs N))), some (.int .u8 (((nb bs 0) / 128 : Nat) : Int)), some (.int .u8 (((nb bs 0) * 4 : Nat) : Int)), some (.bool (decide (0 < (nb bs 1) &&& 128))), some (.bool (decide (0 < (nb bs 1) &&& 64))), some (.int .u16 ((bN bs 2 2 : Nat) : Int)), some (.int .u32 ((bN bs 4 3 : Nat) : Int)), some (.slice AQ N cQ)], true⟩, ⟨b7, 242, [some (.int .u8 ((0 : Nat) : Int))] ++ cb (sl bs 4 7) ++ [], true⟩] [Byt A n c bs, GF be de (fun j d => [.int .u16 ((bN bs (vof bs j) 2 : Nat) : Int), .int .u8 ((nb bs (vof bs j + 2) : Nat) : Int), .int .u8 ((nb bs (vof bs j + 3) / 16 : Nat) : Int), .int .u8 (((nb bs (vof bs j + 3) % 16) * 4 + 4 : Nat) : Int), .slice (some ⟨d, 0, none⟩) ((nb bs (vof bs j + 3) % 16) * 4 + 4 - 4) ((nb bs (vof bs j + 3) % 16) * 4 + 4 - 4)]) (fun j => (nb bs (vof bs j + 3) % 16) * 4 + 4 - 4) (fun j => sl bs (vof bs j + 4) (vof bs j + ((nb bs (vof bs j + 3) % 16) * 4 + 4))) N, Cel AQ N cQ 1 (rowX (ptrs be) N)] rfl rfl ?_
    refine HT.seq ?_
    refine HT.plain ?_
    refine sAs rfl rfl ?_
    refine send ?_
    refine eseq ?_
    refine HT.ret ?_
    exact fun a ha w' hw => fin_ ha (res1 ha Tryz.results144 rfl) ⟨AQ, cQ, be, de, rfl, ((hw.wk [(0, [])] rfl).selF [0, 2, 1] rfl), (fr1 hfQ (fr1 hp.new fr0))⟩

abbrev geneve_dd6_k0 (rb : Nat) (A : Option Addr) (c : Nat) (bs : List UInt8) (N : Nat) (n : Nat) (AQ : Option Addr) (cQ : Nat) : Kb := ⟨rb, 117, [some (.slice (cutA A c 0) ((vof bs N) - 0) (c - 0)), some (.slice (cutA A c (vof bs N)) (n - (vof bs N)) (c - (vof bs N))), some (.int .u8 (((nb bs 0) / 128 : Nat) : Int)), some (.int .u8 (((nb bs 0) * 4 : Nat) : Int)), some (.bool (decide (0 < (nb bs 1) &&& 128))), some (.bool (decide (0 < (nb bs 1) &&& 64))), some (.int .u16 ((bN bs 2 2 : Nat) : Int)), some (.int .u32 ((bN bs 4 3 : Nat) : Int)), some (.slice AQ N cQ)], true⟩

theorem geneve_dd6 (w : World) (A : Option Addr) (n : Nat) (c : Nat) (bs : List UInt8) (N : Nat) (rb : Nat) (kb : Nat) (hn : n ≤ 400) (ha : 8 ≤ n) (hb : nb bs 0 ≤ 61) (hc : 4 * nb bs 0 ≤ n - 8) (hd : ∀ i, i < N → vof bs i < 8 + 4 * nb bs 0 ∧ vof bs (i + 1) ≤ 8 + 4 * nb bs 0 ∧ nb bs (vof bs i + 3) / 16 % 2 = 0) (he : vof bs N = 8 + 4 * nb bs 0) (hst : St w [rb, kb] [⟨rb, 117, [some (.slice none 0 0), some (.slice none 0 0), some (.int .u8 ((0 : Nat) : Int)), some (.int .u8 ((0 : Nat) : Int)), some (.bool false), some (.bool false), some (.int .u16 ((0 : Nat) : Int)), some (.int .u32 ((0 : Nat) : Int)), some (.slice none 0 0)], true⟩, ⟨kb, 201, [some .nilIface], true⟩] [Byt A n c bs] w) : Calls Tryz.prog 96 #[(.iface 114 (.pointer (some ⟨rb, 0, none⟩))), (.slice A n c), (.iface 199 (.pointer (some ⟨kb, 0, none⟩)))] w (CP4 w [rb, kb] [Byt A n c bs] (fun AQ cQ be de => .nilIface) (fun AQ cQ be de => [(geneve_dd6_k0 rb A c bs N n AQ cQ), ⟨kb, 201, [some (.iface 114 (.pointer (some ⟨rb, 0, none⟩)))], true⟩]) (fun AQ cQ be de => [Cel AQ N cQ 1 (rowX (ptrs be) N), GF be de (fun j d => [.int .u16 ((bN bs (vof bs j) 2 : Nat) : Int), .int .u8 ((nb bs (vof bs j + 2) : Nat) : Int), .int .u8 ((nb bs (vof bs j + 3) / 16 : Nat) : Int), .int .u8 (((nb bs (vof bs j + 3) % 16) * 4 + 4 : Nat) : Int), .slice (some ⟨d, 0, none⟩) ((nb bs (vof bs j + 3) % 16) * 4 + 4 - 4) ((nb bs (vof bs j + 3) % 16) * 4 + 4 - 4)]) (fun j => (nb bs (vof bs j + 3) % 16) * 4 + 4 - 4) (fun j => sl bs (vof bs j + 4) (vof bs j + ((nb bs (vof bs j + 3) % 16) * 4 + 4))) N])) := by
  have hnc00 : n ≤ c := (hst.fact (j := 0) rfl).2.1
  refine enter (vs := [(.iface 114 (.pointer (some ⟨rb, 0, none⟩))), (.slice A n c), (.iface 199 (.pointer (some ⟨kb, 0, none⟩)))]) Tryz.func96 rfl rfl rfl hst ?_
  refine HT.seq ?_
  refine HT.plain ?_
  refine sAs rfl rfl ?_
  refine send ?_
  refine eseq ?_
  refine HT.seq ?_
  refine HT.plain ?_
  refine sMv rfl rfl ?_
  refine sMv rfl rfl ?_
  refine sMv rfl rfl ?_
  refine sl_ (l_invX4 (vs := [(.slice A n c), (.iface 199 (.pointer (some ⟨kb, 0, none⟩)))]) (Kc := [⟨rb, 117, [some (.slice none 0 0), some (.slice none 0 0), some (.int .u8 ((0 : Nat) : Int)), some (.int .u8 ((0 : Nat) : Int)), some (.bool false), some (.bool false), some (.int .u16 ((0 : Nat) : Int)), some (.int .u32 ((0 : Nat) : Int)), some (.slice none 0 0)], true⟩]) (Bc := [Byt A n c bs]) [0] [0] [Byt A n c bs] (fun AQ cQ be de => [⟨kb, 201, [some .nilIface], true⟩, (geneve_dd6_k0 rb A c bs N n AQ cQ)]) (fun AQ cQ be de => [Byt A n c bs, Cel AQ N cQ 1 (rowX (ptrs be) N), GF be de (fun j d => [.int .u16 ((bN bs (vof bs j) 2 : Nat) : Int), .int .u8 ((nb bs (vof bs j + 2) : Nat) : Int), .int .u8 ((nb bs (vof bs j + 3) / 16 : Nat) : Int), .int .u8 (((nb bs (vof bs j + 3) % 16) * 4 + 4 : Nat) : Int), .slice (some ⟨d, 0, none⟩) ((nb bs (vof bs j + 3) % 16) * 4 + 4 - 4) ((nb bs (vof bs j + 3) % 16) * 4 + 4 - 4)]) (fun j => (nb bs (vof bs j + 3) % 16) * 4 + 4 - 4) (fun j => sl bs (vof bs j + 4) (vof bs j + ((nb bs (vof bs j + 3) % 16) * 4 + 4))) N]) (by decide) rfl (fun w => me_114_DecodeFromBytes _ w) rfl ca_144 (fun _ h => h) rfl rfl rfl rfl (fun w h => geneve_m1_6 w A n c bs N rb kb (by omega) (by omega) (by omega) (by omega) hd (by omega) h) (fun _ _ _ _ => rfl) (fun _ _ _ _ => rfl) (fun _ _ _ _ => rfl) (fun _ _ _ _ => rfl) fun AQ cQ be de hf1 he2 => ?_)
  have hnc3 : N ≤ cQ := by obtain ⟨w, h⟩ := he2; exact (h _ List.mem_cons_self).2.1
  refine sAs rfl rfl ?_
  refine send ?_
  refine eseq ?_
  refine HT.seq ?_
  refine HT.seq ?_
  refine HT.plain ?_
  refine sMv rfl rfl ?_
  refine sqS (q_notNil rfl rfl Tryz.underlying59) rfl ?_
  refine send ?_
  refine eseq ?_
  refine HT.no rfl ?_
  refine HT.skip ?_
  refine eseq ?_
  refine HT.seq ?_
  refine HT.plain ?_
  refine sMv rfl rfl ?_
  refine sMv rfl rfl ?_
  refine sl_ (l_invX0 (vs := [(.iface 114 (.pointer (some ⟨rb, 0, none⟩)))]) (Kc := [⟨kb, 201, [some .nilIface], true⟩]) (Bc := []) [0] [] [Byt A n c bs, Cel AQ N cQ 1 (rowX (ptrs be) N), GF be de (fun j d => [.int .u16 ((bN bs (vof bs j) 2 : Nat) : Int), .int .u8 ((nb bs (vof bs j + 2) : Nat) : Int), .int .u8 ((nb bs (vof bs j + 3) / 16 : Nat) : Int), .int .u8 (((nb bs (vof bs j + 3) % 16) * 4 + 4 : Nat) : Int), .slice (some ⟨d, 0, none⟩) ((nb bs (vof bs j + 3) % 16) * 4 + 4 - 4) ((nb bs (vof bs j + 3) % 16) * 4 + 4 - 4)]) (fun j => (nb bs (vof bs j + 3) % 16) * 4 + 4 - 4) (fun j => sl bs (vof bs j + 4) (vof bs j + ((nb bs (vof bs j + 3) % 16) * 4 + 4))) N] ([(geneve_dd6_k0 rb A c bs N n AQ cQ), ⟨kb, 201, [some (.iface 114 (.pointer (some ⟨rb, 0, none⟩)))], true⟩]) ([Byt A n c bs, Cel AQ N cQ 1 (rowX (ptrs be) N), GF be de (fun j d => [.int .u16 ((bN bs (vof bs j) 2 : Nat) : Int), .int .u8 ((nb bs (vof bs j + 2) : Nat) : Int), .int .u8 ((nb bs (vof bs j + 3) / 16 : Nat) : Int), .int .u8 (((nb bs (vof bs j + 3) % 16) * 4 + 4 : Nat) : Int), .slice (some ⟨d, 0, none⟩) ((nb bs (vof bs j + 3) % 16) * 4 + 4 - 4) ((nb bs (vof bs j + 3) % 16) * 4 + 4 - 4)]) (fun j => (nb bs (vof bs j + 3) % 16) * 4 + 4 - 4) (fun j => sl bs (vof bs j + 4) (vof bs j + ((nb bs (vof bs j + 3) % 16) * 4 + 4))) N]) (by decide) rfl (fun w => me_199_AddLayer _ w) rfl ca_166 (fun _ h => h) rfl rfl rfl rfl (fun w h => addLayer w kb 114 rb  h) rfl rfl rfl rfl fun hf5 he6 => ?_)
  refine send ?_
  refine eseq ?_
  refine HT.seq ?_
  refine HT.plain ?_
  refine sAs rfl rfl ?_
  refine send ?_
  refine eseq ?_
  refine HT.ret ?_
  exact fun a ha w' hw => fin_ ha (res1 ha Tryz.results96 rfl) ⟨AQ, cQ, be, de, rfl, hw, (fr1 (hf1 _ List.mem_cons_self) (fr1 (hf1 _ (List.mem_cons_of_mem _ List.mem_cons_self)) fr0))⟩

theorem geneve_d6 (w : World) (A : Option Addr) (n : Nat) (c : Nat) (bs : List UInt8) (N : Nat) (kb : Nat) (hn : n ≤ 400) (ha : 8 ≤ n) (hb : nb bs 0 ≤ 61) (hc : 4 * nb bs 0 ≤ n - 8) (hd : ∀ i, i < N → vof bs i < 8 + 4 * nb bs 0 ∧ vof bs (i + 1) ≤ 8 + 4 * nb bs 0 ∧ nb bs (vof bs i + 3) / 16 % 2 = 0) (he : vof bs N = 8 + 4 * nb bs 0) (hst : St w [kb] [⟨kb, 201, [some .nilIface], true⟩] [Byt A n c bs] w) : Calls Tryz.prog 79 #[(.slice A n c), (.iface 199 (.pointer (some ⟨kb, 0, none⟩)))] w (CP5 w [kb] [Byt A n c bs] (fun b7 AQ cQ be de => .nilIface) (fun b7 AQ cQ be de => [⟨kb, 201, [some (.iface 114 (.pointer (some ⟨b7, 0, none⟩)))], true⟩, ⟨b7, 117, [some (.slice (cutA A c 0) ((vof bs N) - 0) (c - 0)), some (.slice (cutA A c (vof bs N)) (n - (vof bs N)) (c - (vof bs N))), some (.int .u8 (((nb bs 0) / 128 : Nat) : Int)), some (.int .u8 (((nb bs 0) * 4 : Nat) : Int)), some (.bool (decide (0 < (nb bs 1) &&& 128))), some (.bool (decide (0 < (nb bs 1) &&& 64))), some (.int .u16 ((bN bs 2 2 : Nat) : Int)), some (.int .u32 ((bN bs 4 3 : Nat) : Int)), some (.slice AQ N cQ)], true⟩]) (fun b7 AQ cQ be de => [Cel AQ N cQ 1 (rowX (ptrs be) N), GF be de (fun j d => [.int .u16 ((bN bs (vof bs j) 2 : Nat) : Int), .int .u8 ((nb bs (vof bs j + 2) : Nat) : Int), .int .u8 ((nb bs (vof bs j + 3) / 16 : Nat) : Int), .int .u8 (((nb bs (vof bs j + 3) % 16) * 4 + 4 : Nat) : Int), .slice (some ⟨d, 0, none⟩) ((nb bs (vof bs j + 3) % 16) * 4 + 4 - 4) ((nb bs (vof bs j + 3) % 16) * 4 + 4 - 4)]) (fun j => (nb bs (vof bs j + 3) % 16) * 4 + 4 - 4) (fun j => sl bs (vof bs j + 4) (vof bs j + ((nb bs (vof bs j + 3) % 16) * 4 + 4))) N])) := by
  have hnc00 : n ≤ c := (hst.fact (j := 0) rfl).2.1
  refine enter (vs := [(.slice A n c), (.iface 199 (.pointer (some ⟨kb, 0, none⟩)))]) Tryz.func79 rfl rfl rfl hst ?_
  refine HT.seq ?_
  refine HT.plain ?_
  refine sAs rfl rfl ?_
  refine send ?_
  refine eseq ?_
  refine HT.seq ?_
  refine HT.plain ?_
  refine sqS (q_build (vs := []) (v := (.agg #[(.slice none 0 0), (.slice none 0 0), (.int .u8 ((0 : Nat) : Int)), (.int .u8 ((0 : Nat) : Int)), (.bool false), (.bool false), (.int .u16 ((0 : Nat) : Int)), (.int .u32 ((0 : Nat) : Int)), (.slice none 0 0)])) rfl (fun _ => by kernel_rfl)) rfl ?_
  refine sl_ (l_box (by decide) rfl fun b7 => ?_)
  refine sAs rfl rfl ?_
  refine send ?_
  refine eseq ?_
  refine HT.seq ?_
  refine HT.plain ?_
  refine sMv rfl rfl ?_
  refine sqS (q_iface rfl Tryz.underlying114 (fun _ h => nomatch h)) rfl ?_
  refine sMv rfl rfl ?_
  refine sMv rfl rfl ?_
  refine sl_ (l_callX4 (vs := [(.iface 114 (.pointer (some ⟨b7, 0, none⟩))), (.slice A n c), (.iface 199 (.pointer (some ⟨kb, 0, none⟩)))]) (Kc := [⟨b7, 117, [some (.slice none 0 0), some (.slice none 0 0), some (.int .u8 ((0 : Nat) : Int)), some (.int .u8 ((0 : Nat) : Int)), some (.bool false), some (.bool false), some (.int .u16 ((0 : Nat) : Int)), some (.int .u32 ((0 : Nat) : Int)), some (.slice none 0 0)], true⟩, ⟨kb, 201, [some .nilIface], true⟩]) (Bc := [Byt A n c bs]) [1, 0] [0] [Byt A n c bs] (fun AQ cQ be de => [⟨b7, 117, [some (.slice (cutA A c 0) ((vof bs N) - 0) (c - 0)), some (.slice (cutA A c (vof bs N)) (n - (vof bs N)) (c - (vof bs N))), some (.int .u8 (((nb bs 0) / 128 : Nat) : Int)), some (.int .u8 (((nb bs 0) * 4 : Nat) : Int)), some (.bool (decide (0 < (nb bs 1) &&& 128))), some (.bool (decide (0 < (nb bs 1) &&& 64))), some (.int .u16 ((bN bs 2 2 : Nat) : Int)), some (.int .u32 ((bN bs 4 3 : Nat) : Int)), some (.slice AQ N cQ)], true⟩, ⟨kb, 201, [some (.iface 114 (.pointer (some ⟨b7, 0, none⟩)))], true⟩]) (fun AQ cQ be de => [Byt A n c bs, Cel AQ N cQ 1 (rowX (ptrs be) N), GF be de (fun j d => [.int .u16 ((bN bs (vof bs j) 2 : Nat) : Int), .int .u8 ((nb bs (vof bs j + 2) : Nat) : Int), .int .u8 ((nb bs (vof bs j + 3) / 16 : Nat) : Int), .int .u8 (((nb bs (vof bs j + 3) % 16) * 4 + 4 : Nat) : Int), .slice (some ⟨d, 0, none⟩) ((nb bs (vof bs j + 3) % 16) * 4 + 4 - 4) ((nb bs (vof bs j + 3) % 16) * 4 + 4 - 4)]) (fun j => (nb bs (vof bs j + 3) % 16) * 4 + 4 - 4) (fun j => sl bs (vof bs j + 4) (vof bs j + ((nb bs (vof bs j + 3) % 16) * 4 + 4))) N]) (by decide) rfl ca_96 (fun _ h => h) rfl rfl rfl rfl (fun w h => geneve_dd6 w A n c bs N b7 kb (by omega) (by omega) (by omega) (by omega) hd (by omega) h) (fun _ _ _ _ => rfl) (fun _ _ _ _ => rfl) (fun _ _ _ _ => rfl) (fun _ _ _ _ => rfl) fun AQ cQ be de hf1 he2 => ?_)
  have hnc3 : N ≤ cQ := by obtain ⟨w, h⟩ := he2; exact (h _ List.mem_cons_self).2.1
  refine sAs rfl rfl ?_
  refine send ?_
  refine eseq ?_
  refine HT.ret ?_
  exact fun a ha w' hw => fin_ ha (res1 ha Tryz.results79 rfl) ⟨b7, AQ, cQ, be, de, rfl, (hw.wk [(1, []), (0, [])] rfl), (fr1 (hf1 _ List.mem_cons_self) (fr1 (hf1 _ (List.mem_cons_of_mem _ List.mem_cons_self)) fr0))⟩

theorem geneve_z6 (w : World) (A : Option Addr) (n : Nat) (c : Nat) (bs : List UInt8) (N : Nat) (hn : n ≤ 400) (ha : 8 ≤ n) (hb : nb bs 0 ≤ 61) (hc : 4 * nb bs 0 ≤ n - 8) (hd : ∀ i, i < N → vof bs i < 8 + 4 * nb bs 0 ∧ vof bs (i + 1) ≤ 8 + 4 * nb bs 0 ∧ nb bs (vof bs i + 3) / 16 % 2 = 0) (he : vof bs N = 8 + 4 * nb bs 0) (hst : St w [] [] [Byt A n c bs] w) : Calls Tryz.prog 58 #[(.string ⟨#[103, 101, 110, 101, 118, 101]⟩), (.slice A n c)] w (CP5 w [] [Byt A n c bs] (fun b7 AQ cQ be de => (.tuple #[(.iface 114 (.pointer (some ⟨b7, 0, none⟩))), .nilIface])) (fun b7 AQ cQ be de => [⟨b7, 117, [some (.slice (cutA A c 0) ((vof bs N) - 0) (c - 0)), some (.slice (cutA A c (vof bs N)) (n - (vof bs N)) (c - (vof bs N))), some (.int .u8 (((nb bs 0) / 128 : Nat) : Int)), some (.int .u8 (((nb bs 0) * 4 : Nat) : Int)), some (.bool (decide (0 < (nb bs 1) &&& 128))), some (.bool (decide (0 < (nb bs 1) &&& 64))), some (.int .u16 ((bN bs 2 2 : Nat) : Int)), some (.int .u32 ((bN bs 4 3 : Nat) : Int)), some (.slice AQ N cQ)], true⟩]) (fun b7 AQ cQ be de => [Cel AQ N cQ 1 (rowX (ptrs be) N), GF be de (fun j d => [.int .u16 ((bN bs (vof bs j) 2 : Nat) : Int), .int .u8 ((nb bs (vof bs j + 2) : Nat) : Int), .int .u8 ((nb bs (vof bs j + 3) / 16 : Nat) : Int), .int .u8 (((nb bs (vof bs j + 3) % 16) * 4 + 4 : Nat) : Int), .slice (some ⟨d, 0, none⟩) ((nb bs (vof bs j + 3) % 16) * 4 + 4 - 4) ((nb bs (vof bs j + 3) % 16) * 4 + 4 - 4)]) (fun j => (nb bs (vof bs j + 3) % 16) * 4 + 4 - 4) (fun j => sl bs (vof bs j + 4) (vof bs j + ((nb bs (vof bs j + 3) % 16) * 4 + 4))) N])) := by
  have hnc00 : n ≤ c := (hst.fact (j := 0) rfl).2.1
  refine enter (vs := [(.string ⟨#[103, 101, 110, 101, 118, 101]⟩), (.slice A n c)]) Tryz.func58 rfl rfl rfl hst ?_
  refine HT.seq ?_
  refine HT.plain ?_
  refine sAs rfl rfl ?_
  refine sAs rfl rfl ?_
  refine send ?_
  refine eseq ?_
  refine HT.seq ?_
  refine HT.plain ?_
  refine sqS (q_build (vs := []) (v := (.agg #[.nilIface])) rfl (fun _ => by kernel_rfl)) rfl ?_
  refine sl_ (l_box (by decide) rfl fun b9 => ?_)
  refine sAs rfl rfl ?_
  refine send ?_
  refine eseq ?_
  refine HT.seq ?_
  refine HT.plain ?_
  refine sl_ (l_callX1 (vs := [(.string ⟨#[110, 111, 32, 107, 105, 110, 100]⟩)]) (Kc := []) (Bc := []) [] [] [Byt A n c bs] (fun b5 => [⟨b9, 201, [some .nilIface], true⟩, ⟨b5, 206, [some (.string (⟨#[110, 111, 32, 107, 105, 110, 100]⟩))], true⟩]) (fun b5 => [Byt A n c bs]) (by decide) rfl ca_67 (fun _ h => h) rfl rfl rfl rfl (fun w h => errNew w (⟨#[110, 111, 32, 107, 105, 110, 100]⟩)  h) (fun _ => rfl) (fun _ => rfl) (fun _ => rfl) (fun _ => rfl) fun b5 hf1 he2 => ?_)
  refine sAs rfl rfl ?_
  refine send ?_
  refine eseq ?_
  refine HT.seq ?_
  refine HT.seq ?_
  refine HT.plain ?_
  refine sMv rfl rfl ?_
  refine send ?_
  refine eseq ?_
  refine HT.block ?_
  refine HT.seq ?_
  refine HT.plain ?_
  refine sqS (q_eqs rfl rfl (r := false) (by kernel_rfl)) rfl ?_
  refine sAs rfl rfl ?_
  refine send ?_
  refine eseq ?_
  refine HT.no rfl ?_
  refine HT.seq ?_
  refine HT.plain ?_
  refine sqS (q_eqs rfl rfl (r := false) (by kernel_rfl)) rfl ?_
  refine sAs rfl rfl ?_
  refine send ?_
  refine eseq ?_
  refine HT.no rfl ?_
  refine HT.seq ?_
  refine HT.plain ?_
  refine sqS (q_eqs rfl rfl (r := false) (by kernel_rfl)) rfl ?_
  refine sAs rfl rfl ?_
  refine send ?_
  refine eseq ?_
  refine HT.no rfl ?_
  refine HT.seq ?_
  refine HT.plain ?_
  refine sqS (q_eqs rfl rfl (r := false) (by kernel_rfl)) rfl ?_
  refine sAs rfl rfl ?_
  refine send ?_
  refine eseq ?_
  refine HT.no rfl ?_
  refine HT.seq ?_
  refine HT.plain ?_
  refine sqS (q_eqs rfl rfl (r := false) (by kernel_rfl)) rfl ?_
  refine sAs rfl rfl ?_
  refine send ?_
  refine eseq ?_
  refine HT.no rfl ?_
  refine HT.seq ?_
  refine HT.plain ?_
  refine sqS (q_eqs rfl rfl (r := false) (by kernel_rfl)) rfl ?_
  refine sAs rfl rfl ?_
  refine send ?_
  refine eseq ?_
  refine HT.no rfl ?_
  refine HT.seq ?_
  refine HT.plain ?_
  refine sqS (q_eqs rfl rfl (r := false) (by kernel_rfl)) rfl ?_
  refine sAs rfl rfl ?_
  refine send ?_
  refine eseq ?_
  refine HT.no rfl ?_
  refine HT.seq ?_
  refine HT.plain ?_
  refine sqS (q_eqs rfl rfl (r := false) (by kernel_rfl)) rfl ?_
  refine sAs rfl rfl ?_
  refine send ?_
  refine eseq ?_
  refine HT.no rfl ?_
  refine HT.seq ?_
  refine HT.plain ?_
  refine sqS (q_eqs rfl rfl (r := false) (by kernel_rfl)) rfl ?_
  refine sAs rfl rfl ?_
  refine send ?_
  refine eseq ?_
  refine HT.no rfl ?_
  refine HT.seq ?_
  refine HT.plain ?_
  refine sqS (q_eqs rfl rfl (r := false) (by kernel_rfl)) rfl ?_
  refine sAs rfl rfl ?_
  refine send ?_
  refine eseq ?_
  refine HT.no rfl ?_
  refine HT.seq ?_
  refine HT.plain ?_
  refine sqS (q_eqs rfl rfl (r := false) (by kernel_rfl)) rfl ?_
  refine sAs rfl rfl ?_
  refine send ?_
  refine eseq ?_
  refine HT.no rfl ?_
  refine HT.seq ?_
  refine HT.plain ?_
  refine sqS (q_eqs rfl rfl (r := true) (by kernel_rfl)) rfl ?_
  refine sAs rfl rfl ?_
  refine send ?_
  refine eseq ?_
  refine HT.yes rfl ?_
  refine HT.plain ?_
  refine sMv rfl rfl ?_
  refine sMv rfl rfl ?_
  refine sqS (q_iface rfl Tryz.underlying199 (fun _ h => nomatch h)) rfl ?_
  refine sl_ (l_callX5 (vs := [(.slice A n c), (.iface 199 (.pointer (some ⟨b9, 0, none⟩)))]) (Kc := [⟨b9, 201, [some .nilIface], true⟩]) (Bc := [Byt A n c bs]) [0] [0] [Byt A n c bs] (fun b7 AQ cQ be de => [⟨b5, 206, [some (.string (⟨#[110, 111, 32, 107, 105, 110, 100]⟩))], true⟩, ⟨b9, 201, [some (.iface 114 (.pointer (some ⟨b7, 0, none⟩)))], true⟩, ⟨b7, 117, [some (.slice (cutA A c 0) ((vof bs N) - 0) (c - 0)), some (.slice (cutA A c (vof bs N)) (n - (vof bs N)) (c - (vof bs N))), some (.int .u8 (((nb bs 0) / 128 : Nat) : Int)), some (.int .u8 (((nb bs 0) * 4 : Nat) : Int)), some (.bool (decide (0 < (nb bs 1) &&& 128))), some (.bool (decide (0 < (nb bs 1) &&& 64))), some (.int .u16 ((bN bs 2 2 : Nat) : Int)), some (.int .u32 ((bN bs 4 3 : Nat) : Int)), some (.slice AQ N cQ)], true⟩]) (fun b7 AQ cQ be de => [Byt A n c bs, Cel AQ N cQ 1 (rowX (ptrs be) N), GF be de (fun j d => [.int .u16 ((bN bs (vof bs j) 2 : Nat) : Int), .int .u8 ((nb bs (vof bs j + 2) : Nat) : Int), .int .u8 ((nb bs (vof bs j + 3) / 16 : Nat) : Int), .int .u8 (((nb bs (vof bs j + 3) % 16) * 4 + 4 : Nat) : Int), .slice (some ⟨d, 0, none⟩) ((nb bs (vof bs j + 3) % 16) * 4 + 4 - 4) ((nb bs (vof bs j + 3) % 16) * 4 + 4 - 4)]) (fun j => (nb bs (vof bs j + 3) % 16) * 4 + 4 - 4) (fun j => sl bs (vof bs j + 4) (vof bs j + ((nb bs (vof bs j + 3) % 16) * 4 + 4))) N]) (by decide) rfl ca_79 (fun _ h => h) rfl rfl rfl rfl (fun w h => geneve_d6 w A n c bs N b9 (by omega) (by omega) (by omega) (by omega) hd (by omega) h) (fun _ _ _ _ _ => rfl) (fun _ _ _ _ _ => rfl) (fun _ _ _ _ _ => rfl) (fun _ _ _ _ _ => rfl) fun b7 AQ cQ be de hf3 he4 => ?_)
  have hnc5 : N ≤ cQ := by obtain ⟨w, h⟩ := he4; exact (h _ List.mem_cons_self).2.1
  refine sAs rfl rfl ?_
  refine send ?_
  refine ein ?_
  refine eseq ?_
  refine HT.seq ?_
  refine HT.seq ?_
  refine HT.plain ?_
  refine sMv rfl rfl ?_
  refine sqS (q_notNil rfl rfl Tryz.underlying59) rfl ?_
  refine send ?_
  refine eseq ?_
  refine HT.no rfl ?_
  refine HT.skip ?_
  refine eseq ?_
  refine HT.seq ?_
  refine HT.plain ?_
  refine sMv rfl rfl ?_
  refine sqS (q_nil rfl) rfl ?_
  refine sqS (q_field (b := b9) (off := 0) rfl fo_201_0) rfl ?_
  refine sqS (q_load (b := b9) (off := 0) (j := 1) rfl nagg_43 (fun _ h => h) rfl rfl rfl) rfl ?_
  refine sAs rfl rfl ?_
  refine sAs rfl rfl ?_
  refine send ?_
  refine eseq ?_
  refine HT.ret ?_
  exact fun a ha w' hw => fin_ ha (res2 ha Tryz.results58 rfl rfl) ⟨b7, AQ, cQ, be, de, rfl, (hw.wk [(2, [])] rfl), (fr1 (hf3 _ List.mem_cons_self) (fr1 (hf3 _ (List.mem_cons_of_mem _ List.mem_cons_self)) fr0))⟩

theorem geneve_e6 (w : World) (A : Option Addr) (n : Nat) (c : Nat) (bs : List UInt8) (N : Nat) (hn : n ≤ 400) (ha : 8 ≤ n) (hb : nb bs 0 ≤ 61) (hc : 4 * nb bs 0 ≤ n - 8) (hd : ∀ i, i < N → vof bs i < 8 + 4 * nb bs 0 ∧ vof bs (i + 1) ≤ 8 + 4 * nb bs 0 ∧ nb bs (vof bs i + 3) / 16 % 2 = 0) (he : vof bs N = 8 + 4 * nb bs 0) (hst : St w [] [] [Byt A n c bs] w) : Calls Tryz.prog 46 #[(.string ⟨#[103, 101, 110, 101, 118, 101]⟩), (.slice A n c)] w (CP7 w [] [Byt A n c bs] (fun b7 A5 c5 AQ cQ be de => (.tuple #[(.iface 114 (.pointer (some ⟨b7, 0, none⟩))), (.bool true)])) (fun b7 A5 c5 AQ cQ be de => [⟨b7, 117, [some (.slice (cutA A5 c5 0) ((vof bs N) - 0) (c5 - 0)), some (.slice (cutA A5 c5 (vof bs N)) (n - (vof bs N)) (c5 - (vof bs N))), some (.int .u8 (((nb bs 0) / 128 : Nat) : Int)), some (.int .u8 (((nb bs 0) * 4 : Nat) : Int)), some (.bool (decide (0 < (nb bs 1) &&& 128))), some (.bool (decide (0 < (nb bs 1) &&& 64))), some (.int .u16 ((bN bs 2 2 : Nat) : Int)), some (.int .u32 ((bN bs 4 3 : Nat) : Int)), some (.slice AQ N cQ)], true⟩]) (fun b7 A5 c5 AQ cQ be de => [Byt A5 n c5 bs, Cel AQ N cQ 1 (rowX (ptrs be) N), GF be de (fun j d => [.int .u16 ((bN bs (vof bs j) 2 : Nat) : Int), .int .u8 ((nb bs (vof bs j + 2) : Nat) : Int), .int .u8 ((nb bs (vof bs j + 3) / 16 : Nat) : Int), .int .u8 (((nb bs (vof bs j + 3) % 16) * 4 + 4 : Nat) : Int), .slice (some ⟨d, 0, none⟩) ((nb bs (vof bs j + 3) % 16) * 4 + 4 - 4) ((nb bs (vof bs j + 3) % 16) * 4 + 4 - 4)]) (fun j => (nb bs (vof bs j + 3) % 16) * 4 + 4 - 4) (fun j => sl bs (vof bs j + 4) (vof bs j + ((nb bs (vof bs j + 3) % 16) * 4 + 4))) N])) := by
  have hnc00 : n ≤ c := (hst.fact (j := 0) rfl).2.1
  refine enter (vs := [(.string ⟨#[103, 101, 110, 101, 118, 101]⟩), (.slice A n c)]) Tryz.func46 rfl rfl rfl hst ?_
  refine HT.seq ?_
  refine HT.plain ?_
  refine sAs rfl rfl ?_
  refine sAs rfl rfl ?_
  refine send ?_
  refine eseq ?_
  refine HT.seq ?_
  refine HT.seq ?_
  refine HT.plain ?_
  refine sMv rfl rfl ?_
  refine sqS (q_len (len := n) rfl Tryz.underlying22) rfl ?_
  refine sqS (q_F (q_gt (p := n) (q := 2000) rfl rfl) (by omega)) rfl ?_
  refine send ?_
  refine eseq ?_
  refine HT.no rfl ?_
  refine HT.skip ?_
  refine eseq ?_
  refine HT.seq ?_
  refine HT.plain ?_
  refine sMv rfl rfl ?_
  refine sAs rfl rfl ?_
  refine send ?_
  refine eseq ?_
  refine HT.seq ?_
  refine HT.seq ?_
  refine HT.plain ?_
  refine sMv rfl rfl ?_
  refine sqS (q_eqs rfl rfl (r := false) (by kernel_rfl)) rfl ?_
  refine sMv rfl rfl ?_
  refine sgqS rfl (q_move rfl) rfl ?_
  refine sgqS rfl (q_eqs rfl rfl (r := false) (by kernel_rfl)) rfl ?_
  refine sqS (q_pick rfl (fun h => nomatch h) (fun _ => rfl)) rfl ?_
  refine send ?_
  refine eseq ?_
  refine HT.no rfl ?_
  refine HT.seq ?_
  refine HT.plain ?_
  refine sMv rfl rfl ?_
  refine sqS (q_eqs rfl rfl (r := false) (by kernel_rfl)) rfl ?_
  refine send ?_
  refine eseq ?_
  refine HT.no rfl ?_
  refine HT.skip ?_
  refine eseq ?_
  refine HT.seq ?_
  refine HT.seq ?_
  refine HT.plain ?_
  refine sMv rfl rfl ?_
  refine sMv rfl rfl ?_
  refine sqS (q_call (vs := [(.string ⟨#[103, 101, 110, 101, 118, 101]⟩), (.slice A n c)]) (v := (.bool true)) rfl ca_57 (fun w h => geneve_c6 w A n c bs N (by omega) (by omega) (by omega) (by omega) hd (by omega) (St.enter (sp := []) (Kc := []) (bi := [0]) h rfl rfl rfl))) rfl ?_
  refine sqS (q_not rfl) rfl ?_
  refine send ?_
  refine eseq ?_
  refine HT.no rfl ?_
  refine HT.skip ?_
  refine eseq ?_
  refine HT.seq ?_
  refine HT.plain ?_
  refine sMv rfl rfl ?_
  refine sMv rfl rfl ?_
  refine sl_ (l_callX2 (vs := [(.slice A n c)]) (Kc := []) (Bc := [Byt A n c bs]) [] [0] [Byt A n c bs] (fun A5 c5 => []) (fun A5 c5 => [Byt A n c bs, Byt A5 n c5 bs]) (by decide) rfl ca_59 (fun _ h => h) rfl rfl rfl rfl (fun w h => Clone w A n c bs (by omega) h) (fun _ _ => rfl) (fun _ _ => rfl) (fun _ _ => rfl) (fun _ _ => rfl) fun A5 c5 hf1 he2 => ?_)
  have hnc3 : n ≤ c5 := by obtain ⟨w, h⟩ := he2; exact (h _ List.mem_cons_self).2.1
  refine sl_ (l_callX5 (vs := [(.string ⟨#[103, 101, 110, 101, 118, 101]⟩), (.slice A5 n c5)]) (Kc := []) (Bc := [Byt A5 n c5 bs]) [] [1] [Byt A n c bs, Byt A5 n c5 bs] (fun b7 AQ cQ be de => [⟨b7, 117, [some (.slice (cutA A5 c5 0) ((vof bs N) - 0) (c5 - 0)), some (.slice (cutA A5 c5 (vof bs N)) (n - (vof bs N)) (c5 - (vof bs N))), some (.int .u8 (((nb bs 0) / 128 : Nat) : Int)), some (.int .u8 (((nb bs 0) * 4 : Nat) : Int)), some (.bool (decide (0 < (nb bs 1) &&& 128))), some (.bool (decide (0 < (nb bs 1) &&& 64))), some (.int .u16 ((bN bs 2 2 : Nat) : Int)), some (.int .u32 ((bN bs 4 3 : Nat) : Int)), some (.slice AQ N cQ)], true⟩]) (fun b7 AQ cQ be de => [Byt A n c bs, Byt A5 n c5 bs, Cel AQ N cQ 1 (rowX (ptrs be) N), GF be de (fun j d => [.int .u16 ((bN bs (vof bs j) 2 : Nat) : Int), .int .u8 ((nb bs (vof bs j + 2) : Nat) : Int), .int .u8 ((nb bs (vof bs j + 3) / 16 : Nat) : Int), .int .u8 (((nb bs (vof bs j + 3) % 16) * 4 + 4 : Nat) : Int), .slice (some ⟨d, 0, none⟩) ((nb bs (vof bs j + 3) % 16) * 4 + 4 - 4) ((nb bs (vof bs j + 3) % 16) * 4 + 4 - 4)]) (fun j => (nb bs (vof bs j + 3) % 16) * 4 + 4 - 4) (fun j => sl bs (vof bs j + 4) (vof bs j + ((nb bs (vof bs j + 3) % 16) * 4 + 4))) N]) (by decide) rfl ca_58 (fun _ h => h) rfl rfl rfl rfl (fun w h => geneve_z6 w A5 n c5 bs N (by omega) (by omega) (by omega) (by omega) hd (by omega) h) (fun _ _ _ _ _ => rfl) (fun _ _ _ _ _ => rfl) (fun _ _ _ _ _ => rfl) (fun _ _ _ _ _ => rfl) fun b7 AQ cQ be de hf4 he5 => ?_)
  have hnc6 : N ≤ cQ := by obtain ⟨w, h⟩ := he5; exact (h _ List.mem_cons_self).2.1
  refine sMv rfl rfl ?_
  refine sqS (q_extract (vs := [(.iface 114 (.pointer (some ⟨b7, 0, none⟩))), .nilIface]) (i := 0) rfl rfl) rfl ?_
  refine sqS (q_extract (vs := [(.iface 114 (.pointer (some ⟨b7, 0, none⟩))), .nilIface]) (i := 1) rfl rfl) rfl ?_
  refine sAs rfl rfl ?_
  refine sAs rfl rfl ?_
  refine send ?_
  refine eseq ?_
  refine HT.seq ?_
  refine HT.seq ?_
  refine HT.plain ?_
  refine sMv rfl rfl ?_
  refine sqS (q_notNil rfl rfl Tryz.underlying59) rfl ?_
  refine sMv rfl rfl ?_
  refine sgqS rfl (q_move rfl) rfl ?_
  refine sgqS rfl (q_isNil' rfl rfl Tryz.underlying43) rfl ?_
  refine sqS (q_pick rfl (fun h => nomatch h) (fun _ => rfl)) rfl ?_
  refine send ?_
  refine eseq ?_
  refine HT.no rfl ?_
  refine HT.skip ?_
  refine eseq ?_
  refine HT.seq ?_
  refine HT.seq ?_
  refine HT.plain ?_
  refine sMv rfl rfl ?_
  refine sqS (q_isnt (T := 114) (z := (.pointer none)) rfl Tryz.underlying63 (fun _ h => nomatch h) (by decide) zero_63) rfl ?_
  refine sMv rfl rfl ?_
  refine sqS (q_extract (vs := [(.pointer none), (.bool false)]) (i := 0) rfl rfl) rfl ?_
  refine sqS (q_extract (vs := [(.pointer none), (.bool false)]) (i := 1) rfl rfl) rfl ?_
  refine sAs rfl rfl ?_
  refine sAs rfl rfl ?_
  refine send ?_
  refine eseq ?_
  refine HT.seq ?_
  refine HT.plain ?_
  refine sMv rfl rfl ?_
  refine sMv rfl rfl ?_
  refine sqS (q_eqs rfl rfl (r := false) (by kernel_rfl)) rfl ?_
  refine sqS (q_neb rfl rfl Tryz.underlying4) rfl ?_
  refine sMv rfl rfl ?_
  refine sskip rfl rfl ?_
  refine sskip rfl rfl ?_
  refine sqS (q_pick rfl (fun h => nomatch h) (fun _ => rfl)) rfl ?_
  refine send ?_
  refine eseq ?_
  refine HT.no rfl ?_
  refine HT.skip ?_
  refine eseq ?_
  refine HT.seq ?_
  refine HT.plain ?_
  refine sMv rfl rfl ?_
  refine sAs rfl rfl ?_
  refine sAs rfl rfl ?_
  refine send ?_
  refine eseq ?_
  refine HT.ret ?_
  exact fun a ha w' hw => fin_ ha (res2 ha Tryz.results46 rfl rfl) ⟨b7, A5, c5, AQ, cQ, be, de, rfl, hw, (fr1 (hf1 _ List.mem_cons_self) (fr1 (hf4 _ List.mem_cons_self) (fr1 (hf4 _ (List.mem_cons_of_mem _ List.mem_cons_self)) fr0)))⟩

abbrev geneve_t6_k0 (b7 : Nat) (A5 : Option Addr) (c5 : Nat) (bs : List UInt8) (N : Nat) (n : Nat) (AQ : Option Addr) (cQ : Nat) : Kb := ⟨b7, 117, [some (.slice (cutA A5 c5 0) ((vof bs N) - 0) (c5 - 0)), some (.slice (cutA A5 c5 (vof bs N)) (n - (vof bs N)) (c5 - (vof bs N))), some (.int .u8 (((nb bs 0) / 128 : Nat) : Int)), some (.int .u8 (((nb bs 0) * 4 : Nat) : Int)), some (.bool (decide (0 < (nb bs 1) &&& 128))), some (.bool (decide (0 < (nb bs 1) &&& 64))), some (.int .u16 ((bN bs 2 2 : Nat) : Int)), some (.int .u32 ((bN bs 4 3 : Nat) : Int)), some (.slice AQ N cQ)], false⟩
abbrev geneve_t6_k1 (b439 : Nat) (bs : List UInt8) : Kb := ⟨b439, 39, [some (.int .u64 (((nb bs 0) / 128 : Nat) : Int)), some (.int .u64 (((nb bs 0) * 4 : Nat) : Int)), some (.int .u64 ((bitN (decide (0 < (nb bs 1) &&& 128)) : Nat) : Int)), some (.int .u64 ((bitN (decide (0 < (nb bs 1) &&& 64)) : Nat) : Int)), some (.int .u64 ((bN bs 2 2 : Nat) : Int)), some (.int .u64 ((bN bs 4 3 : Nat) : Int))], true⟩
abbrev geneve_t6_k2 (b476 : Nat) (bs : List UInt8) (i : Nat) : Kb := ⟨b476, 39, [some (.int .u64 ((bN bs (vof bs i) 2 : Nat) : Int)), some (.int .u64 ((nb bs (vof bs i + 2) : Nat) : Int)), some (.int .u64 ((nb bs (vof bs i + 3) / 16 : Nat) : Int)), some (.int .u64 (((nb bs (vof bs i + 3) % 16) * 4 + 4 : Nat) : Int))], true⟩
abbrev geneve_t6_k3 (b4 : Nat) : Kb := ⟨b4, 29, [some (.slice none 0 0), some (.slice none 0 0), some (.slice none 0 0), some (.slice none 0 0)], true⟩
abbrev geneve_t6_k4 (b50 : Nat) (b439 : Nat) (v : Value) (A5_1 : Option Addr) (n : Nat) (bs : List UInt8) (N : Nat) (c5_1 : Nat) : Kb := ⟨b50, 29, [some (.slice (some ⟨b439, 0, none⟩) 6 6), some (.slice none 0 0), some v, some (.slice A5_1 (n - (vof bs N)) c5_1)], true⟩
abbrev geneve_t6_k5 (b483 : Nat) (b476 : Nat) (A5_2 : Option Addr) (bs : List UInt8) (i : Nat) (c5_2 : Nat) : Kb := ⟨b483, 49, [some (.slice (some ⟨b476, 0, none⟩) 4 4), some (.slice A5_2 ((nb bs (vof bs i + 3) % 16) * 4 + 4 - 4) c5_2)], true⟩
abbrev geneve_t6_k6 (b50 : Nat) (b439 : Nat) (v484 : Value) (A5_1 : Option Addr) (n : Nat) (bs : List UInt8) (N : Nat) (c5_1 : Nat) : Kb := ⟨b50, 29, [some (.slice (some ⟨b439, 0, none⟩) 6 6), some (.slice none 0 0), some v484, some (.slice A5_1 (n - (vof bs N)) c5_1)], true⟩

theorem geneve_t6 (w : World) (A5 : Option Addr) (n : Nat) (c5 : Nat) (bs : List UInt8) (N : Nat) (b7 : Nat) (AQ : Option Addr) (cQ : Nat) (be : Nat → Nat) (de : Nat → Nat) (hn : n ≤ 400) (ha : 8 ≤ n) (hb : nb bs 0 ≤ 61) (hc : 4 * nb bs 0 ≤ n - 8) (hd : ∀ i, i < N → vof bs i < 8 + 4 * nb bs 0 ∧ vof bs (i + 1) ≤ 8 + 4 * nb bs 0 ∧ nb bs (vof bs i + 3) / 16 % 2 = 0) (he : vof bs N = 8 + 4 * nb bs 0) (hst : St w [] [(geneve_t6_k0 b7 A5 c5 bs N n AQ cQ)] [Byt A5 n c5 bs, Cel AQ N cQ 1 (rowX (ptrs be) N), GF be de (fun j d => [.int .u16 ((bN bs (vof bs j) 2 : Nat) : Int), .int .u8 ((nb bs (vof bs j + 2) : Nat) : Int), .int .u8 ((nb bs (vof bs j + 3) / 16 : Nat) : Int), .int .u8 (((nb bs (vof bs j + 3) % 16) * 4 + 4 : Nat) : Int), .slice (some ⟨d, 0, none⟩) ((nb bs (vof bs j + 3) % 16) * 4 + 4 - 4) ((nb bs (vof bs j + 3) % 16) * 4 + 4 - 4)]) (fun j => (nb bs (vof bs j + 3) % 16) * 4 + 4 - 4) (fun j => sl bs (vof bs j + 4) (vof bs j + ((nb bs (vof bs j + 3) % 16) * 4 + 4))) N] w) : Calls Tryz.prog 47 #[(.iface 114 (.pointer (some ⟨b7, 0, none⟩))), (.slice (cutA A5 c5 (vof bs N)) (n - (vof bs N)) (c5 - (vof bs N)))] w (IP w (Byt A5 n c5 bs) (some (some ⟨[0, 4 * (nb bs 0), bitN (decide (((nb bs 1) &&& 128) ≠ 0)), bitN (decide (((nb bs 1) &&& 64) ≠ 0)), bN bs 2 2, bN bs 4 3], [], ((List.range N).map (fun j => ([bN bs (vof bs j) 2, nb bs (vof bs j + 2), nb bs (vof bs j + 3) / 16, 4 + 4 * (nb bs (vof bs j + 3) % 16)], sl bs (vof bs j + 4) (vof bs (j + 1))))), sl bs (8 + (4 * (nb bs 0))) n⟩))) := by
  have hnc00 : n ≤ c5 := (hst.fact (j := 0) rfl).2.1
  refine enter (vs := [(.iface 114 (.pointer (some ⟨b7, 0, none⟩))), (.slice (cutA A5 c5 (vof bs N)) (n - (vof bs N)) (c5 - (vof bs N)))]) Tryz.func47 rfl rfl rfl hst ?_
  refine HT.seq ?_
  refine HT.plain ?_
  refine sl_ (l_alloc (by decide) zero_29 fun b4 => ?_)
  refine sAs rfl rfl ?_
  refine send ?_
  refine eseq ?_
  refine HT.seq ?_
  refine HT.plain ?_
  refine sMv rfl rfl ?_
  refine sl_ (l_callX2 (vs := [(.slice (cutA A5 c5 (vof bs N)) (n - (vof bs N)) (c5 - (vof bs N)))]) (Kc := []) (Bc := [Byt (cutA A5 c5 (vof bs N)) (n - (vof bs N)) (c5 - (vof bs N)) (sl bs (vof bs N) n)]) [] [3] [Byt A5 n c5 bs, Cel AQ N cQ 1 (rowX (ptrs be) N), GF be de (fun j d => [.int .u16 ((bN bs (vof bs j) 2 : Nat) : Int), .int .u8 ((nb bs (vof bs j + 2) : Nat) : Int), .int .u8 ((nb bs (vof bs j + 3) / 16 : Nat) : Int), .int .u8 (((nb bs (vof bs j + 3) % 16) * 4 + 4 : Nat) : Int), .slice (some ⟨d, 0, none⟩) ((nb bs (vof bs j + 3) % 16) * 4 + 4 - 4) ((nb bs (vof bs j + 3) % 16) * 4 + 4 - 4)]) (fun j => (nb bs (vof bs j + 3) % 16) * 4 + 4 - 4) (fun j => sl bs (vof bs j + 4) (vof bs j + ((nb bs (vof bs j + 3) % 16) * 4 + 4))) N, Byt (cutA A5 c5 (vof bs N)) (n - (vof bs N)) (c5 - (vof bs N)) (sl bs (vof bs N) n)] (fun A5_1 c5_1 => [(geneve_t6_k0 b7 A5 c5 bs N n AQ cQ), (geneve_t6_k3 b4)]) (fun A5_1 c5_1 => [Byt A5 n c5 bs, Cel AQ N cQ 1 (rowX (ptrs be) N), GF be de (fun j d => [.int .u16 ((bN bs (vof bs j) 2 : Nat) : Int), .int .u8 ((nb bs (vof bs j + 2) : Nat) : Int), .int .u8 ((nb bs (vof bs j + 3) / 16 : Nat) : Int), .int .u8 (((nb bs (vof bs j + 3) % 16) * 4 + 4 : Nat) : Int), .slice (some ⟨d, 0, none⟩) ((nb bs (vof bs j + 3) % 16) * 4 + 4 - 4) ((nb bs (vof bs j + 3) % 16) * 4 + 4 - 4)]) (fun j => (nb bs (vof bs j + 3) % 16) * 4 + 4 - 4) (fun j => sl bs (vof bs j + 4) (vof bs j + ((nb bs (vof bs j + 3) % 16) * 4 + 4))) N, Byt A5_1 (n - (vof bs N)) c5_1 (sl bs (vof bs N) n)]) (by decide) rfl ca_60 (fun _ h => (h.cut (j := 0) (lo := vof bs N) (hi := n) rfl (by omega) (by omega))) rfl rfl rfl rfl (fun w h => clone w (cutA A5 c5 (vof bs N)) (n - (vof bs N)) (c5 - (vof bs N)) (sl bs (vof bs N) n) (by omega) h) (fun _ _ => rfl) (fun _ _ => rfl) (fun _ _ => rfl) (fun _ _ => rfl) fun A5_1 c5_1 hf1 he2 => ?_)
  have hnc3 : (n - (vof bs N)) ≤ c5_1 := by obtain ⟨w, h⟩ := he2; exact (h _ List.mem_cons_self).2.1
  refine sqS (q_build (vs := [(3, (.slice A5_1 (n - (vof bs N)) c5_1))]) (v := (.agg #[(.slice none 0 0), (.slice none 0 0), (.slice none 0 0), (.slice A5_1 (n - (vof bs N)) c5_1)])) rfl (fun _ => by kernel_rfl)) rfl ?_
  refine sl_ (l_box (by decide) rfl fun b50 => ?_)
  refine sAs rfl rfl ?_
  refine send ?_
  refine eseq ?_
  refine HT.seq ?_
  refine HT.seq ?_
  refine HT.plain ?_
  refine sMv rfl rfl ?_
  refine send ?_
  refine eseq ?_
  refine HT.block ?_
  refine HT.seq ?_
  refine HT.plain ?_
  refine sqS (q_isnt (T := 114) (z := (.pointer none)) rfl Tryz.underlying66 (fun _ h => nomatch h) (by decide) zero_66) rfl ?_
  refine sqS (q_extract (vs := [(.pointer none), (.bool false)]) (i := 1) rfl rfl) rfl ?_
  refine sqS (q_extract (vs := [(.pointer none), (.bool false)]) (i := 0) rfl rfl) rfl ?_
  refine send ?_
  refine eseq ?_
  refine HT.no rfl ?_
  refine HT.seq ?_
  refine HT.plain ?_
  refine sqS (q_isnt (T := 114) (z := (.pointer none)) rfl Tryz.underlying73 (fun _ h => nomatch h) (by decide) zero_73) rfl ?_
  refine sqS (q_extract (vs := [(.pointer none), (.bool false)]) (i := 1) rfl rfl) rfl ?_
  refine sqS (q_extract (vs := [(.pointer none), (.bool false)]) (i := 0) rfl rfl) rfl ?_
  refine send ?_
  refine eseq ?_
  refine HT.no rfl ?_
  refine HT.seq ?_
  refine HT.plain ?_
  refine sqS (q_isnt (T := 114) (z := (.pointer none)) rfl Tryz.underlying78 (fun _ h => nomatch h) (by decide) zero_78) rfl ?_
  refine sqS (q_extract (vs := [(.pointer none), (.bool false)]) (i := 1) rfl rfl) rfl ?_
  refine sqS (q_extract (vs := [(.pointer none), (.bool false)]) (i := 0) rfl rfl) rfl ?_
  refine send ?_
  refine eseq ?_
  refine HT.no rfl ?_
  refine HT.seq ?_
  refine HT.plain ?_
  refine sqS (q_isnt (T := 114) (z := (.pointer none)) rfl Tryz.underlying81 (fun _ h => nomatch h) (by decide) zero_81) rfl ?_
  refine sqS (q_extract (vs := [(.pointer none), (.bool false)]) (i := 1) rfl rfl) rfl ?_
  refine sqS (q_extract (vs := [(.pointer none), (.bool false)]) (i := 0) rfl rfl) rfl ?_
  refine send ?_
  refine eseq ?_
  refine HT.no rfl ?_
  refine HT.seq ?_
  refine HT.plain ?_
  refine sqS (q_isnt (T := 114) (z := (.pointer none)) rfl Tryz.underlying85 (fun _ h => nomatch h) (by decide) zero_85) rfl ?_
  refine sqS (q_extract (vs := [(.pointer none), (.bool false)]) (i := 1) rfl rfl) rfl ?_
  refine sqS (q_extract (vs := [(.pointer none), (.bool false)]) (i := 0) rfl rfl) rfl ?_
  refine send ?_
  refine eseq ?_
  refine HT.no rfl ?_
  refine HT.seq ?_
  refine HT.plain ?_
  refine sqS (q_isnt (T := 114) (z := (.pointer none)) rfl Tryz.underlying89 (fun _ h => nomatch h) (by decide) zero_89) rfl ?_
  refine sqS (q_extract (vs := [(.pointer none), (.bool false)]) (i := 1) rfl rfl) rfl ?_
  refine sqS (q_extract (vs := [(.pointer none), (.bool false)]) (i := 0) rfl rfl) rfl ?_
  refine send ?_
  refine eseq ?_
  refine HT.no rfl ?_
  refine HT.seq ?_
  refine HT.plain ?_
  refine sqS (q_isnt (T := 114) (z := (.pointer none)) rfl Tryz.underlying94 (fun _ h => nomatch h) (by decide) zero_94) rfl ?_
  refine sqS (q_extract (vs := [(.pointer none), (.bool false)]) (i := 1) rfl rfl) rfl ?_
  refine sqS (q_extract (vs := [(.pointer none), (.bool false)]) (i := 0) rfl rfl) rfl ?_
  refine send ?_
  refine eseq ?_
  refine HT.no rfl ?_
  refine HT.seq ?_
  refine HT.plain ?_
  refine sqS (q_isnt (T := 114) (z := (.pointer none)) rfl Tryz.underlying95 (fun _ h => nomatch h) (by decide) zero_95) rfl ?_
  refine sqS (q_extract (vs := [(.pointer none), (.bool false)]) (i := 1) rfl rfl) rfl ?_
  refine sqS (q_extract (vs := [(.pointer none), (.bool false)]) (i := 0) rfl rfl) rfl ?_
  refine send ?_
  refine eseq ?_
  refine HT.no rfl ?_
  refine HT.seq ?_
  refine HT.plain ?_
  refine sqS (q_isnt (T := 114) (z := (.pointer none)) rfl Tryz.underlying99 (fun _ h => nomatch h) (by decide) zero_99) rfl ?_
  refine sqS (q_extract (vs := [(.pointer none), (.bool false)]) (i := 1) rfl rfl) rfl ?_
  refine sqS (q_extract (vs := [(.pointer none), (.bool false)]) (i := 0) rfl rfl) rfl ?_
  refine send ?_
  refine eseq ?_
  refine HT.no rfl ?_
  refine HT.seq ?_
  refine HT.plain ?_
  refine sqS (q_isnt (T := 114) (z := (.pointer none)) rfl Tryz.underlying105 (fun _ h => nomatch h) (by decide) zero_105) rfl ?_
  refine sqS (q_extract (vs := [(.pointer none), (.bool false)]) (i := 1) rfl rfl) rfl ?_
  refine sqS (q_extract (vs := [(.pointer none), (.bool false)]) (i := 0) rfl rfl) rfl ?_
  refine send ?_
  refine eseq ?_
  refine HT.no rfl ?_
  refine HT.seq ?_
  refine HT.plain ?_
  refine sqS (q_isnt (T := 114) (z := (.pointer none)) rfl Tryz.underlying110 (fun _ h => nomatch h) (by decide) zero_110) rfl ?_
  refine sqS (q_extract (vs := [(.pointer none), (.bool false)]) (i := 1) rfl rfl) rfl ?_
  refine sqS (q_extract (vs := [(.pointer none), (.bool false)]) (i := 0) rfl rfl) rfl ?_
  refine send ?_
  refine eseq ?_
  refine HT.no rfl ?_
  refine HT.seq ?_
  refine HT.plain ?_
  refine sqS (q_is rfl Tryz.underlying114 (fun _ h => nomatch h)) rfl ?_
  refine sqS (q_extract (vs := [(.pointer (some ⟨b7, 0, none⟩)), (.bool true)]) (i := 1) rfl rfl) rfl ?_
  refine sqS (q_extract (vs := [(.pointer (some ⟨b7, 0, none⟩)), (.bool true)]) (i := 0) rfl rfl) rfl ?_
  refine send ?_
  refine eseq ?_
  refine HT.yes rfl ?_
  refine HT.seq ?_
  refine HT.plain ?_
  refine sAs rfl rfl ?_
  refine send ?_
  refine eseq ?_
  refine HT.seq ?_
  refine HT.drawn mixed (St.closed _ _ _ _) (St w [] [(geneve_t6_k0 b7 A5 c5 bs N n AQ cQ), (geneve_t6_k3 b4), ⟨b50, 29, [none, some (.slice none 0 0), some (.slice none 0 0), some (.slice A5_1 (n - (vof bs N)) c5_1)], true⟩] [Byt A5 n c5 bs, Cel AQ N cQ 1 (rowX (ptrs be) N), GF be de (fun j d => [.int .u16 ((bN bs (vof bs j) 2 : Nat) : Int), .int .u8 ((nb bs (vof bs j + 2) : Nat) : Int), .int .u8 ((nb bs (vof bs j + 3) / 16 : Nat) : Int), .int .u8 (((nb bs (vof bs j + 3) % 16) * 4 + 4 : Nat) : Int), .slice (some ⟨d, 0, none⟩) ((nb bs (vof bs j + 3) % 16) * 4 + 4 - 4) ((nb bs (vof bs j + 3) % 16) * 4 + 4 - 4)]) (fun j => (nb bs (vof bs j + 3) % 16) * 4 + 4 - 4) (fun j => sl bs (vof bs j + 4) (vof bs j + ((nb bs (vof bs j + 3) % 16) * 4 + 4))) N, Byt A5_1 (n - (vof bs N)) c5_1 (sl bs (vof bs N) n)]) ?_
  refine dtake (f := 4) [0, 1, 2, 3, 4, 5, 6, 7, 8, 9, 10, 11, 12, 13, 14, 15, 16, 17, 18, 19, 20, 21, 22, 23, 24, 25, 26, 27, 28, 29, 30] (by kernel_rfl) (St.closed _ _ _ _) (fun _ h => (h.wk [(0, []), (1, []), (2, [0])] rfl)) (by kernel_rfl) ?_
  refine dq rfl (q_move rfl) ?_
  refine dq rfl (q_move rfl) ?_
  refine dq rfl (q_nil rfl) ?_
  refine dq rfl (q_field (b := b7) (off := 0) rfl fo_117_1) ?_
  refine dq rfl (q_load (b := b7) (off := 2) (j := 0) rfl nagg_5 (fun _ h => h) rfl rfl rfl) ?_
  refine dq rfl (q_convn (p := (nb bs 0) / 128) rfl Tryz.underlying5 Tryz.underlying39 (show (nb bs 0) / 128 < 18446744073709551616 by have := nb_lt bs 0; omega)) ?_
  refine dq rfl (q_move rfl) ?_
  refine dq rfl (q_nil rfl) ?_
  refine dq rfl (q_field (b := b7) (off := 0) rfl fo_117_2) ?_
  refine dq rfl (q_load (b := b7) (off := 3) (j := 0) rfl nagg_5 (fun _ h => h) rfl rfl rfl) ?_
  refine dq rfl (q_convn (p := (nb bs 0) * 4) rfl Tryz.underlying5 Tryz.underlying39 (show (nb bs 0) * 4 < 18446744073709551616 by have := nb_lt bs 0; omega)) ?_
  refine dq rfl (q_move rfl) ?_
  refine dq rfl (q_nil rfl) ?_
  refine dq rfl (q_field (b := b7) (off := 0) rfl fo_117_3) ?_
  refine dq rfl (q_load (b := b7) (off := 4) (j := 0) rfl nagg_4 (fun _ h => h) rfl rfl rfl) ?_
  refine dq rfl (q_call (vs := [(.bool (decide (0 < (nb bs 1) &&& 128)))]) (v := (.int .u64 ((bitN (decide (0 < (nb bs 1) &&& 128)) : Nat) : Int))) rfl ca_61 (fun w h => bitC w (decide (0 < (nb bs 1) &&& 128))  (St.enter (sp := []) (Kc := []) (bi := []) h rfl rfl rfl))) ?_
  refine dq rfl (q_move rfl) ?_
  refine dq rfl (q_nil rfl) ?_
  refine dq rfl (q_field (b := b7) (off := 0) rfl fo_117_4) ?_
  refine dq rfl (q_load (b := b7) (off := 5) (j := 0) rfl nagg_4 (fun _ h => h) rfl rfl rfl) ?_
  refine dq rfl (q_call (vs := [(.bool (decide (0 < (nb bs 1) &&& 64)))]) (v := (.int .u64 ((bitN (decide (0 < (nb bs 1) &&& 64)) : Nat) : Int))) rfl ca_61 (fun w h => bitC w (decide (0 < (nb bs 1) &&& 64))  (St.enter (sp := []) (Kc := []) (bi := []) h rfl rfl rfl))) ?_
  refine dq rfl (q_move rfl) ?_
  refine dq rfl (q_nil rfl) ?_
  refine dq rfl (q_field (b := b7) (off := 0) rfl fo_117_5) ?_
  refine dq rfl (q_load (b := b7) (off := 6) (j := 0) rfl nagg_82 (fun _ h => h) rfl rfl rfl) ?_
  refine dq rfl (q_convn (p := bN bs 2 2) rfl Tryz.underlying82 Tryz.underlying39 (show bN bs 2 2 < 18446744073709551616 by have := bN_lt bs 2 2 65536 rfl; omega)) ?_
  refine dq rfl (q_move rfl) ?_
  refine dq rfl (q_nil rfl) ?_
  refine dq rfl (q_field (b := b7) (off := 0) rfl fo_117_6) ?_
  refine dq rfl (q_load (b := b7) (off := 7) (j := 0) rfl nagg_111 (fun _ h => h) rfl rfl rfl) ?_
  refine dq rfl (q_convn (p := bN bs 4 3) rfl Tryz.underlying111 Tryz.underlying39 (show bN bs 4 3 < 18446744073709551616 by have := bN_lt bs 4 3 16777216 rfl; omega)) ?_
  refine QL.nil ?_
  refine RG.step1 31 (by kernel_rfl) ?_
  refine dop rfl (l_buildSlice (e := 39) (vs := [(0, (.int .u64 (((nb bs 0) / 128 : Nat) : Int))), (1, (.int .u64 (((nb bs 0) * 4 : Nat) : Int))), (2, (.int .u64 ((bitN (decide (0 < (nb bs 1) &&& 128)) : Nat) : Int))), (3, (.int .u64 ((bitN (decide (0 < (nb bs 1) &&& 64)) : Nat) : Int))), (4, (.int .u64 ((bN bs 2 2 : Nat) : Int))), (5, (.int .u64 ((bN bs 4 3 : Nat) : Int)))]) (cs := [(.int .u64 (((nb bs 0) / 128 : Nat) : Int)), (.int .u64 (((nb bs 0) * 4 : Nat) : Int)), (.int .u64 ((bitN (decide (0 < (nb bs 1) &&& 128)) : Nat) : Int)), (.int .u64 ((bitN (decide (0 < (nb bs 1) &&& 64)) : Nat) : Int)), (.int .u64 ((bN bs 2 2 : Nat) : Int)), (.int .u64 ((bN bs 4 3 : Nat) : Int))]) (by decide) rfl (fun _ => by kernel_rfl) fun b439 => ⟨(fun _ h => (h.wk [(0, []), (1, []), (2, [0])] rfl)), ?_⟩)
  refine dtake (f := 1) [32, 33] (by kernel_rfl) (St.closed _ _ _ _) (fun _ h => (h.wk [(0, []), (1, []), (2, [0])] rfl)) (by kernel_rfl) ?_
  refine dq rfl (q_nil rfl) ?_
  refine dq rfl (q_field (b := b50) (off := 0) rfl fo_29_0) ?_
  refine QL.nil ?_
  refine RG.step1 34 (by kernel_rfl) ?_
  refine dop rfl (l_store (b := b50) (off := 0) (j := 2) rfl rfl nagg_25 rfl rfl rfl rfl (dlt rfl) ⟨(fun _ h => (h.wk [(0, []), (1, []), (2, [0])] rfl)), ?_⟩)
  refine dend (by kernel_rfl) ?_
  refine eseq ?_
  refine HT.seq ?_
  refine HT.plain ?_
  refine sMv rfl rfl ?_
  refine sqS (q_nil rfl) rfl ?_
  refine sqS (q_field (b := b7) (off := 0) rfl fo_117_7) rfl ?_
  refine sqS (q_load (b := b7) (off := 8) (j := 0) rfl nagg_115 (fun _ h => h) rfl rfl rfl) rfl ?_
  refine sqS (q_len (len := N) rfl Tryz.underlying115) rfl ?_
  refine sMv rfl rfl ?_
  refine send ?_
  refine eseq ?_
  refine HT.block ?_
  refine HT.loop (ι := {p : Nat × Value × List Kb × List (NI × BI) // TSt w.heap.size (fun j => ([bN bs (vof bs j) 2, nb bs (vof bs j + 2), nb bs (vof bs j + 3) / 16, 4 + 4 * (nb bs (vof bs j + 3) % 16)], sl bs (vof bs j + 4) (vof bs (j + 1)))) N p.1 p.2.1 p.2.2.1 p.2.2.2}) (fun p => [(4, (.pointer (some ⟨b4, 0, none⟩))), (5, (.bool false)), (6, (.pointer (some ⟨b50, 0, none⟩))), (445, (.slice AQ N cQ)), (446, (.int .i64 ((N : Nat) : Int))), (447, (.int .i64 ((p.1.1 : Nat) : Int)))]) (fun p => St w [] ([(geneve_t6_k0 b7 A5 c5 bs N n AQ cQ), (geneve_t6_k3 b4), ⟨b50, 29, [some (.slice (some ⟨b439, 0, none⟩) 6 6), some (.slice none 0 0), some p.1.2.1, some (.slice A5_1 (n - (vof bs N)) c5_1)], true⟩, (geneve_t6_k1 b439 bs)] ++ p.1.2.2.1) [Byt A5 n c5 bs, Cel AQ N cQ 1 (rowX (ptrs be) N), GF be de (fun j d => [.int .u16 ((bN bs (vof bs j) 2 : Nat) : Int), .int .u8 ((nb bs (vof bs j + 2) : Nat) : Int), .int .u8 ((nb bs (vof bs j + 3) / 16 : Nat) : Int), .int .u8 (((nb bs (vof bs j + 3) % 16) * 4 + 4 : Nat) : Int), .slice (some ⟨d, 0, none⟩) ((nb bs (vof bs j + 3) % 16) * 4 + 4 - 4) ((nb bs (vof bs j + 3) % 16) * 4 + 4 - 4)]) (fun j => (nb bs (vof bs j + 3) % 16) * 4 + 4 - 4) (fun j => sl bs (vof bs j + 4) (vof bs j + ((nb bs (vof bs j + 3) % 16) * 4 + 4))) N, Byt A5_1 (n - (vof bs N)) c5_1 (sl bs (vof bs N) n), psF p.1.2.2.2]) (fun p => N - p.1.1) ⟨(0, .slice none 0 0, [], []), TSt.nil⟩ ⟨rfl, rfl, rfl, rfl, rfl, rfl, trivial⟩ (fun _ h => psF_nil h) fun ⟨⟨i, v, Kr, ps⟩, hp⟩ => ?_
  replace hp : TSt w.heap.size (fun j => ([bN bs (vof bs j) 2, nb bs (vof bs j + 2), nb bs (vof bs j + 3) / 16, 4 + 4 * (nb bs (vof bs j + 3) % 16)], sl bs (vof bs j + 4) (vof bs (j + 1)))) N i v Kr ps := hp
  have hil : i ≤ N := hp.le
  have hr : RowS 49 2 i (psV ps) v Kr := hp.row
  have ho := vof_succ bs i
  have hge := vof_ge bs i
  have hmo := vof_mod bs i
  have hmo2 := vof_mod bs (i + 1)
  have hma := vof_many bs i
  have h256 := nb_lt bs (vof bs i + 3)
  have hal := vof_le (e := 8 + 4 * nb bs 0) (by omega) (fun j hj => (hd j hj).2.1) i (by omega)
  have hc := hd i
  have hz : i = N → vof bs i = 8 + 4 * nb bs 0 := fun e => by rw [e]; exact he
  show HT _ _ _ [(4, (.pointer (some ⟨b4, 0, none⟩))), (5, (.bool false)), (6, (.pointer (some ⟨b50, 0, none⟩))), (445, (.slice AQ N cQ)), (446, (.int .i64 ((N : Nat) : Int))), (447, (.int .i64 ((i : Nat) : Int)))] (St w [] ([(geneve_t6_k0 b7 A5 c5 bs N n AQ cQ), (geneve_t6_k3 b4), (geneve_t6_k4 b50 b439 v A5_1 n bs N c5_1), (geneve_t6_k1 b439 bs)] ++ Kr) [Byt A5 n c5 bs, Cel AQ N cQ 1 (rowX (ptrs be) N), GF be de (fun j d => [.int .u16 ((bN bs (vof bs j) 2 : Nat) : Int), .int .u8 ((nb bs (vof bs j + 2) : Nat) : Int), .int .u8 ((nb bs (vof bs j + 3) / 16 : Nat) : Int), .int .u8 (((nb bs (vof bs j + 3) % 16) * 4 + 4 : Nat) : Int), .slice (some ⟨d, 0, none⟩) ((nb bs (vof bs j + 3) % 16) * 4 + 4 - 4) ((nb bs (vof bs j + 3) % 16) * 4 + 4 - 4)]) (fun j => (nb bs (vof bs j + 3) % 16) * 4 + 4 - 4) (fun j => sl bs (vof bs j + 4) (vof bs j + ((nb bs (vof bs j + 3) % 16) * 4 + 4))) N, Byt A5_1 (n - (vof bs N)) c5_1 (sl bs (vof bs N) n), psF ps]) _
  by_cases hlt : i < N
  · refine HT.tell (m' := [(4, (.pointer (some ⟨b4, 0, none⟩))), (5, (.bool false)), (6, (.pointer (some ⟨b50, 0, none⟩))), (445, (.slice AQ N cQ)), (446, (.int .i64 ((N : Nat) : Int))), (447, (.int .i64 ((i : Nat) : Int)))]) (D' := St w [] ([(geneve_t6_k0 b7 A5 c5 bs N n AQ cQ), (geneve_t6_k3 b4), (geneve_t6_k4 b50 b439 v A5_1 n bs N c5_1), (geneve_t6_k1 b439 bs)] ++ Kr) [Byt A5 n c5 bs, Cel AQ N cQ 1 (rowX (ptrs be) N), GF be de (fun j d => [.int .u16 ((bN bs (vof bs j) 2 : Nat) : Int), .int .u8 ((nb bs (vof bs j + 2) : Nat) : Int), .int .u8 ((nb bs (vof bs j + 3) / 16 : Nat) : Int), .int .u8 (((nb bs (vof bs j + 3) % 16) * 4 + 4 : Nat) : Int), .slice (some ⟨d, 0, none⟩) ((nb bs (vof bs j + 3) % 16) * 4 + 4 - 4) ((nb bs (vof bs j + 3) % 16) * 4 + 4 - 4)]) (fun j => (nb bs (vof bs j + 3) % 16) * 4 + 4 - 4) (fun j => sl bs (vof bs j + 4) (vof bs j + ((nb bs (vof bs j + 3) % 16) * 4 + 4))) N, Byt A5_1 (n - (vof bs N)) c5_1 (sl bs (vof bs N) n), psF ps, Byt (some ⟨(de i), 0, none⟩) ((nb bs (vof bs i + 3) % 16) * 4 + 4 - 4) ((nb bs (vof bs i + 3) % 16) * 4 + 4 - 4) (sl bs (vof bs i + 4) (vof bs i + ((nb bs (vof bs i + 3) % 16) * 4 + 4)))]) ⟨rfl, rfl, rfl, rfl, rfl, rfl, trivial⟩ (fun _ h => h.gfByt (j := 2) rfl hlt) ?_
    refine HT.seq ?_
    refine HT.plain ?_
    refine sqS (q_T (q_lt (p := i) (q := N) rfl rfl) (by have := hil; omega)) rfl ?_
    refine send ?_
    refine eseq ?_
    refine HT.seq ?_
    refine HT.yes rfl ?_
    refine HT.skip ?_
    refine eseq ?_
    refine HT.seq ?_
    refine HT.block ?_
    refine HT.seq ?_
    refine HT.plain ?_
    refine sqS (q_indexC (i := i) (sz := 1) rfl rfl Tryz.underlying115 size_118 (fun _ h => h.fact (j := 1) rfl) (by decide) (by omega)) rfl ?_
    refine sqS (q_celLoad (i := i * 1) rfl nagg_118 (fun _ h => h.fact (j := 1) rfl) (rowX_get (fun j => .pointer (some ⟨be j, 0, none⟩)) _ _ (by omega))) rfl ?_
    refine sAs rfl rfl ?_
    refine send ?_
    refine eseq ?_
    refine HT.drawn mixed (St.closed _ _ _ _) (St w [] [(geneve_t6_k0 b7 A5 c5 bs N n AQ cQ), (geneve_t6_k3 b4), ⟨b50, 29, [some (.slice (some ⟨b439, 0, none⟩) 6 6), some (.slice none 0 0), none, some (.slice A5_1 (n - (vof bs N)) c5_1)], true⟩, (geneve_t6_k1 b439 bs)] [Byt A5 n c5 bs, Cel AQ N cQ 1 (rowX (ptrs be) N), GF be de (fun j d => [.int .u16 ((bN bs (vof bs j) 2 : Nat) : Int), .int .u8 ((nb bs (vof bs j + 2) : Nat) : Int), .int .u8 ((nb bs (vof bs j + 3) / 16 : Nat) : Int), .int .u8 (((nb bs (vof bs j + 3) % 16) * 4 + 4 : Nat) : Int), .slice (some ⟨d, 0, none⟩) ((nb bs (vof bs j + 3) % 16) * 4 + 4 - 4) ((nb bs (vof bs j + 3) % 16) * 4 + 4 - 4)]) (fun j => (nb bs (vof bs j + 3) % 16) * 4 + 4 - 4) (fun j => sl bs (vof bs j + 4) (vof bs j + ((nb bs (vof bs j + 3) % 16) * 4 + 4))) N, Byt A5_1 (n - (vof bs N)) c5_1 (sl bs (vof bs N) n), psF ps, Byt (some ⟨(de i), 0, none⟩) ((nb bs (vof bs i + 3) % 16) * 4 + 4 - 4) ((nb bs (vof bs i + 3) % 16) * 4 + 4 - 4) (sl bs (vof bs i + 4) (vof bs i + ((nb bs (vof bs i + 3) % 16) * 4 + 4)))]) ?_
    refine dtake (f := 9) [0, 1, 2, 3, 5, 6, 7, 8, 9, 10, 11, 12, 13, 14, 15, 16, 17, 18, 19, 20, 21, 22, 23, 24, 26, 27, 28, 29] (by kernel_rfl) (St.closed _ _ _ _) (fun _ h => (St.wk (St.untail (K := [(geneve_t6_k0 b7 A5 c5 bs N n AQ cQ), (geneve_t6_k3 b4), (geneve_t6_k4 b50 b439 v A5_1 n bs N c5_1), (geneve_t6_k1 b439 bs)]) (Kr := Kr) h) [(0, []), (1, []), (2, [2]), (3, [])] rfl)) (by kernel_rfl) ?_
    refine dq rfl (q_move rfl) ?_
    refine dq rfl (q_move rfl) ?_
    refine dq rfl (q_nil rfl) ?_
    refine dq rfl (q_field (b := b50) (off := 0) rfl fo_29_2) ?_
    refine dq rfl (q_move rfl) ?_
    refine dq rfl (q_nil rfl) ?_
    refine dq rfl (q_field (b := (be i)) (off := 0) rfl fo_120_0) ?_
    refine dq rfl (q_celLoad (A := some ⟨(be i), 0, none⟩) (i := 0) rfl nagg_70 (fun _ h => (GF.get (h.fact (j := 2) rfl) hlt).1) rfl) ?_
    refine dq rfl (q_convn (p := bN bs (vof bs i) 2) rfl Tryz.underlying70 Tryz.underlying39 (show bN bs (vof bs i) 2 < 18446744073709551616 by have := bN_lt bs (vof bs i) 2 65536 rfl; omega)) ?_
    refine dq rfl (q_move rfl) ?_
    refine dq rfl (q_nil rfl) ?_
    refine dq rfl (q_field (b := (be i)) (off := 0) rfl fo_120_1) ?_
    refine dq rfl (q_celLoad (A := some ⟨(be i), 0, none⟩) (i := 1) rfl nagg_5 (fun _ h => (GF.get (h.fact (j := 2) rfl) hlt).1) rfl) ?_
    refine dq rfl (q_convn (p := nb bs (vof bs i + 2)) rfl Tryz.underlying5 Tryz.underlying39 (show nb bs (vof bs i + 2) < 18446744073709551616 by have := nb_lt bs (vof bs i + 2); omega)) ?_
    refine dq rfl (q_move rfl) ?_
    refine dq rfl (q_nil rfl) ?_
    refine dq rfl (q_field (b := (be i)) (off := 0) rfl fo_120_2) ?_
    refine dq rfl (q_celLoad (A := some ⟨(be i), 0, none⟩) (i := 2) rfl nagg_5 (fun _ h => (GF.get (h.fact (j := 2) rfl) hlt).1) rfl) ?_
    refine dq rfl (q_convn (p := nb bs (vof bs i + 3) / 16) rfl Tryz.underlying5 Tryz.underlying39 (show nb bs (vof bs i + 3) / 16 < 18446744073709551616 by have := nb_lt bs (vof bs i + 3); omega)) ?_
    refine dq rfl (q_move rfl) ?_
    refine dq rfl (q_nil rfl) ?_
    refine dq rfl (q_field (b := (be i)) (off := 0) rfl fo_120_3) ?_
    refine dq rfl (q_celLoad (A := some ⟨(be i), 0, none⟩) (i := 3) rfl nagg_5 (fun _ h => (GF.get (h.fact (j := 2) rfl) hlt).1) rfl) ?_
    refine dq rfl (q_convn (p := (nb bs (vof bs i + 3) % 16) * 4 + 4) rfl Tryz.underlying5 Tryz.underlying39 (show (nb bs (vof bs i + 3) % 16) * 4 + 4 < 18446744073709551616 by have := nb_lt bs (vof bs i + 3); omega)) ?_
    refine dq rfl (q_move rfl) ?_
    refine dq rfl (q_nil rfl) ?_
    refine dq rfl (q_field (b := (be i)) (off := 0) rfl fo_120_4) ?_
    refine dq rfl (q_celLoad (A := some ⟨(be i), 0, none⟩) (i := 4) rfl nagg_22 (fun _ h => (GF.get (h.fact (j := 2) rfl) hlt).1) rfl) ?_
    refine QL.nil ?_
    refine RG.step3 4 25 30 (by kernel_rfl) ?_ ?_ ?_
    · refine dop rfl (l_q _ (by simp) (St.closed _ _ _ _) (q_load (b := b50) (off := 2) (j := 2) rfl nagg_27 (fun _ h => h) rfl rfl rfl) ⟨(fun _ h => (St.wk (St.untail (K := [(geneve_t6_k0 b7 A5 c5 bs N n AQ cQ), (geneve_t6_k3 b4), (geneve_t6_k4 b50 b439 v A5_1 n bs N c5_1), (geneve_t6_k1 b439 bs)]) (Kr := Kr) h) [(0, []), (1, []), (2, [2]), (3, [])] rfl)), ?_⟩)
      refine RG.step2 25 30 (by kernel_rfl) ?_ ?_
      · refine dop rfl (l_buildSliceT (K := [(geneve_t6_k0 b7 A5 c5 bs N n AQ cQ), (geneve_t6_k3 b4), (geneve_t6_k4 b50 b439 v A5_1 n bs N c5_1), (geneve_t6_k1 b439 bs)]) (Kr := Kr) (e := 39) (vs := [(0, (.int .u64 ((bN bs (vof bs i) 2 : Nat) : Int))), (1, (.int .u64 ((nb bs (vof bs i + 2) : Nat) : Int))), (2, (.int .u64 ((nb bs (vof bs i + 3) / 16 : Nat) : Int))), (3, (.int .u64 (((nb bs (vof bs i + 3) % 16) * 4 + 4 : Nat) : Int)))]) (cs := [(.int .u64 ((bN bs (vof bs i) 2 : Nat) : Int)), (.int .u64 ((nb bs (vof bs i + 2) : Nat) : Int)), (.int .u64 ((nb bs (vof bs i + 3) / 16 : Nat) : Int)), (.int .u64 (((nb bs (vof bs i + 3) % 16) * 4 + 4 : Nat) : Int))]) (by decide) rfl (fun _ => by kernel_rfl) fun b476 => ⟨(fun _ h => (St.wk (St.untail (K := [(geneve_t6_k0 b7 A5 c5 bs N n AQ cQ), (geneve_t6_k3 b4), (geneve_t6_k4 b50 b439 v A5_1 n bs N c5_1), (geneve_t6_k1 b439 bs), (geneve_t6_k2 b476 bs i)]) (Kr := Kr) h) [(0, []), (1, []), (2, [2]), (3, [])] rfl)), ?_⟩)
        refine RG.step1 30 (by kernel_rfl) ?_
        refine dop rfl (l_callT2 (K := [(geneve_t6_k0 b7 A5 c5 bs N n AQ cQ), (geneve_t6_k3 b4), (geneve_t6_k4 b50 b439 v A5_1 n bs N c5_1), (geneve_t6_k1 b439 bs), (geneve_t6_k2 b476 bs i)]) (Kr := Kr) (vs := [(.slice (some ⟨(de i), 0, none⟩) ((nb bs (vof bs i + 3) % 16) * 4 + 4 - 4) ((nb bs (vof bs i + 3) % 16) * 4 + 4 - 4))]) (Bc := [Byt (some ⟨(de i), 0, none⟩) ((nb bs (vof bs i + 3) % 16) * 4 + 4 - 4) ((nb bs (vof bs i + 3) % 16) * 4 + 4 - 4) (sl bs (vof bs i + 4) (vof bs i + ((nb bs (vof bs i + 3) % 16) * 4 + 4)))]) (Bx := [Byt A5 n c5 bs, Cel AQ N cQ 1 (rowX (ptrs be) N), GF be de (fun j d => [.int .u16 ((bN bs (vof bs j) 2 : Nat) : Int), .int .u8 ((nb bs (vof bs j + 2) : Nat) : Int), .int .u8 ((nb bs (vof bs j + 3) / 16 : Nat) : Int), .int .u8 (((nb bs (vof bs j + 3) % 16) * 4 + 4 : Nat) : Int), .slice (some ⟨d, 0, none⟩) ((nb bs (vof bs j + 3) % 16) * 4 + 4 - 4) ((nb bs (vof bs j + 3) % 16) * 4 + 4 - 4)]) (fun j => (nb bs (vof bs j + 3) % 16) * 4 + 4 - 4) (fun j => sl bs (vof bs j + 4) (vof bs j + ((nb bs (vof bs j + 3) % 16) * 4 + 4))) N, Byt A5_1 (n - (vof bs N)) c5_1 (sl bs (vof bs N) n), psF ps, Byt (some ⟨(de i), 0, none⟩) ((nb bs (vof bs i + 3) % 16) * 4 + 4 - 4) ((nb bs (vof bs i + 3) % 16) * 4 + 4 - 4) (sl bs (vof bs i + 4) (vof bs i + ((nb bs (vof bs i + 3) % 16) * 4 + 4)))]) [5] (fun A5_2 c5_2 => [Byt A5 n c5 bs, Cel AQ N cQ 1 (rowX (ptrs be) N), GF be de (fun j d => [.int .u16 ((bN bs (vof bs j) 2 : Nat) : Int), .int .u8 ((nb bs (vof bs j + 2) : Nat) : Int), .int .u8 ((nb bs (vof bs j + 3) / 16 : Nat) : Int), .int .u8 (((nb bs (vof bs j + 3) % 16) * 4 + 4 : Nat) : Int), .slice (some ⟨d, 0, none⟩) ((nb bs (vof bs j + 3) % 16) * 4 + 4 - 4) ((nb bs (vof bs j + 3) % 16) * 4 + 4 - 4)]) (fun j => (nb bs (vof bs j + 3) % 16) * 4 + 4 - 4) (fun j => sl bs (vof bs j + 4) (vof bs j + ((nb bs (vof bs j + 3) % 16) * 4 + 4))) N, Byt A5_1 (n - (vof bs N)) c5_1 (sl bs (vof bs N) n), psF ps, Byt (some ⟨(de i), 0, none⟩) ((nb bs (vof bs i + 3) % 16) * 4 + 4 - 4) ((nb bs (vof bs i + 3) % 16) * 4 + 4 - 4) (sl bs (vof bs i + 4) (vof bs i + ((nb bs (vof bs i + 3) % 16) * 4 + 4))), Byt A5_2 ((nb bs (vof bs i + 3) % 16) * 4 + 4 - 4) c5_2 (sl bs (vof bs i + 4) (vof bs i + ((nb bs (vof bs i + 3) % 16) * 4 + 4)))]) (by decide) rfl ca_60 (fun _ h => h) rfl (fun w h => clone w (some ⟨(de i), 0, none⟩) ((nb bs (vof bs i + 3) % 16) * 4 + 4 - 4) ((nb bs (vof bs i + 3) % 16) * 4 + 4 - 4) (sl bs (vof bs i + 4) (vof bs i + ((nb bs (vof bs i + 3) % 16) * 4 + 4))) (by have := nb_lt bs (vof bs i + 3); omega) h) (fun _ _ => rfl) fun A5_2 c5_2 hf4 he5 => ⟨(fun _ h => (St.selF (St.wk (St.untail (K := [(geneve_t6_k0 b7 A5 c5 bs N n AQ cQ), (geneve_t6_k3 b4), (geneve_t6_k4 b50 b439 v A5_1 n bs N c5_1), (geneve_t6_k1 b439 bs), (geneve_t6_k2 b476 bs i)]) (Kr := Kr) h) [(0, []), (1, []), (2, [2]), (3, [])] rfl) [0, 1, 2, 3, 4, 5] rfl)), ?_⟩)
        have hnc6 : ((nb bs (vof bs i + 3) % 16) * 4 + 4 - 4) ≤ c5_2 := by obtain ⟨w, h⟩ := he5; exact (h _ List.mem_cons_self).2.1
        refine dtake (f := 5) [31] (by kernel_rfl) (St.closed _ _ _ _) (fun _ h => (St.selF (St.wk (St.untail (K := [(geneve_t6_k0 b7 A5 c5 bs N n AQ cQ), (geneve_t6_k3 b4), (geneve_t6_k4 b50 b439 v A5_1 n bs N c5_1), (geneve_t6_k1 b439 bs), (geneve_t6_k2 b476 bs i)]) (Kr := Kr) h) [(0, []), (1, []), (2, [2]), (3, [])] rfl) [0, 1, 2, 3, 4, 5] rfl)) (by kernel_rfl) ?_
        refine dq rfl (q_build (vs := [(0, (.slice (some ⟨b476, 0, none⟩) 4 4)), (1, (.slice A5_2 ((nb bs (vof bs i + 3) % 16) * 4 + 4 - 4) c5_2))]) (v := (.agg #[(.slice (some ⟨b476, 0, none⟩) 4 4), (.slice A5_2 ((nb bs (vof bs i + 3) % 16) * 4 + 4 - 4) c5_2)])) rfl (fun _ => by kernel_rfl)) ?_
        refine QL.nil ?_
        refine RG.step1 32 (by kernel_rfl) ?_
        refine dop rfl (l_buildSliceT (K := [(geneve_t6_k0 b7 A5 c5 bs N n AQ cQ), (geneve_t6_k3 b4), (geneve_t6_k4 b50 b439 v A5_1 n bs N c5_1), (geneve_t6_k1 b439 bs), (geneve_t6_k2 b476 bs i)]) (Kr := Kr) (e := 49) (vs := [(0, (.agg #[(.slice (some ⟨b476, 0, none⟩) 4 4), (.slice A5_2 ((nb bs (vof bs i + 3) % 16) * 4 + 4 - 4) c5_2)]))]) (cs := [(.slice (some ⟨b476, 0, none⟩) 4 4), (.slice A5_2 ((nb bs (vof bs i + 3) % 16) * 4 + 4 - 4) c5_2)]) (by decide) rfl (fun _ => by kernel_rfl) fun b483 => ⟨(fun _ h => (St.selF (St.wk (St.untail (K := [(geneve_t6_k0 b7 A5 c5 bs N n AQ cQ), (geneve_t6_k3 b4), (geneve_t6_k4 b50 b439 v A5_1 n bs N c5_1), (geneve_t6_k1 b439 bs), (geneve_t6_k2 b476 bs i), (geneve_t6_k5 b483 b476 A5_2 bs i c5_2)]) (Kr := Kr) h) [(0, []), (1, []), (2, [2]), (3, [])] rfl) [0, 1, 2, 3, 4, 5] rfl)), ?_⟩)
        refine RG.step1 33 (by kernel_rfl) ?_
        refine dop rfl (l_appendR (K0 := [(geneve_t6_k0 b7 A5 c5 bs N n AQ cQ), (geneve_t6_k3 b4), (geneve_t6_k4 b50 b439 v A5_1 n bs N c5_1), (geneve_t6_k1 b439 bs), (geneve_t6_k2 b476 bs i), (geneve_t6_k5 b483 b476 A5_2 bs i c5_2)]) (Kr := Kr) (k := i) (xs := (psV ps)) (jq := 5) (news := [(.slice (some ⟨b476, 0, none⟩) 4 4), (.slice A5_2 ((nb bs (vof bs i + 3) % 16) * 4 + 4 - 4) c5_2)]) (by decide) rfl rfl Tryz.underlying27 rowT_49 (by decide) hr (by have := hil; omega) rfl rfl (by simp [Value.one1]) fun v484 Kr484 hr484 => ⟨(fun _ h => (St.selF (St.wk (St.untail (K := [(geneve_t6_k0 b7 A5 c5 bs N n AQ cQ), (geneve_t6_k3 b4), (geneve_t6_k4 b50 b439 v A5_1 n bs N c5_1), (geneve_t6_k1 b439 bs), (geneve_t6_k2 b476 bs i), (geneve_t6_k5 b483 b476 A5_2 bs i c5_2)]) (Kr := Kr484) h) [(0, []), (1, []), (2, [2]), (3, [])] rfl) [0, 1, 2, 3, 4, 5] rfl)), ?_⟩)
        refine dtake (f := 1) [34, 35] (by kernel_rfl) (St.closed _ _ _ _) (fun _ h => (St.selF (St.wk (St.untail (K := [(geneve_t6_k0 b7 A5 c5 bs N n AQ cQ), (geneve_t6_k3 b4), (geneve_t6_k4 b50 b439 v A5_1 n bs N c5_1), (geneve_t6_k1 b439 bs), (geneve_t6_k2 b476 bs i), (geneve_t6_k5 b483 b476 A5_2 bs i c5_2)]) (Kr := Kr484) h) [(0, []), (1, []), (2, [2]), (3, [])] rfl) [0, 1, 2, 3, 4, 5] rfl)) (by kernel_rfl) ?_
        refine dq rfl (q_nil rfl) ?_
        refine dq rfl (q_field (b := b50) (off := 0) rfl fo_29_2) ?_
        refine QL.nil ?_
        refine RG.step1 36 (by kernel_rfl) ?_
        refine dop rfl (l_store (b := b50) (off := 2) (j := 2) rfl rfl nagg_27 hr484.one rfl rfl rfl (dlt rfl) ⟨(fun _ h => (St.selF (St.wk (St.untail (K := [(geneve_t6_k0 b7 A5 c5 bs N n AQ cQ), (geneve_t6_k3 b4), (geneve_t6_k6 b50 b439 v484 A5_1 n bs N c5_1), (geneve_t6_k1 b439 bs), (geneve_t6_k2 b476 bs i), (geneve_t6_k5 b483 b476 A5_2 bs i c5_2)]) (Kr := Kr484) h) [(0, []), (1, []), (2, [2]), (3, [])] rfl) [0, 1, 2, 3, 4, 5] rfl)), ?_⟩)
        refine dend (by kernel_rfl) ?_
        refine ein ?_
        refine eseq ?_
        refine HT.norm ([(geneve_t6_k0 b7 A5 c5 bs N n AQ cQ), (geneve_t6_k3 b4), (geneve_t6_k6 b50 b439 v484 A5_1 n bs N c5_1), (geneve_t6_k1 b439 bs), (geneve_t6_k2 b476 bs i), (geneve_t6_k5 b483 b476 A5_2 bs i c5_2)] ++ Kr484) [Byt A5 n c5 bs, Cel AQ N cQ 1 (rowX (ptrs be) N), GF be de (fun j d => [.int .u16 ((bN bs (vof bs j) 2 : Nat) : Int), .int .u8 ((nb bs (vof bs j + 2) : Nat) : Int), .int .u8 ((nb bs (vof bs j + 3) / 16 : Nat) : Int), .int .u8 (((nb bs (vof bs j + 3) % 16) * 4 + 4 : Nat) : Int), .slice (some ⟨d, 0, none⟩) ((nb bs (vof bs j + 3) % 16) * 4 + 4 - 4) ((nb bs (vof bs j + 3) % 16) * 4 + 4 - 4)]) (fun j => (nb bs (vof bs j + 3) % 16) * 4 + 4 - 4) (fun j => sl bs (vof bs j + 4) (vof bs j + ((nb bs (vof bs j + 3) % 16) * 4 + 4))) N, Byt A5_1 (n - (vof bs N)) c5_1 (sl bs (vof bs N) n), psF ps, Byt (some ⟨(de i), 0, none⟩) ((nb bs (vof bs i + 3) % 16) * 4 + 4 - 4) ((nb bs (vof bs i + 3) % 16) * 4 + 4 - 4) (sl bs (vof bs i + 4) (vof bs i + ((nb bs (vof bs i + 3) % 16) * 4 + 4))), Byt A5_2 ((nb bs (vof bs i + 3) % 16) * 4 + 4 - 4) c5_2 (sl bs (vof bs i + 4) (vof bs i + ((nb bs (vof bs i + 3) % 16) * 4 + 4)))] rfl rfl ?_
        refine HT.plain ?_
        refine sqS (q_add (p := i) (q := 1) rfl rfl (show i + 1 < 9223372036854775808 by have := hil; omega)) rfl ?_
        refine sMv rfl rfl ?_
        refine send ?_
        exact fun a ha w' hw => by
          obtain ⟨hp2, hs2⟩ := TSt.step hp (X := [(geneve_t6_k0 b7 A5 c5 bs N n AQ cQ), (geneve_t6_k3 b4), (geneve_t6_k6 b50 b439 v484 A5_1 n bs N c5_1), (geneve_t6_k1 b439 bs)]) (Y := [(geneve_t6_k5 b483 b476 A5_2 bs i c5_2)]) (k := (geneve_t6_k2 b476 bs i)) (b := ⟨A5_2, ((nb bs (vof bs i + 3) % 16) * 4 + 4 - 4), c5_2, (sl bs (vof bs i + 4) (vof bs i + ((nb bs (vof bs i + 3) % 16) * 4 + 4)))⟩) (B := [Byt A5 n c5 bs, Cel AQ N cQ 1 (rowX (ptrs be) N), GF be de (fun j d => [.int .u16 ((bN bs (vof bs j) 2 : Nat) : Int), .int .u8 ((nb bs (vof bs j + 2) : Nat) : Int), .int .u8 ((nb bs (vof bs j + 3) / 16 : Nat) : Int), .int .u8 (((nb bs (vof bs j + 3) % 16) * 4 + 4 : Nat) : Int), .slice (some ⟨d, 0, none⟩) ((nb bs (vof bs j + 3) % 16) * 4 + 4 - 4) ((nb bs (vof bs j + 3) % 16) * 4 + 4 - 4)]) (fun j => (nb bs (vof bs j + 3) % 16) * 4 + 4 - 4) (fun j => sl bs (vof bs j + 4) (vof bs j + ((nb bs (vof bs j + 3) % 16) * 4 + 4))) N, Byt A5_1 (n - (vof bs N)) c5_1 (sl bs (vof bs N) n)]) (r := []) (cnt := 4) (cap := 4) (xs := [bN bs (vof bs i) 2, nb bs (vof bs i + 2), nb bs (vof bs i + 3) / 16, (nb bs (vof bs i + 3) % 16) * 4 + 4]) (hw.selF [0, 1, 2, 3, 4, 6] rfl) (by omega) rfl rfl (Nat.le_refl _) rfl hr484 (hf4 _ List.mem_cons_self) (show ([bN bs (vof bs i) 2, nb bs (vof bs i + 2), nb bs (vof bs i + 3) / 16, (nb bs (vof bs i + 3) % 16) * 4 + 4], (sl bs (vof bs i + 4) (vof bs i + ((nb bs (vof bs i + 3) % 16) * 4 + 4)))) = ([bN bs (vof bs i) 2, nb bs (vof bs i + 2), nb bs (vof bs i + 3) / 16, 4 + 4 * (nb bs (vof bs i + 3) % 16)], sl bs (vof bs i + 4) (vof bs (i + 1))) from pdt (lc rfl (lc rfl (lc rfl (lc (show (nb bs (vof bs i + 3) % 16) * 4 + 4 = 4 + 4 * (nb bs (vof bs i + 3) % 16) from by omega) rfl)))) (by omega) (by omega))
          exact eround2 ⟨(i + 1, _, _, _), hp2⟩ (show N - (i + 1) < N - i by omega) (ha.sub ⟨rfl, rfl, rfl, rfl, rfl, rfl, trivial⟩) hs2
      · refine dop rfl (l_callT2 (K := [(geneve_t6_k0 b7 A5 c5 bs N n AQ cQ), (geneve_t6_k3 b4), (geneve_t6_k4 b50 b439 v A5_1 n bs N c5_1), (geneve_t6_k1 b439 bs)]) (Kr := Kr) (vs := [(.slice (some ⟨(de i), 0, none⟩) ((nb bs (vof bs i + 3) % 16) * 4 + 4 - 4) ((nb bs (vof bs i + 3) % 16) * 4 + 4 - 4))]) (Bc := [Byt (some ⟨(de i), 0, none⟩) ((nb bs (vof bs i + 3) % 16) * 4 + 4 - 4) ((nb bs (vof bs i + 3) % 16) * 4 + 4 - 4) (sl bs (vof bs i + 4) (vof bs i + ((nb bs (vof bs i + 3) % 16) * 4 + 4)))]) (Bx := [Byt A5 n c5 bs, Cel AQ N cQ 1 (rowX (ptrs be) N), GF be de (fun j d => [.int .u16 ((bN bs (vof bs j) 2 : Nat) : Int), .int .u8 ((nb bs (vof bs j + 2) : Nat) : Int), .int .u8 ((nb bs (vof bs j + 3) / 16 : Nat) : Int), .int .u8 (((nb bs (vof bs j + 3) % 16) * 4 + 4 : Nat) : Int), .slice (some ⟨d, 0, none⟩) ((nb bs (vof bs j + 3) % 16) * 4 + 4 - 4) ((nb bs (vof bs j + 3) % 16) * 4 + 4 - 4)]) (fun j => (nb bs (vof bs j + 3) % 16) * 4 + 4 - 4) (fun j => sl bs (vof bs j + 4) (vof bs j + ((nb bs (vof bs j + 3) % 16) * 4 + 4))) N, Byt A5_1 (n - (vof bs N)) c5_1 (sl bs (vof bs N) n), psF ps, Byt (some ⟨(de i), 0, none⟩) ((nb bs (vof bs i + 3) % 16) * 4 + 4 - 4) ((nb bs (vof bs i + 3) % 16) * 4 + 4 - 4) (sl bs (vof bs i + 4) (vof bs i + ((nb bs (vof bs i + 3) % 16) * 4 + 4)))]) [5] (fun A5_2 c5_2 => [Byt A5 n c5 bs, Cel AQ N cQ 1 (rowX (ptrs be) N), GF be de (fun j d => [.int .u16 ((bN bs (vof bs j) 2 : Nat) : Int), .int .u8 ((nb bs (vof bs j + 2) : Nat) : Int), .int .u8 ((nb bs (vof bs j + 3) / 16 : Nat) : Int), .int .u8 (((nb bs (vof bs j + 3) % 16) * 4 + 4 : Nat) : Int), .slice (some ⟨d, 0, none⟩) ((nb bs (vof bs j + 3) % 16) * 4 + 4 - 4) ((nb bs (vof bs j + 3) % 16) * 4 + 4 - 4)]) (fun j => (nb bs (vof bs j + 3) % 16) * 4 + 4 - 4) (fun j => sl bs (vof bs j + 4) (vof bs j + ((nb bs (vof bs j + 3) % 16) * 4 + 4))) N, Byt A5_1 (n - (vof bs N)) c5_1 (sl bs (vof bs N) n), psF ps, Byt (some ⟨(de i), 0, none⟩) ((nb bs (vof bs i + 3) % 16) * 4 + 4 - 4) ((nb bs (vof bs i + 3) % 16) * 4 + 4 - 4) (sl bs (vof bs i + 4) (vof bs i + ((nb bs (vof bs i + 3) % 16) * 4 + 4))), Byt A5_2 ((nb bs (vof bs i + 3) % 16) * 4 + 4 - 4) c5_2 (sl bs (vof bs i + 4) (vof bs i + ((nb bs (vof bs i + 3) % 16) * 4 + 4)))]) (by decide) rfl ca_60 (fun _ h => h) rfl (fun w h => clone w (some ⟨(de i), 0, none⟩) ((nb bs (vof bs i + 3) % 16) * 4 + 4 - 4) ((nb bs (vof bs i + 3) % 16) * 4 + 4 - 4) (sl bs (vof bs i + 4) (vof bs i + ((nb bs (vof bs i + 3) % 16) * 4 + 4))) (by have := nb_lt bs (vof bs i + 3); omega) h) (fun _ _ => rfl) fun A5_2 c5_2 hf7 he8 => ⟨(fun _ h => (St.selF (St.wk (St.untail (K := [(geneve_t6_k0 b7 A5 c5 bs N n AQ cQ), (geneve_t6_k3 b4), (geneve_t6_k4 b50 b439 v A5_1 n bs N c5_1), (geneve_t6_k1 b439 bs)]) (Kr := Kr) h) [(0, []), (1, []), (2, [2]), (3, [])] rfl) [0, 1, 2, 3, 4, 5] rfl)), ?_⟩)
        have hnc9 : ((nb bs (vof bs i + 3) % 16) * 4 + 4 - 4) ≤ c5_2 := by obtain ⟨w, h⟩ := he8; exact (h _ List.mem_cons_self).2.1
        refine RG.step1 25 (by kernel_rfl) ?_
        refine dop rfl (l_buildSliceT (K := [(geneve_t6_k0 b7 A5 c5 bs N n AQ cQ), (geneve_t6_k3 b4), (geneve_t6_k4 b50 b439 v A5_1 n bs N c5_1), (geneve_t6_k1 b439 bs)]) (Kr := Kr) (e := 39) (vs := [(0, (.int .u64 ((bN bs (vof bs i) 2 : Nat) : Int))), (1, (.int .u64 ((nb bs (vof bs i + 2) : Nat) : Int))), (2, (.int .u64 ((nb bs (vof bs i + 3) / 16 : Nat) : Int))), (3, (.int .u64 (((nb bs (vof bs i + 3) % 16) * 4 + 4 : Nat) : Int)))]) (cs := [(.int .u64 ((bN bs (vof bs i) 2 : Nat) : Int)), (.int .u64 ((nb bs (vof bs i + 2) : Nat) : Int)), (.int .u64 ((nb bs (vof bs i + 3) / 16 : Nat) : Int)), (.int .u64 (((nb bs (vof bs i + 3) % 16) * 4 + 4 : Nat) : Int))]) (by decide) rfl (fun _ => by kernel_rfl) fun b476 => ⟨(fun _ h => (St.selF (St.wk (St.untail (K := [(geneve_t6_k0 b7 A5 c5 bs N n AQ cQ), (geneve_t6_k3 b4), (geneve_t6_k4 b50 b439 v A5_1 n bs N c5_1), (geneve_t6_k1 b439 bs), (geneve_t6_k2 b476 bs i)]) (Kr := Kr) h) [(0, []), (1, []), (2, [2]), (3, [])] rfl) [0, 1, 2, 3, 4, 5] rfl)), ?_⟩)
        refine dtake (f := 5) [31] (by kernel_rfl) (St.closed _ _ _ _) (fun _ h => (St.selF (St.wk (St.untail (K := [(geneve_t6_k0 b7 A5 c5 bs N n AQ cQ), (geneve_t6_k3 b4), (geneve_t6_k4 b50 b439 v A5_1 n bs N c5_1), (geneve_t6_k1 b439 bs), (geneve_t6_k2 b476 bs i)]) (Kr := Kr) h) [(0, []), (1, []), (2, [2]), (3, [])] rfl) [0, 1, 2, 3, 4, 5] rfl)) (by kernel_rfl) ?_
        refine dq rfl (q_build (vs := [(0, (.slice (some ⟨b476, 0, none⟩) 4 4)), (1, (.slice A5_2 ((nb bs (vof bs i + 3) % 16) * 4 + 4 - 4) c5_2))]) (v := (.agg #[(.slice (some ⟨b476, 0, none⟩) 4 4), (.slice A5_2 ((nb bs (vof bs i + 3) % 16) * 4 + 4 - 4) c5_2)])) rfl (fun _ => by kernel_rfl)) ?_
        refine QL.nil ?_
        refine RG.step1 32 (by kernel_rfl) ?_
        refine dop rfl (l_buildSliceT (K := [(geneve_t6_k0 b7 A5 c5 bs N n AQ cQ), (geneve_t6_k3 b4), (geneve_t6_k4 b50 b439 v A5_1 n bs N c5_1), (geneve_t6_k1 b439 bs), (geneve_t6_k2 b476 bs i)]) (Kr := Kr) (e := 49) (vs := [(0, (.agg #[(.slice (some ⟨b476, 0, none⟩) 4 4), (.slice A5_2 ((nb bs (vof bs i + 3) % 16) * 4 + 4 - 4) c5_2)]))]) (cs := [(.slice (some ⟨b476, 0, none⟩) 4 4), (.slice A5_2 ((nb bs (vof bs i + 3) % 16) * 4 + 4 - 4) c5_2)]) (by decide) rfl (fun _ => by kernel_rfl) fun b483 => ⟨(fun _ h => (St.selF (St.wk (St.untail (K := [(geneve_t6_k0 b7 A5 c5 bs N n AQ cQ), (geneve_t6_k3 b4), (geneve_t6_k4 b50 b439 v A5_1 n bs N c5_1), (geneve_t6_k1 b439 bs), (geneve_t6_k2 b476 bs i), (geneve_t6_k5 b483 b476 A5_2 bs i c5_2)]) (Kr := Kr) h) [(0, []), (1, []), (2, [2]), (3, [])] rfl) [0, 1, 2, 3, 4, 5] rfl)), ?_⟩)
        refine RG.step1 33 (by kernel_rfl) ?_
        refine dop rfl (l_appendR (K0 := [(geneve_t6_k0 b7 A5 c5 bs N n AQ cQ), (geneve_t6_k3 b4), (geneve_t6_k4 b50 b439 v A5_1 n bs N c5_1), (geneve_t6_k1 b439 bs), (geneve_t6_k2 b476 bs i), (geneve_t6_k5 b483 b476 A5_2 bs i c5_2)]) (Kr := Kr) (k := i) (xs := (psV ps)) (jq := 5) (news := [(.slice (some ⟨b476, 0, none⟩) 4 4), (.slice A5_2 ((nb bs (vof bs i + 3) % 16) * 4 + 4 - 4) c5_2)]) (by decide) rfl rfl Tryz.underlying27 rowT_49 (by decide) hr (by have := hil; omega) rfl rfl (by simp [Value.one1]) fun v484 Kr484 hr484 => ⟨(fun _ h => (St.selF (St.wk (St.untail (K := [(geneve_t6_k0 b7 A5 c5 bs N n AQ cQ), (geneve_t6_k3 b4), (geneve_t6_k4 b50 b439 v A5_1 n bs N c5_1), (geneve_t6_k1 b439 bs), (geneve_t6_k2 b476 bs i), (geneve_t6_k5 b483 b476 A5_2 bs i c5_2)]) (Kr := Kr484) h) [(0, []), (1, []), (2, [2]), (3, [])] rfl) [0, 1, 2, 3, 4, 5] rfl)), ?_⟩)
        refine dtake (f := 1) [34, 35] (by kernel_rfl) (St.closed _ _ _ _) (fun _ h => (St.selF (St.wk (St.untail (K := [(geneve_t6_k0 b7 A5 c5 bs N n AQ cQ), (geneve_t6_k3 b4), (geneve_t6_k4 b50 b439 v A5_1 n bs N c5_1), (geneve_t6_k1 b439 bs), (geneve_t6_k2 b476 bs i), (geneve_t6_k5 b483 b476 A5_2 bs i c5_2)]) (Kr := Kr484) h) [(0, []), (1, []), (2, [2]), (3, [])] rfl) [0, 1, 2, 3, 4, 5] rfl)) (by kernel_rfl) ?_
        refine dq rfl (q_nil rfl) ?_
        refine dq rfl (q_field (b := b50) (off := 0) rfl fo_29_2) ?_
        refine QL.nil ?_
        refine RG.step1 36 (by kernel_rfl) ?_
        refine dop rfl (l_store (b := b50) (off := 2) (j := 2) rfl rfl nagg_27 hr484.one rfl rfl rfl (dlt rfl) ⟨(fun _ h => (St.selF (St.wk (St.untail (K := [(geneve_t6_k0 b7 A5 c5 bs N n AQ cQ), (geneve_t6_k3 b4), (geneve_t6_k6 b50 b439 v484 A5_1 n bs N c5_1), (geneve_t6_k1 b439 bs), (geneve_t6_k2 b476 bs i), (geneve_t6_k5 b483 b476 A5_2 bs i c5_2)]) (Kr := Kr484) h) [(0, []), (1, []), (2, [2]), (3, [])] rfl) [0, 1, 2, 3, 4, 5] rfl)), ?_⟩)
        refine dend (by kernel_rfl) ?_
        refine ein ?_
        refine eseq ?_
        refine HT.norm ([(geneve_t6_k0 b7 A5 c5 bs N n AQ cQ), (geneve_t6_k3 b4), (geneve_t6_k6 b50 b439 v484 A5_1 n bs N c5_1), (geneve_t6_k1 b439 bs), (geneve_t6_k2 b476 bs i), (geneve_t6_k5 b483 b476 A5_2 bs i c5_2)] ++ Kr484) [Byt A5 n c5 bs, Cel AQ N cQ 1 (rowX (ptrs be) N), GF be de (fun j d => [.int .u16 ((bN bs (vof bs j) 2 : Nat) : Int), .int .u8 ((nb bs (vof bs j + 2) : Nat) : Int), .int .u8 ((nb bs (vof bs j + 3) / 16 : Nat) : Int), .int .u8 (((nb bs (vof bs j + 3) % 16) * 4 + 4 : Nat) : Int), .slice (some ⟨d, 0, none⟩) ((nb bs (vof bs j + 3) % 16) * 4 + 4 - 4) ((nb bs (vof bs j + 3) % 16) * 4 + 4 - 4)]) (fun j => (nb bs (vof bs j + 3) % 16) * 4 + 4 - 4) (fun j => sl bs (vof bs j + 4) (vof bs j + ((nb bs (vof bs j + 3) % 16) * 4 + 4))) N, Byt A5_1 (n - (vof bs N)) c5_1 (sl bs (vof bs N) n), psF ps, Byt (some ⟨(de i), 0, none⟩) ((nb bs (vof bs i + 3) % 16) * 4 + 4 - 4) ((nb bs (vof bs i + 3) % 16) * 4 + 4 - 4) (sl bs (vof bs i + 4) (vof bs i + ((nb bs (vof bs i + 3) % 16) * 4 + 4))), Byt A5_2 ((nb bs (vof bs i + 3) % 16) * 4 + 4 - 4) c5_2 (sl bs (vof bs i + 4) (vof bs i + ((nb bs (vof bs i + 3) % 16) * 4 + 4)))] rfl rfl ?_
        refine HT.plain ?_
        refine sqS (q_add (p := i) (q := 1) rfl rfl (show i + 1 < 9223372036854775808 by have := hil; omega)) rfl ?_
        refine sMv rfl rfl ?_
        refine send ?_
        exact fun a ha w' hw => by
          obtain ⟨hp2, hs2⟩ := TSt.step hp (X := [(geneve_t6_k0 b7 A5 c5 bs N n AQ cQ), (geneve_t6_k3 b4), (geneve_t6_k6 b50 b439 v484 A5_1 n bs N c5_1), (geneve_t6_k1 b439 bs)]) (Y := [(geneve_t6_k5 b483 b476 A5_2 bs i c5_2)]) (k := (geneve_t6_k2 b476 bs i)) (b := ⟨A5_2, ((nb bs (vof bs i + 3) % 16) * 4 + 4 - 4), c5_2, (sl bs (vof bs i + 4) (vof bs i + ((nb bs (vof bs i + 3) % 16) * 4 + 4)))⟩) (B := [Byt A5 n c5 bs, Cel AQ N cQ 1 (rowX (ptrs be) N), GF be de (fun j d => [.int .u16 ((bN bs (vof bs j) 2 : Nat) : Int), .int .u8 ((nb bs (vof bs j + 2) : Nat) : Int), .int .u8 ((nb bs (vof bs j + 3) / 16 : Nat) : Int), .int .u8 (((nb bs (vof bs j + 3) % 16) * 4 + 4 : Nat) : Int), .slice (some ⟨d, 0, none⟩) ((nb bs (vof bs j + 3) % 16) * 4 + 4 - 4) ((nb bs (vof bs j + 3) % 16) * 4 + 4 - 4)]) (fun j => (nb bs (vof bs j + 3) % 16) * 4 + 4 - 4) (fun j => sl bs (vof bs j + 4) (vof bs j + ((nb bs (vof bs j + 3) % 16) * 4 + 4))) N, Byt A5_1 (n - (vof bs N)) c5_1 (sl bs (vof bs N) n)]) (r := []) (cnt := 4) (cap := 4) (xs := [bN bs (vof bs i) 2, nb bs (vof bs i + 2), nb bs (vof bs i + 3) / 16, (nb bs (vof bs i + 3) % 16) * 4 + 4]) (hw.selF [0, 1, 2, 3, 4, 6] rfl) (by omega) rfl rfl (Nat.le_refl _) rfl hr484 (hf7 _ List.mem_cons_self) (show ([bN bs (vof bs i) 2, nb bs (vof bs i + 2), nb bs (vof bs i + 3) / 16, (nb bs (vof bs i + 3) % 16) * 4 + 4], (sl bs (vof bs i + 4) (vof bs i + ((nb bs (vof bs i + 3) % 16) * 4 + 4)))) = ([bN bs (vof bs i) 2, nb bs (vof bs i + 2), nb bs (vof bs i + 3) / 16, 4 + 4 * (nb bs (vof bs i + 3) % 16)], sl bs (vof bs i + 4) (vof bs (i + 1))) from pdt (lc rfl (lc rfl (lc rfl (lc (show (nb bs (vof bs i + 3) % 16) * 4 + 4 = 4 + 4 * (nb bs (vof bs i + 3) % 16) from by omega) rfl)))) (by omega) (by omega))
          exact eround2 ⟨(i + 1, _, _, _), hp2⟩ (show N - (i + 1) < N - i by omega) (ha.sub ⟨rfl, rfl, rfl, rfl, rfl, rfl, trivial⟩) hs2
    · refine dop rfl (l_buildSliceT (K := [(geneve_t6_k0 b7 A5 c5 bs N n AQ cQ), (geneve_t6_k3 b4), (geneve_t6_k4 b50 b439 v A5_1 n bs N c5_1), (geneve_t6_k1 b439 bs)]) (Kr := Kr) (e := 39) (vs := [(0, (.int .u64 ((bN bs (vof bs i) 2 : Nat) : Int))), (1, (.int .u64 ((nb bs (vof bs i + 2) : Nat) : Int))), (2, (.int .u64 ((nb bs (vof bs i + 3) / 16 : Nat) : Int))), (3, (.int .u64 (((nb bs (vof bs i + 3) % 16) * 4 + 4 : Nat) : Int)))]) (cs := [(.int .u64 ((bN bs (vof bs i) 2 : Nat) : Int)), (.int .u64 ((nb bs (vof bs i + 2) : Nat) : Int)), (.int .u64 ((nb bs (vof bs i + 3) / 16 : Nat) : Int)), (.int .u64 (((nb bs (vof bs i + 3) % 16) * 4 + 4 : Nat) : Int))]) (by decide) rfl (fun _ => by kernel_rfl) fun b476 => ⟨(fun _ h => (St.wk (St.untail (K := [(geneve_t6_k0 b7 A5 c5 bs N n AQ cQ), (geneve_t6_k3 b4), (geneve_t6_k4 b50 b439 v A5_1 n bs N c5_1), (geneve_t6_k1 b439 bs), (geneve_t6_k2 b476 bs i)]) (Kr := Kr) h) [(0, []), (1, []), (2, [2]), (3, [])] rfl)), ?_⟩)
      refine RG.step2 4 30 (by kernel_rfl) ?_ ?_
      · refine dop rfl (l_q _ (by simp) (St.closed _ _ _ _) (q_load (b := b50) (off := 2) (j := 2) rfl nagg_27 (fun _ h => h) rfl rfl rfl) ⟨(fun _ h => (St.wk (St.untail (K := [(geneve_t6_k0 b7 A5 c5 bs N n AQ cQ), (geneve_t6_k3 b4), (geneve_t6_k4 b50 b439 v A5_1 n bs N c5_1), (geneve_t6_k1 b439 bs), (geneve_t6_k2 b476 bs i)]) (Kr := Kr) h) [(0, []), (1, []), (2, [2]), (3, [])] rfl)), ?_⟩)
        refine RG.step1 30 (by kernel_rfl) ?_
        refine dop rfl (l_callT2 (K := [(geneve_t6_k0 b7 A5 c5 bs N n AQ cQ), (geneve_t6_k3 b4), (geneve_t6_k4 b50 b439 v A5_1 n bs N c5_1), (geneve_t6_k1 b439 bs), (geneve_t6_k2 b476 bs i)]) (Kr := Kr) (vs := [(.slice (some ⟨(de i), 0, none⟩) ((nb bs (vof bs i + 3) % 16) * 4 + 4 - 4) ((nb bs (vof bs i + 3) % 16) * 4 + 4 - 4))]) (Bc := [Byt (some ⟨(de i), 0, none⟩) ((nb bs (vof bs i + 3) % 16) * 4 + 4 - 4) ((nb bs (vof bs i + 3) % 16) * 4 + 4 - 4) (sl bs (vof bs i + 4) (vof bs i + ((nb bs (vof bs i + 3) % 16) * 4 + 4)))]) (Bx := [Byt A5 n c5 bs, Cel AQ N cQ 1 (rowX (ptrs be) N), GF be de (fun j d => [.int .u16 ((bN bs (vof bs j) 2 : Nat) : Int), .int .u8 ((nb bs (vof bs j + 2) : Nat) : Int), .int .u8 ((nb bs (vof bs j + 3) / 16 : Nat) : Int), .int .u8 (((nb bs (vof bs j + 3) % 16) * 4 + 4 : Nat) : Int), .slice (some ⟨d, 0, none⟩) ((nb bs (vof bs j + 3) % 16) * 4 + 4 - 4) ((nb bs (vof bs j + 3) % 16) * 4 + 4 - 4)]) (fun j => (nb bs (vof bs j + 3) % 16) * 4 + 4 - 4) (fun j => sl bs (vof bs j + 4) (vof bs j + ((nb bs (vof bs j + 3) % 16) * 4 + 4))) N, Byt A5_1 (n - (vof bs N)) c5_1 (sl bs (vof bs N) n), psF ps, Byt (some ⟨(de i), 0, none⟩) ((nb bs (vof bs i + 3) % 16) * 4 + 4 - 4) ((nb bs (vof bs i + 3) % 16) * 4 + 4 - 4) (sl bs (vof bs i + 4) (vof bs i + ((nb bs (vof bs i + 3) % 16) * 4 + 4)))]) [5] (fun A5_2 c5_2 => [Byt A5 n c5 bs, Cel AQ N cQ 1 (rowX (ptrs be) N), GF be de (fun j d => [.int .u16 ((bN bs (vof bs j) 2 : Nat) : Int), .int .u8 ((nb bs (vof bs j + 2) : Nat) : Int), .int .u8 ((nb bs (vof bs j + 3) / 16 : Nat) : Int), .int .u8 (((nb bs (vof bs j + 3) % 16) * 4 + 4 : Nat) : Int), .slice (some ⟨d, 0, none⟩) ((nb bs (vof bs j + 3) % 16) * 4 + 4 - 4) ((nb bs (vof bs j + 3) % 16) * 4 + 4 - 4)]) (fun j => (nb bs (vof bs j + 3) % 16) * 4 + 4 - 4) (fun j => sl bs (vof bs j + 4) (vof bs j + ((nb bs (vof bs j + 3) % 16) * 4 + 4))) N, Byt A5_1 (n - (vof bs N)) c5_1 (sl bs (vof bs N) n), psF ps, Byt (some ⟨(de i), 0, none⟩) ((nb bs (vof bs i + 3) % 16) * 4 + 4 - 4) ((nb bs (vof bs i + 3) % 16) * 4 + 4 - 4) (sl bs (vof bs i + 4) (vof bs i + ((nb bs (vof bs i + 3) % 16) * 4 + 4))), Byt A5_2 ((nb bs (vof bs i + 3) % 16) * 4 + 4 - 4) c5_2 (sl bs (vof bs i + 4) (vof bs i + ((nb bs (vof bs i + 3) % 16) * 4 + 4)))]) (by decide) rfl ca_60 (fun _ h => h) rfl (fun w h => clone w (some ⟨(de i), 0, none⟩) ((nb bs (vof bs i + 3) % 16) * 4 + 4 - 4) ((nb bs (vof bs i + 3) % 16) * 4 + 4 - 4) (sl bs (vof bs i + 4) (vof bs i + ((nb bs (vof bs i + 3) % 16) * 4 + 4))) (by have := nb_lt bs (vof bs i + 3); omega) h) (fun _ _ => rfl) fun A5_2 c5_2 hf10 he11 => ⟨(fun _ h => (St.selF (St.wk (St.untail (K := [(geneve_t6_k0 b7 A5 c5 bs N n AQ cQ), (geneve_t6_k3 b4), (geneve_t6_k4 b50 b439 v A5_1 n bs N c5_1), (geneve_t6_k1 b439 bs), (geneve_t6_k2 b476 bs i)]) (Kr := Kr) h) [(0, []), (1, []), (2, [2]), (3, [])] rfl) [0, 1, 2, 3, 4, 5] rfl)), ?_⟩)
        have hnc12 : ((nb bs (vof bs i + 3) % 16) * 4 + 4 - 4) ≤ c5_2 := by obtain ⟨w, h⟩ := he11; exact (h _ List.mem_cons_self).2.1
        refine dtake (f := 5) [31] (by kernel_rfl) (St.closed _ _ _ _) (fun _ h => (St.selF (St.wk (St.untail (K := [(geneve_t6_k0 b7 A5 c5 bs N n AQ cQ), (geneve_t6_k3 b4), (geneve_t6_k4 b50 b439 v A5_1 n bs N c5_1), (geneve_t6_k1 b439 bs), (geneve_t6_k2 b476 bs i)]) (Kr := Kr) h) [(0, []), (1, []), (2, [2]), (3, [])] rfl) [0, 1, 2, 3, 4, 5] rfl)) (by kernel_rfl) ?_
        refine dq rfl (q_build (vs := [(0, (.slice (some ⟨b476, 0, none⟩) 4 4)), (1, (.slice A5_2 ((nb bs (vof bs i + 3) % 16) * 4 + 4 - 4) c5_2))]) (v := (.agg #[(.slice (some ⟨b476, 0, none⟩) 4 4), (.slice A5_2 ((nb bs (vof bs i + 3) % 16) * 4 + 4 - 4) c5_2)])) rfl (fun _ => by kernel_rfl)) ?_
        refine QL.nil ?_
        refine RG.step1 32 (by kernel_rfl) ?_
        refine dop rfl (l_buildSliceT (K := [(geneve_t6_k0 b7 A5 c5 bs N n AQ cQ), (geneve_t6_k3 b4), (geneve_t6_k4 b50 b439 v A5_1 n bs N c5_1), (geneve_t6_k1 b439 bs), (geneve_t6_k2 b476 bs i)]) (Kr := Kr) (e := 49) (vs := [(0, (.agg #[(.slice (some ⟨b476, 0, none⟩) 4 4), (.slice A5_2 ((nb bs (vof bs i + 3) % 16) * 4 + 4 - 4) c5_2)]))]) (cs := [(.slice (some ⟨b476, 0, none⟩) 4 4), (.slice A5_2 ((nb bs (vof bs i + 3) % 16) * 4 + 4 - 4) c5_2)]) (by decide) rfl (fun _ => by kernel_rfl) fun b483 => ⟨(fun _ h => (St.selF (St.wk (St.untail (K := [(geneve_t6_k0 b7 A5 c5 bs N n AQ cQ), (geneve_t6_k3 b4), (geneve_t6_k4 b50 b439 v A5_1 n bs N c5_1), (geneve_t6_k1 b439 bs), (geneve_t6_k2 b476 bs i), (geneve_t6_k5 b483 b476 A5_2 bs i c5_2)]) (Kr := Kr) h) [(0, []), (1, []), (2, [2]), (3, [])] rfl) [0, 1, 2, 3, 4, 5] rfl)), ?_⟩)
        refine RG.step1 33 (by kernel_rfl) ?_
        refine dop rfl (l_appendR (K0 := [(geneve_t6_k0 b7 A5 c5 bs N n AQ cQ), (geneve_t6_k3 b4), (geneve_t6_k4 b50 b439 v A5_1 n bs N c5_1), (geneve_t6_k1 b439 bs), (geneve_t6_k2 b476 bs i), (geneve_t6_k5 b483 b476 A5_2 bs i c5_2)]) (Kr := Kr) (k := i) (xs := (psV ps)) (jq := 5) (news := [(.slice (some ⟨b476, 0, none⟩) 4 4), (.slice A5_2 ((nb bs (vof bs i + 3) % 16) * 4 + 4 - 4) c5_2)]) (by decide) rfl rfl Tryz.underlying27 rowT_49 (by decide) hr (by have := hil; omega) rfl rfl (by simp [Value.one1]) fun v484 Kr484 hr484 => ⟨(fun _ h => (St.selF (St.wk (St.untail (K := [(geneve_t6_k0 b7 A5 c5 bs N n AQ cQ), (geneve_t6_k3 b4), (geneve_t6_k4 b50 b439 v A5_1 n bs N c5_1), (geneve_t6_k1 b439 bs), (geneve_t6_k2 b476 bs i), (geneve_t6_k5 b483 b476 A5_2 bs i c5_2)]) (Kr := Kr484) h) [(0, []), (1, []), (2, [2]), (3, [])] rfl) [0, 1, 2, 3, 4, 5] rfl)), ?_⟩)
        refine dtake (f := 1) [34, 35] (by kernel_rfl) (St.closed _ _ _ _) (fun _ h => (St.selF (St.wk (St.untail (K := [(geneve_t6_k0 b7 A5 c5 bs N n AQ cQ), (geneve_t6_k3 b4), (geneve_t6_k4 b50 b439 v A5_1 n bs N c5_1), (geneve_t6_k1 b439 bs), (geneve_t6_k2 b476 bs i), (geneve_t6_k5 b483 b476 A5_2 bs i c5_2)]) (Kr := Kr484) h) [(0, []), (1, []), (2, [2]), (3, [])] rfl) [0, 1, 2, 3, 4, 5] rfl)) (by kernel_rfl) ?_
        refine dq rfl (q_nil rfl) ?_
        refine dq rfl (q_field (b := b50) (off := 0) rfl fo_29_2) ?_
        refine QL.nil ?_
        refine RG.step1 36 (by kernel_rfl) ?_
        refine dop rfl (l_store (b := b50) (off := 2) (j := 2) rfl rfl nagg_27 hr484.one rfl rfl rfl (dlt rfl) ⟨(fun _ h => (St.selF (St.wk (St.untail (K := [(geneve_t6_k0 b7 A5 c5 bs N n AQ cQ), (geneve_t6_k3 b4), (geneve_t6_k6 b50 b439 v484 A5_1 n bs N c5_1), (geneve_t6_k1 b439 bs), (geneve_t6_k2 b476 bs i), (geneve_t6_k5 b483 b476 A5_2 bs i c5_2)]) (Kr := Kr484) h) [(0, []), (1, []), (2, [2]), (3, [])] rfl) [0, 1, 2, 3, 4, 5] rfl)), ?_⟩)
        refine dend (by kernel_rfl) ?_
        refine ein ?_
        refine eseq ?_
        refine HT.norm ([(geneve_t6_k0 b7 A5 c5 bs N n AQ cQ), (geneve_t6_k3 b4), (geneve_t6_k6 b50 b439 v484 A5_1 n bs N c5_1), (geneve_t6_k1 b439 bs), (geneve_t6_k2 b476 bs i), (geneve_t6_k5 b483 b476 A5_2 bs i c5_2)] ++ Kr484) [Byt A5 n c5 bs, Cel AQ N cQ 1 (rowX (ptrs be) N), GF be de (fun j d => [.int .u16 ((bN bs (vof bs j) 2 : Nat) : Int), .int .u8 ((nb bs (vof bs j + 2) : Nat) : Int), .int .u8 ((nb bs (vof bs j + 3) / 16 : Nat) : Int), .int .u8 (((nb bs (vof bs j + 3) % 16) * 4 + 4 : Nat) : Int), .slice (some ⟨d, 0, none⟩) ((nb bs (vof bs j + 3) % 16) * 4 + 4 - 4) ((nb bs (vof bs j + 3) % 16) * 4 + 4 - 4)]) (fun j => (nb bs (vof bs j + 3) % 16) * 4 + 4 - 4) (fun j => sl bs (vof bs j + 4) (vof bs j + ((nb bs (vof bs j + 3) % 16) * 4 + 4))) N, Byt A5_1 (n - (vof bs N)) c5_1 (sl bs (vof bs N) n), psF ps, Byt (some ⟨(de i), 0, none⟩) ((nb bs (vof bs i + 3) % 16) * 4 + 4 - 4) ((nb bs (vof bs i + 3) % 16) * 4 + 4 - 4) (sl bs (vof bs i + 4) (vof bs i + ((nb bs (vof bs i + 3) % 16) * 4 + 4))), Byt A5_2 ((nb bs (vof bs i + 3) % 16) * 4 + 4 - 4) c5_2 (sl bs (vof bs i + 4) (vof bs i + ((nb bs (vof bs i + 3) % 16) * 4 + 4)))] rfl rfl ?_
        refine HT.plain ?_
        refine sqS (q_add (p := i) (q := 1) rfl rfl (show i + 1 < 9223372036854775808 by have := hil; omega)) rfl ?_
        refine sMv rfl rfl ?_
        refine send ?_
        exact fun a ha w' hw => by
          obtain ⟨hp2, hs2⟩ := TSt.step hp (X := [(geneve_t6_k0 b7 A5 c5 bs N n AQ cQ), (geneve_t6_k3 b4), (geneve_t6_k6 b50 b439 v484 A5_1 n bs N c5_1), (geneve_t6_k1 b439 bs)]) (Y := [(geneve_t6_k5 b483 b476 A5_2 bs i c5_2)]) (k := (geneve_t6_k2 b476 bs i)) (b := ⟨A5_2, ((nb bs (vof bs i + 3) % 16) * 4 + 4 - 4), c5_2, (sl bs (vof bs i + 4) (vof bs i + ((nb bs (vof bs i + 3) % 16) * 4 + 4)))⟩) (B := [Byt A5 n c5 bs, Cel AQ N cQ 1 (rowX (ptrs be) N), GF be de (fun j d => [.int .u16 ((bN bs (vof bs j) 2 : Nat) : Int), .int .u8 ((nb bs (vof bs j + 2) : Nat) : Int), .int .u8 ((nb bs (vof bs j + 3) / 16 : Nat) : Int), .int .u8 (((nb bs (vof bs j + 3) % 16) * 4 + 4 : Nat) : Int), .slice (some ⟨d, 0, none⟩) ((nb bs (vof bs j + 3) % 16) * 4 + 4 - 4) ((nb bs (vof bs j + 3) % 16) * 4 + 4 - 4)]) (fun j => (nb bs (vof bs j + 3) % 16) * 4 + 4 - 4) (fun j => sl bs (vof bs j + 4) (vof bs j + ((nb bs (vof bs j + 3) % 16) * 4 + 4))) N, Byt A5_1 (n - (vof bs N)) c5_1 (sl bs (vof bs N) n)]) (r := []) (cnt := 4) (cap := 4) (xs := [bN bs (vof bs i) 2, nb bs (vof bs i + 2), nb bs (vof bs i + 3) / 16, (nb bs (vof bs i + 3) % 16) * 4 + 4]) (hw.selF [0, 1, 2, 3, 4, 6] rfl) (by omega) rfl rfl (Nat.le_refl _) rfl hr484 (hf10 _ List.mem_cons_self) (show ([bN bs (vof bs i) 2, nb bs (vof bs i + 2), nb bs (vof bs i + 3) / 16, (nb bs (vof bs i + 3) % 16) * 4 + 4], (sl bs (vof bs i + 4) (vof bs i + ((nb bs (vof bs i + 3) % 16) * 4 + 4)))) = ([bN bs (vof bs i) 2, nb bs (vof bs i + 2), nb bs (vof bs i + 3) / 16, 4 + 4 * (nb bs (vof bs i + 3) % 16)], sl bs (vof bs i + 4) (vof bs (i + 1))) from pdt (lc rfl (lc rfl (lc rfl (lc (show (nb bs (vof bs i + 3) % 16) * 4 + 4 = 4 + 4 * (nb bs (vof bs i + 3) % 16) from by omega) rfl)))) (by omega) (by omega))
          exact eround2 ⟨(i + 1, _, _, _), hp2⟩ (show N - (i + 1) < N - i by omega) (ha.sub ⟨rfl, rfl, rfl, rfl, rfl, rfl, trivial⟩) hs2
      · refine dop rfl (l_callT2 (K := [(geneve_t6_k0 b7 A5 c5 bs N n AQ cQ), (geneve_t6_k3 b4), (geneve_t6_k4 b50 b439 v A5_1 n bs N c5_1), (geneve_t6_k1 b439 bs), (geneve_t6_k2 b476 bs i)]) (Kr := Kr) (vs := [(.slice (some ⟨(de i), 0, none⟩) ((nb bs (vof bs i + 3) % 16) * 4 + 4 - 4) ((nb bs (vof bs i + 3) % 16) * 4 + 4 - 4))]) (Bc := [Byt (some ⟨(de i), 0, none⟩) ((nb bs (vof bs i + 3) % 16) * 4 + 4 - 4) ((nb bs (vof bs i + 3) % 16) * 4 + 4 - 4) (sl bs (vof bs i + 4) (vof bs i + ((nb bs (vof bs i + 3) % 16) * 4 + 4)))]) (Bx := [Byt A5 n c5 bs, Cel AQ N cQ 1 (rowX (ptrs be) N), GF be de (fun j d => [.int .u16 ((bN bs (vof bs j) 2 : Nat) : Int), .int .u8 ((nb bs (vof bs j + 2) : Nat) : Int), .int .u8 ((nb bs (vof bs j + 3) / 16 : Nat) : Int), .int .u8 (((nb bs (vof bs j + 3) % 16) * 4 + 4 : Nat) : Int), .slice (some ⟨d, 0, none⟩) ((nb bs (vof bs j + 3) % 16) * 4 + 4 - 4) ((nb bs (vof bs j + 3) % 16) * 4 + 4 - 4)]) (fun j => (nb bs (vof bs j + 3) % 16) * 4 + 4 - 4) (fun j => sl bs (vof bs j + 4) (vof bs j + ((nb bs (vof bs j + 3) % 16) * 4 + 4))) N, Byt A5_1 (n - (vof bs N)) c5_1 (sl bs (vof bs N) n), psF ps, Byt (some ⟨(de i), 0, none⟩) ((nb bs (vof bs i + 3) % 16) * 4 + 4 - 4) ((nb bs (vof bs i + 3) % 16) * 4 + 4 - 4) (sl bs (vof bs i + 4) (vof bs i + ((nb bs (vof bs i + 3) % 16) * 4 + 4)))]) [5] (fun A5_2 c5_2 => [Byt A5 n c5 bs, Cel AQ N cQ 1 (rowX (ptrs be) N), GF be de (fun j d => [.int .u16 ((bN bs (vof bs j) 2 : Nat) : Int), .int .u8 ((nb bs (vof bs j + 2) : Nat) : Int), .int .u8 ((nb bs (vof bs j + 3) / 16 : Nat) : Int), .int .u8 (((nb bs (vof bs j + 3) % 16) * 4 + 4 : Nat) : Int), .slice (some ⟨d, 0, none⟩) ((nb bs (vof bs j + 3) % 16) * 4 + 4 - 4) ((nb bs (vof bs j + 3) % 16) * 4 + 4 - 4)]) (fun j => (nb bs (vof bs j + 3) % 16) * 4 + 4 - 4) (fun j => sl bs (vof bs j + 4) (vof bs j + ((nb bs (vof bs j + 3) % 16) * 4 + 4))) N, Byt A5_1 (n - (vof bs N)) c5_1 (sl bs (vof bs N) n), psF ps, Byt (some ⟨(de i), 0, none⟩) ((nb bs (vof bs i + 3) % 16) * 4 + 4 - 4) ((nb bs (vof bs i + 3) % 16) * 4 + 4 - 4) (sl bs (vof bs i + 4) (vof bs i + ((nb bs (vof bs i + 3) % 16) * 4 + 4))), Byt A5_2 ((nb bs (vof bs i + 3) % 16) * 4 + 4 - 4) c5_2 (sl bs (vof bs i + 4) (vof bs i + ((nb bs (vof bs i + 3) % 16) * 4 + 4)))]) (by decide) rfl ca_60 (fun _ h => h) rfl (fun w h => clone w (some ⟨(de i), 0, none⟩) ((nb bs (vof bs i + 3) % 16) * 4 + 4 - 4) ((nb bs (vof bs i + 3) % 16) * 4 + 4 - 4) (sl bs (vof bs i + 4) (vof bs i + ((nb bs (vof bs i + 3) % 16) * 4 + 4))) (by have := nb_lt bs (vof bs i + 3); omega) h) (fun _ _ => rfl) fun A5_2 c5_2 hf13 he14 => ⟨(fun _ h => (St.selF (St.wk (St.untail (K := [(geneve_t6_k0 b7 A5 c5 bs N n AQ cQ), (geneve_t6_k3 b4), (geneve_t6_k4 b50 b439 v A5_1 n bs N c5_1), (geneve_t6_k1 b439 bs), (geneve_t6_k2 b476 bs i)]) (Kr := Kr) h) [(0, []), (1, []), (2, [2]), (3, [])] rfl) [0, 1, 2, 3, 4, 5] rfl)), ?_⟩)
        have hnc15 : ((nb bs (vof bs i + 3) % 16) * 4 + 4 - 4) ≤ c5_2 := by obtain ⟨w, h⟩ := he14; exact (h _ List.mem_cons_self).2.1
        refine dtake (f := 6) [31] (by kernel_rfl) (St.closed _ _ _ _) (fun _ h => (St.selF (St.wk (St.untail (K := [(geneve_t6_k0 b7 A5 c5 bs N n AQ cQ), (geneve_t6_k3 b4), (geneve_t6_k4 b50 b439 v A5_1 n bs N c5_1), (geneve_t6_k1 b439 bs), (geneve_t6_k2 b476 bs i)]) (Kr := Kr) h) [(0, []), (1, []), (2, [2]), (3, [])] rfl) [0, 1, 2, 3, 4, 5] rfl)) (by kernel_rfl) ?_
        refine dq rfl (q_build (vs := [(0, (.slice (some ⟨b476, 0, none⟩) 4 4)), (1, (.slice A5_2 ((nb bs (vof bs i + 3) % 16) * 4 + 4 - 4) c5_2))]) (v := (.agg #[(.slice (some ⟨b476, 0, none⟩) 4 4), (.slice A5_2 ((nb bs (vof bs i + 3) % 16) * 4 + 4 - 4) c5_2)])) rfl (fun _ => by kernel_rfl)) ?_
        refine QL.nil ?_
        refine RG.step2 4 32 (by kernel_rfl) ?_ ?_
        · refine dop rfl (l_q _ (by simp) (St.closed _ _ _ _) (q_load (b := b50) (off := 2) (j := 2) rfl nagg_27 (fun _ h => h) rfl rfl rfl) ⟨(fun _ h => (St.selF (St.wk (St.untail (K := [(geneve_t6_k0 b7 A5 c5 bs N n AQ cQ), (geneve_t6_k3 b4), (geneve_t6_k4 b50 b439 v A5_1 n bs N c5_1), (geneve_t6_k1 b439 bs), (geneve_t6_k2 b476 bs i)]) (Kr := Kr) h) [(0, []), (1, []), (2, [2]), (3, [])] rfl) [0, 1, 2, 3, 4, 5] rfl)), ?_⟩)
          refine RG.step1 32 (by kernel_rfl) ?_
          refine dop rfl (l_buildSliceT (K := [(geneve_t6_k0 b7 A5 c5 bs N n AQ cQ), (geneve_t6_k3 b4), (geneve_t6_k4 b50 b439 v A5_1 n bs N c5_1), (geneve_t6_k1 b439 bs), (geneve_t6_k2 b476 bs i)]) (Kr := Kr) (e := 49) (vs := [(0, (.agg #[(.slice (some ⟨b476, 0, none⟩) 4 4), (.slice A5_2 ((nb bs (vof bs i + 3) % 16) * 4 + 4 - 4) c5_2)]))]) (cs := [(.slice (some ⟨b476, 0, none⟩) 4 4), (.slice A5_2 ((nb bs (vof bs i + 3) % 16) * 4 + 4 - 4) c5_2)]) (by decide) rfl (fun _ => by kernel_rfl) fun b483 => ⟨(fun _ h => (St.selF (St.wk (St.untail (K := [(geneve_t6_k0 b7 A5 c5 bs N n AQ cQ), (geneve_t6_k3 b4), (geneve_t6_k4 b50 b439 v A5_1 n bs N c5_1), (geneve_t6_k1 b439 bs), (geneve_t6_k2 b476 bs i), (geneve_t6_k5 b483 b476 A5_2 bs i c5_2)]) (Kr := Kr) h) [(0, []), (1, []), (2, [2]), (3, [])] rfl) [0, 1, 2, 3, 4, 5] rfl)), ?_⟩)
          refine RG.step1 33 (by kernel_rfl) ?_
          refine dop rfl (l_appendR (K0 := [(geneve_t6_k0 b7 A5 c5 bs N n AQ cQ), (geneve_t6_k3 b4), (geneve_t6_k4 b50 b439 v A5_1 n bs N c5_1), (geneve_t6_k1 b439 bs), (geneve_t6_k2 b476 bs i), (geneve_t6_k5 b483 b476 A5_2 bs i c5_2)]) (Kr := Kr) (k := i) (xs := (psV ps)) (jq := 5) (news := [(.slice (some ⟨b476, 0, none⟩) 4 4), (.slice A5_2 ((nb bs (vof bs i + 3) % 16) * 4 + 4 - 4) c5_2)]) (by decide) rfl rfl Tryz.underlying27 rowT_49 (by decide) hr (by have := hil; omega) rfl rfl (by simp [Value.one1]) fun v484 Kr484 hr484 => ⟨(fun _ h => (St.selF (St.wk (St.untail (K := [(geneve_t6_k0 b7 A5 c5 bs N n AQ cQ), (geneve_t6_k3 b4), (geneve_t6_k4 b50 b439 v A5_1 n bs N c5_1), (geneve_t6_k1 b439 bs), (geneve_t6_k2 b476 bs i), (geneve_t6_k5 b483 b476 A5_2 bs i c5_2)]) (Kr := Kr484) h) [(0, []), (1, []), (2, [2]), (3, [])] rfl) [0, 1, 2, 3, 4, 5] rfl)), ?_⟩)
          refine dtake (f := 1) [34, 35] (by kernel_rfl) (St.closed _ _ _ _) (fun _ h => (St.selF (St.wk (St.untail (K := [(geneve_t6_k0 b7 A5 c5 bs N n AQ cQ), (geneve_t6_k3 b4), (geneve_t6_k4 b50 b439 v A5_1 n bs N c5_1), (geneve_t6_k1 b439 bs), (geneve_t6_k2 b476 bs i), (geneve_t6_k5 b483 b476 A5_2 bs i c5_2)]) (Kr := Kr484) h) [(0, []), (1, []), (2, [2]), (3, [])] rfl) [0, 1, 2, 3, 4, 5] rfl)) (by kernel_rfl) ?_
          refine dq rfl (q_nil rfl) ?_
          refine dq rfl (q_field (b := b50) (off := 0) rfl fo_29_2) ?_
          refine QL.nil ?_
          refine RG.step1 36 (by kernel_rfl) ?_
          refine dop rfl (l_store (b := b50) (off := 2) (j := 2) rfl rfl nagg_27 hr484.one rfl rfl rfl (dlt rfl) ⟨(fun _ h => (St.selF (St.wk (St.untail (K := [(geneve_t6_k0 b7 A5 c5 bs N n AQ cQ), (geneve_t6_k3 b4), (geneve_t6_k6 b50 b439 v484 A5_1 n bs N c5_1), (geneve_t6_k1 b439 bs), (geneve_t6_k2 b476 bs i), (geneve_t6_k5 b483 b476 A5_2 bs i c5_2)]) (Kr := Kr484) h) [(0, []), (1, []), (2, [2]), (3, [])] rfl) [0, 1, 2, 3, 4, 5] rfl)), ?_⟩)
          refine dend (by kernel_rfl) ?_
          refine ein ?_
          refine eseq ?_
          refine HT.norm ([(geneve_t6_k0 b7 A5 c5 bs N n AQ cQ), (geneve_t6_k3 b4), (geneve_t6_k6 b50 b439 v484 A5_1 n bs N c5_1), (geneve_t6_k1 b439 bs), (geneve_t6_k2 b476 bs i), (geneve_t6_k5 b483 b476 A5_2 bs i c5_2)] ++ Kr484) [Byt A5 n c5 bs, Cel AQ N cQ 1 (rowX (ptrs be) N), GF be de (fun j d => [.int .u16 ((bN bs (vof bs j) 2 : Nat) : Int), .int .u8 ((nb bs (vof bs j + 2) : Nat) : Int), .int .u8 ((nb bs (vof bs j + 3) / 16 : Nat) : Int), .int .u8 (((nb bs (vof bs j + 3) % 16) * 4 + 4 : Nat) : Int), .slice (some ⟨d, 0, none⟩) ((nb bs (vof bs j + 3) % 16) * 4 + 4 - 4) ((nb bs (vof bs j + 3) % 16) * 4 + 4 - 4)]) (fun j => (nb bs (vof bs j + 3) % 16) * 4 + 4 - 4) (fun j => sl bs (vof bs j + 4) (vof bs j + ((nb bs (vof bs j + 3) % 16) * 4 + 4))) N, Byt A5_1 (n - (vof bs N)) c5_1 (sl bs (vof bs N) n), psF ps, Byt (some ⟨(de i), 0, none⟩) ((nb bs (vof bs i + 3) % 16) * 4 + 4 - 4) ((nb bs (vof bs i + 3) % 16) * 4 + 4 - 4) (sl bs (vof bs i + 4) (vof bs i + ((nb bs (vof bs i + 3) % 16) * 4 + 4))), Byt A5_2 ((nb bs (vof bs i + 3) % 16) * 4 + 4 - 4) c5_2 (sl bs (vof bs i + 4) (vof bs i + ((nb bs (vof bs i + 3) % 16) * 4 + 4)))] rfl rfl ?_
          refine HT.plain ?_
          refine sqS (q_add (p := i) (q := 1) rfl rfl (show i + 1 < 9223372036854775808 by have := hil; omega)) rfl ?_
          refine sMv rfl rfl ?_
          refine send ?_
          exact fun a ha w' hw => by
            obtain ⟨hp2, hs2⟩ := TSt.step hp (X := [(geneve_t6_k0 b7 A5 c5 bs N n AQ cQ), (geneve_t6_k3 b4), (geneve_t6_k6 b50 b439 v484 A5_1 n bs N c5_1), (geneve_t6_k1 b439 bs)]) (Y := [(geneve_t6_k5 b483 b476 A5_2 bs i c5_2)]) (k := (geneve_t6_k2 b476 bs i)) (b := ⟨A5_2, ((nb bs (vof bs i + 3) % 16) * 4 + 4 - 4), c5_2, (sl bs (vof bs i + 4) (vof bs i + ((nb bs (vof bs i + 3) % 16) * 4 + 4)))⟩) (B := [Byt A5 n c5 bs, Cel AQ N cQ 1 (rowX (ptrs be) N), GF be de (fun j d => [.int .u16 ((bN bs (vof bs j) 2 : Nat) : Int), .int .u8 ((nb bs (vof bs j + 2) : Nat) : Int), .int .u8 ((nb bs (vof bs j + 3) / 16 : Nat) : Int), .int .u8 (((nb bs (vof bs j + 3) % 16) * 4 + 4 : Nat) : Int), .slice (some ⟨d, 0, none⟩) ((nb bs (vof bs j + 3) % 16) * 4 + 4 - 4) ((nb bs (vof bs j + 3) % 16) * 4 + 4 - 4)]) (fun j => (nb bs (vof bs j + 3) % 16) * 4 + 4 - 4) (fun j => sl bs (vof bs j + 4) (vof bs j + ((nb bs (vof bs j + 3) % 16) * 4 + 4))) N, Byt A5_1 (n - (vof bs N)) c5_1 (sl bs (vof bs N) n)]) (r := []) (cnt := 4) (cap := 4) (xs := [bN bs (vof bs i) 2, nb bs (vof bs i + 2), nb bs (vof bs i + 3) / 16, (nb bs (vof bs i + 3) % 16) * 4 + 4]) (hw.selF [0, 1, 2, 3, 4, 6] rfl) (by omega) rfl rfl (Nat.le_refl _) rfl hr484 (hf13 _ List.mem_cons_self) (show ([bN bs (vof bs i) 2, nb bs (vof bs i + 2), nb bs (vof bs i + 3) / 16, (nb bs (vof bs i + 3) % 16) * 4 + 4], (sl bs (vof bs i + 4) (vof bs i + ((nb bs (vof bs i + 3) % 16) * 4 + 4)))) = ([bN bs (vof bs i) 2, nb bs (vof bs i + 2), nb bs (vof bs i + 3) / 16, 4 + 4 * (nb bs (vof bs i + 3) % 16)], sl bs (vof bs i + 4) (vof bs (i + 1))) from pdt (lc rfl (lc rfl (lc rfl (lc (show (nb bs (vof bs i + 3) % 16) * 4 + 4 = 4 + 4 * (nb bs (vof bs i + 3) % 16) from by omega) rfl)))) (by omega) (by omega))
            exact eround2 ⟨(i + 1, _, _, _), hp2⟩ (show N - (i + 1) < N - i by omega) (ha.sub ⟨rfl, rfl, rfl, rfl, rfl, rfl, trivial⟩) hs2
        · refine dop rfl (l_buildSliceT (K := [(geneve_t6_k0 b7 A5 c5 bs N n AQ cQ), (geneve_t6_k3 b4), (geneve_t6_k4 b50 b439 v A5_1 n bs N c5_1), (geneve_t6_k1 b439 bs), (geneve_t6_k2 b476 bs i)]) (Kr := Kr) (e := 49) (vs := [(0, (.agg #[(.slice (some ⟨b476, 0, none⟩) 4 4), (.slice A5_2 ((nb bs (vof bs i + 3) % 16) * 4 + 4 - 4) c5_2)]))]) (cs := [(.slice (some ⟨b476, 0, none⟩) 4 4), (.slice A5_2 ((nb bs (vof bs i + 3) % 16) * 4 + 4 - 4) c5_2)]) (by decide) rfl (fun _ => by kernel_rfl) fun b483 => ⟨(fun _ h => (St.selF (St.wk (St.untail (K := [(geneve_t6_k0 b7 A5 c5 bs N n AQ cQ), (geneve_t6_k3 b4), (geneve_t6_k4 b50 b439 v A5_1 n bs N c5_1), (geneve_t6_k1 b439 bs), (geneve_t6_k2 b476 bs i), (geneve_t6_k5 b483 b476 A5_2 bs i c5_2)]) (Kr := Kr) h) [(0, []), (1, []), (2, [2]), (3, [])] rfl) [0, 1, 2, 3, 4, 5] rfl)), ?_⟩)
          refine RG.step1 4 (by kernel_rfl) ?_
          refine dop rfl (l_q _ (by simp) (St.closed _ _ _ _) (q_load (b := b50) (off := 2) (j := 2) rfl nagg_27 (fun _ h => h) rfl rfl rfl) ⟨(fun _ h => (St.selF (St.wk (St.untail (K := [(geneve_t6_k0 b7 A5 c5 bs N n AQ cQ), (geneve_t6_k3 b4), (geneve_t6_k4 b50 b439 v A5_1 n bs N c5_1), (geneve_t6_k1 b439 bs), (geneve_t6_k2 b476 bs i), (geneve_t6_k5 b483 b476 A5_2 bs i c5_2)]) (Kr := Kr) h) [(0, []), (1, []), (2, [2]), (3, [])] rfl) [0, 1, 2, 3, 4, 5] rfl)), ?_⟩)
          refine RG.step1 33 (by kernel_rfl) ?_
          refine dop rfl (l_appendR (K0 := [(geneve_t6_k0 b7 A5 c5 bs N n AQ cQ), (geneve_t6_k3 b4), (geneve_t6_k4 b50 b439 v A5_1 n bs N c5_1), (geneve_t6_k1 b439 bs), (geneve_t6_k2 b476 bs i), (geneve_t6_k5 b483 b476 A5_2 bs i c5_2)]) (Kr := Kr) (k := i) (xs := (psV ps)) (jq := 5) (news := [(.slice (some ⟨b476, 0, none⟩) 4 4), (.slice A5_2 ((nb bs (vof bs i + 3) % 16) * 4 + 4 - 4) c5_2)]) (by decide) rfl rfl Tryz.underlying27 rowT_49 (by decide) hr (by have := hil; omega) rfl rfl (by simp [Value.one1]) fun v484 Kr484 hr484 => ⟨(fun _ h => (St.selF (St.wk (St.untail (K := [(geneve_t6_k0 b7 A5 c5 bs N n AQ cQ), (geneve_t6_k3 b4), (geneve_t6_k4 b50 b439 v A5_1 n bs N c5_1), (geneve_t6_k1 b439 bs), (geneve_t6_k2 b476 bs i), (geneve_t6_k5 b483 b476 A5_2 bs i c5_2)]) (Kr := Kr484) h) [(0, []), (1, []), (2, [2]), (3, [])] rfl) [0, 1, 2, 3, 4, 5] rfl)), ?_⟩)
          refine dtake (f := 1) [34, 35] (by kernel_rfl) (St.closed _ _ _ _) (fun _ h => (St.selF (St.wk (St.untail (K := [(geneve_t6_k0 b7 A5 c5 bs N n AQ cQ), (geneve_t6_k3 b4), (geneve_t6_k4 b50 b439 v A5_1 n bs N c5_1), (geneve_t6_k1 b439 bs), (geneve_t6_k2 b476 bs i), (geneve_t6_k5 b483 b476 A5_2 bs i c5_2)]) (Kr := Kr484) h) [(0, []), (1, []), (2, [2]), (3, [])] rfl) [0, 1, 2, 3, 4, 5] rfl)) (by kernel_rfl) ?_
          refine dq rfl (q_nil rfl) ?_
          refine dq rfl (q_field (b := b50) (off := 0) rfl fo_29_2) ?_
          refine QL.nil ?_
          refine RG.step1 36 (by kernel_rfl) ?_
          refine dop rfl (l_store (b := b50) (off := 2) (j := 2) rfl rfl nagg_27 hr484.one rfl rfl rfl (dlt rfl) ⟨(fun _ h => (St.selF (St.wk (St.untail (K := [(geneve_t6_k0 b7 A5 c5 bs N n AQ cQ), (geneve_t6_k3 b4), (geneve_t6_k6 b50 b439 v484 A5_1 n bs N c5_1), (geneve_t6_k1 b439 bs), (geneve_t6_k2 b476 bs i), (geneve_t6_k5 b483 b476 A5_2 bs i c5_2)]) (Kr := Kr484) h) [(0, []), (1, []), (2, [2]), (3, [])] rfl) [0, 1, 2, 3, 4, 5] rfl)), ?_⟩)
          refine dend (by kernel_rfl) ?_
          refine ein ?_
          refine eseq ?_
          refine HT.norm ([(geneve_t6_k0 b7 A5 c5 bs N n AQ cQ), (geneve_t6_k3 b4), (geneve_t6_k6 b50 b439 v484 A5_1 n bs N c5_1), (geneve_t6_k1 b439 bs), (geneve_t6_k2 b476 bs i), (geneve_t6_k5 b483 b476 A5_2 bs i c5_2)] ++ Kr484) [Byt A5 n c5 bs, Cel AQ N cQ 1 (rowX (ptrs be) N), GF be de (fun j d => [.int .u16 ((bN bs (vof bs j) 2 : Nat) : Int), .int .u8 ((nb bs (vof bs j + 2) : Nat) : Int), .int .u8 ((nb bs (vof bs j + 3) / 16 : Nat) : Int), .int .u8 (((nb bs (vof bs j + 3) % 16) * 4 + 4 : Nat) : Int), .slice (some ⟨d, 0, none⟩) ((nb bs (vof bs j + 3) % 16) * 4 + 4 - 4) ((nb bs (vof bs j + 3) % 16) * 4 + 4 - 4)]) (fun j => (nb bs (vof bs j + 3) % 16) * 4 + 4 - 4) (fun j => sl bs (vof bs j + 4) (vof bs j + ((nb bs (vof bs j + 3) % 16) * 4 + 4))) N, Byt A5_1 (n - (vof bs N)) c5_1 (sl bs (vof bs N) n), psF ps, Byt (some ⟨(de i), 0, none⟩) ((nb bs (vof bs i + 3) % 16) * 4 + 4 - 4) ((nb bs (vof bs i + 3) % 16) * 4 + 4 - 4) (sl bs (vof bs i + 4) (vof bs i + ((nb bs (vof bs i + 3) % 16) * 4 + 4))), Byt A5_2 ((nb bs (vof bs i + 3) % 16) * 4 + 4 - 4) c5_2 (sl bs (vof bs i + 4) (vof bs i + ((nb bs (vof bs i + 3) % 16) * 4 + 4)))] rfl rfl ?_
          refine HT.plain ?_
          refine sqS (q_add (p := i) (q := 1) rfl rfl (show i + 1 < 9223372036854775808 by have := hil; omega)) rfl ?_
          refine sMv rfl rfl ?_
          refine send ?_
          exact fun a ha w' hw => by
            obtain ⟨hp2, hs2⟩ := TSt.step hp (X := [(geneve_t6_k0 b7 A5 c5 bs N n AQ cQ), (geneve_t6_k3 b4), (geneve_t6_k6 b50 b439 v484 A5_1 n bs N c5_1), (geneve_t6_k1 b439 bs)]) (Y := [(geneve_t6_k5 b483 b476 A5_2 bs i c5_2)]) (k := (geneve_t6_k2 b476 bs i)) (b := ⟨A5_2, ((nb bs (vof bs i + 3) % 16) * 4 + 4 - 4), c5_2, (sl bs (vof bs i + 4) (vof bs i + ((nb bs (vof bs i + 3) % 16) * 4 + 4)))⟩) (B := [Byt A5 n c5 bs, Cel AQ N cQ 1 (rowX (ptrs be) N), GF be de (fun j d => [.int .u16 ((bN bs (vof bs j) 2 : Nat) : Int), .int .u8 ((nb bs (vof bs j + 2) : Nat) : Int), .int .u8 ((nb bs (vof bs j + 3) / 16 : Nat) : Int), .int .u8 (((nb bs (vof bs j + 3) % 16) * 4 + 4 : Nat) : Int), .slice (some ⟨d, 0, none⟩) ((nb bs (vof bs j + 3) % 16) * 4 + 4 - 4) ((nb bs (vof bs j + 3) % 16) * 4 + 4 - 4)]) (fun j => (nb bs (vof bs j + 3) % 16) * 4 + 4 - 4) (fun j => sl bs (vof bs j + 4) (vof bs j + ((nb bs (vof bs j + 3) % 16) * 4 + 4))) N, Byt A5_1 (n - (vof bs N)) c5_1 (sl bs (vof bs N) n)]) (r := []) (cnt := 4) (cap := 4) (xs := [bN bs (vof bs i) 2, nb bs (vof bs i + 2), nb bs (vof bs i + 3) / 16, (nb bs (vof bs i + 3) % 16) * 4 + 4]) (hw.selF [0, 1, 2, 3, 4, 6] rfl) (by omega) rfl rfl (Nat.le_refl _) rfl hr484 (hf13 _ List.mem_cons_self) (show ([bN bs (vof bs i) 2, nb bs (vof bs i + 2), nb bs (vof bs i + 3) / 16, (nb bs (vof bs i + 3) % 16) * 4 + 4], (sl bs (vof bs i + 4) (vof bs i + ((nb bs (vof bs i + 3) % 16) * 4 + 4)))) = ([bN bs (vof bs i) 2, nb bs (vof bs i + 2), nb bs (vof bs i + 3) / 16, 4 + 4 * (nb bs (vof bs i + 3) % 16)], sl bs (vof bs i + 4) (vof bs (i + 1))) from pdt (lc rfl (lc rfl (lc rfl (lc (show (nb bs (vof bs i + 3) % 16) * 4 + 4 = 4 + 4 * (nb bs (vof bs i + 3) % 16) from by omega) rfl)))) (by omega) (by omega))
            exact eround2 ⟨(i + 1, _, _, _), hp2⟩ (show N - (i + 1) < N - i by omega) (ha.sub ⟨rfl, rfl, rfl, rfl, rfl, rfl, trivial⟩) hs2
    · refine dop rfl (l_callT2 (K := [(geneve_t6_k0 b7 A5 c5 bs N n AQ cQ), (geneve_t6_k3 b4), (geneve_t6_k4 b50 b439 v A5_1 n bs N c5_1), (geneve_t6_k1 b439 bs)]) (Kr := Kr) (vs := [(.slice (some ⟨(de i), 0, none⟩) ((nb bs (vof bs i + 3) % 16) * 4 + 4 - 4) ((nb bs (vof bs i + 3) % 16) * 4 + 4 - 4))]) (Bc := [Byt (some ⟨(de i), 0, none⟩) ((nb bs (vof bs i + 3) % 16) * 4 + 4 - 4) ((nb bs (vof bs i + 3) % 16) * 4 + 4 - 4) (sl bs (vof bs i + 4) (vof bs i + ((nb bs (vof bs i + 3) % 16) * 4 + 4)))]) (Bx := [Byt A5 n c5 bs, Cel AQ N cQ 1 (rowX (ptrs be) N), GF be de (fun j d => [.int .u16 ((bN bs (vof bs j) 2 : Nat) : Int), .int .u8 ((nb bs (vof bs j + 2) : Nat) : Int), .int .u8 ((nb bs (vof bs j + 3) / 16 : Nat) : Int), .int .u8 (((nb bs (vof bs j + 3) % 16) * 4 + 4 : Nat) : Int), .slice (some ⟨d, 0, none⟩) ((nb bs (vof bs j + 3) % 16) * 4 + 4 - 4) ((nb bs (vof bs j + 3) % 16) * 4 + 4 - 4)]) (fun j => (nb bs (vof bs j + 3) % 16) * 4 + 4 - 4) (fun j => sl bs (vof bs j + 4) (vof bs j + ((nb bs (vof bs j + 3) % 16) * 4 + 4))) N, Byt A5_1 (n - (vof bs N)) c5_1 (sl bs (vof bs N) n), psF ps, Byt (some ⟨(de i), 0, none⟩) ((nb bs (vof bs i + 3) % 16) * 4 + 4 - 4) ((nb bs (vof bs i + 3) % 16) * 4 + 4 - 4) (sl bs (vof bs i + 4) (vof bs i + ((nb bs (vof bs i + 3) % 16) * 4 + 4)))]) [5] (fun A5_2 c5_2 => [Byt A5 n c5 bs, Cel AQ N cQ 1 (rowX (ptrs be) N), GF be de (fun j d => [.int .u16 ((bN bs (vof bs j) 2 : Nat) : Int), .int .u8 ((nb bs (vof bs j + 2) : Nat) : Int), .int .u8 ((nb bs (vof bs j + 3) / 16 : Nat) : Int), .int .u8 (((nb bs (vof bs j + 3) % 16) * 4 + 4 : Nat) : Int), .slice (some ⟨d, 0, none⟩) ((nb bs (vof bs j + 3) % 16) * 4 + 4 - 4) ((nb bs (vof bs j + 3) % 16) * 4 + 4 - 4)]) (fun j => (nb bs (vof bs j + 3) % 16) * 4 + 4 - 4) (fun j => sl bs (vof bs j + 4) (vof bs j + ((nb bs (vof bs j + 3) % 16) * 4 + 4))) N, Byt A5_1 (n - (vof bs N)) c5_1 (sl bs (vof bs N) n), psF ps, Byt (some ⟨(de i), 0, none⟩) ((nb bs (vof bs i + 3) % 16) * 4 + 4 - 4) ((nb bs (vof bs i + 3) % 16) * 4 + 4 - 4) (sl bs (vof bs i + 4) (vof bs i + ((nb bs (vof bs i + 3) % 16) * 4 + 4))), Byt A5_2 ((nb bs (vof bs i + 3) % 16) * 4 + 4 - 4) c5_2 (sl bs (vof bs i + 4) (vof bs i + ((nb bs (vof bs i + 3) % 16) * 4 + 4)))]) (by decide) rfl ca_60 (fun _ h => h) rfl (fun w h => clone w (some ⟨(de i), 0, none⟩) ((nb bs (vof bs i + 3) % 16) * 4 + 4 - 4) ((nb bs (vof bs i + 3) % 16) * 4 + 4 - 4) (sl bs (vof bs i + 4) (vof bs i + ((nb bs (vof bs i + 3) % 16) * 4 + 4))) (by have := nb_lt bs (vof bs i + 3); omega) h) (fun _ _ => rfl) fun A5_2 c5_2 hf16 he17 => ⟨(fun _ h => (St.selF (St.wk (St.untail (K := [(geneve_t6_k0 b7 A5 c5 bs N n AQ cQ), (geneve_t6_k3 b4), (geneve_t6_k4 b50 b439 v A5_1 n bs N c5_1), (geneve_t6_k1 b439 bs)]) (Kr := Kr) h) [(0, []), (1, []), (2, [2]), (3, [])] rfl) [0, 1, 2, 3, 4, 5] rfl)), ?_⟩)
      have hnc18 : ((nb bs (vof bs i + 3) % 16) * 4 + 4 - 4) ≤ c5_2 := by obtain ⟨w, h⟩ := he17; exact (h _ List.mem_cons_self).2.1
      refine RG.step2 4 25 (by kernel_rfl) ?_ ?_
      · refine dop rfl (l_q _ (by simp) (St.closed _ _ _ _) (q_load (b := b50) (off := 2) (j := 2) rfl nagg_27 (fun _ h => h) rfl rfl rfl) ⟨(fun _ h => (St.selF (St.wk (St.untail (K := [(geneve_t6_k0 b7 A5 c5 bs N n AQ cQ), (geneve_t6_k3 b4), (geneve_t6_k4 b50 b439 v A5_1 n bs N c5_1), (geneve_t6_k1 b439 bs)]) (Kr := Kr) h) [(0, []), (1, []), (2, [2]), (3, [])] rfl) [0, 1, 2, 3, 4, 5] rfl)), ?_⟩)
        refine RG.step1 25 (by kernel_rfl) ?_
        refine dop rfl (l_buildSliceT (K := [(geneve_t6_k0 b7 A5 c5 bs N n AQ cQ), (geneve_t6_k3 b4), (geneve_t6_k4 b50 b439 v A5_1 n bs N c5_1), (geneve_t6_k1 b439 bs)]) (Kr := Kr) (e := 39) (vs := [(0, (.int .u64 ((bN bs (vof bs i) 2 : Nat) : Int))), (1, (.int .u64 ((nb bs (vof bs i + 2) : Nat) : Int))), (2, (.int .u64 ((nb bs (vof bs i + 3) / 16 : Nat) : Int))), (3, (.int .u64 (((nb bs (vof bs i + 3) % 16) * 4 + 4 : Nat) : Int)))]) (cs := [(.int .u64 ((bN bs (vof bs i) 2 : Nat) : Int)), (.int .u64 ((nb bs (vof bs i + 2) : Nat) : Int)), (.int .u64 ((nb bs (vof bs i + 3) / 16 : Nat) : Int)), (.int .u64 (((nb bs (vof bs i + 3) % 16) * 4 + 4 : Nat) : Int))]) (by decide) rfl (fun _ => by kernel_rfl) fun b476 => ⟨(fun _ h => (St.selF (St.wk (St.untail (K := [(geneve_t6_k0 b7 A5 c5 bs N n AQ cQ), (geneve_t6_k3 b4), (geneve_t6_k4 b50 b439 v A5_1 n bs N c5_1), (geneve_t6_k1 b439 bs), (geneve_t6_k2 b476 bs i)]) (Kr := Kr) h) [(0, []), (1, []), (2, [2]), (3, [])] rfl) [0, 1, 2, 3, 4, 5] rfl)), ?_⟩)
        refine dtake (f := 5) [31] (by kernel_rfl) (St.closed _ _ _ _) (fun _ h => (St.selF (St.wk (St.untail (K := [(geneve_t6_k0 b7 A5 c5 bs N n AQ cQ), (geneve_t6_k3 b4), (geneve_t6_k4 b50 b439 v A5_1 n bs N c5_1), (geneve_t6_k1 b439 bs), (geneve_t6_k2 b476 bs i)]) (Kr := Kr) h) [(0, []), (1, []), (2, [2]), (3, [])] rfl) [0, 1, 2, 3, 4, 5] rfl)) (by kernel_rfl) ?_
        refine dq rfl (q_build (vs := [(0, (.slice (some ⟨b476, 0, none⟩) 4 4)), (1, (.slice A5_2 ((nb bs (vof bs i + 3) % 16) * 4 + 4 - 4) c5_2))]) (v := (.agg #[(.slice (some ⟨b476, 0, none⟩) 4 4), (.slice A5_2 ((nb bs (vof bs i + 3) % 16) * 4 + 4 - 4) c5_2)])) rfl (fun _ => by kernel_rfl)) ?_
        refine QL.nil ?_
        refine RG.step1 32 (by kernel_rfl) ?_
        refine dop rfl (l_buildSliceT (K := [(geneve_t6_k0 b7 A5 c5 bs N n AQ cQ), (geneve_t6_k3 b4), (geneve_t6_k4 b50 b439 v A5_1 n bs N c5_1), (geneve_t6_k1 b439 bs), (geneve_t6_k2 b476 bs i)]) (Kr := Kr) (e := 49) (vs := [(0, (.agg #[(.slice (some ⟨b476, 0, none⟩) 4 4), (.slice A5_2 ((nb bs (vof bs i + 3) % 16) * 4 + 4 - 4) c5_2)]))]) (cs := [(.slice (some ⟨b476, 0, none⟩) 4 4), (.slice A5_2 ((nb bs (vof bs i + 3) % 16) * 4 + 4 - 4) c5_2)]) (by decide) rfl (fun _ => by kernel_rfl) fun b483 => ⟨(fun _ h => (St.selF (St.wk (St.untail (K := [(geneve_t6_k0 b7 A5 c5 bs N n AQ cQ), (geneve_t6_k3 b4), (geneve_t6_k4 b50 b439 v A5_1 n bs N c5_1), (geneve_t6_k1 b439 bs), (geneve_t6_k2 b476 bs i), (geneve_t6_k5 b483 b476 A5_2 bs i c5_2)]) (Kr := Kr) h) [(0, []), (1, []), (2, [2]), (3, [])] rfl) [0, 1, 2, 3, 4, 5] rfl)), ?_⟩)
        refine RG.step1 33 (by kernel_rfl) ?_
        refine dop rfl (l_appendR (K0 := [(geneve_t6_k0 b7 A5 c5 bs N n AQ cQ), (geneve_t6_k3 b4), (geneve_t6_k4 b50 b439 v A5_1 n bs N c5_1), (geneve_t6_k1 b439 bs), (geneve_t6_k2 b476 bs i), (geneve_t6_k5 b483 b476 A5_2 bs i c5_2)]) (Kr := Kr) (k := i) (xs := (psV ps)) (jq := 5) (news := [(.slice (some ⟨b476, 0, none⟩) 4 4), (.slice A5_2 ((nb bs (vof bs i + 3) % 16) * 4 + 4 - 4) c5_2)]) (by decide) rfl rfl Tryz.underlying27 rowT_49 (by decide) hr (by have := hil; omega) rfl rfl (by simp [Value.one1]) fun v484 Kr484 hr484 => ⟨(fun _ h => (St.selF (St.wk (St.untail (K := [(geneve_t6_k0 b7 A5 c5 bs N n AQ cQ), (geneve_t6_k3 b4), (geneve_t6_k4 b50 b439 v A5_1 n bs N c5_1), (geneve_t6_k1 b439 bs), (geneve_t6_k2 b476 bs i), (geneve_t6_k5 b483 b476 A5_2 bs i c5_2)]) (Kr := Kr484) h) [(0, []), (1, []), (2, [2]), (3, [])] rfl) [0, 1, 2, 3, 4, 5] rfl)), ?_⟩)
        refine dtake (f := 1) [34, 35] (by kernel_rfl) (St.closed _ _ _ _) (fun _ h => (St.selF (St.wk (St.untail (K := [(geneve_t6_k0 b7 A5 c5 bs N n AQ cQ), (geneve_t6_k3 b4), (geneve_t6_k4 b50 b439 v A5_1 n bs N c5_1), (geneve_t6_k1 b439 bs), (geneve_t6_k2 b476 bs i), (geneve_t6_k5 b483 b476 A5_2 bs i c5_2)]) (Kr := Kr484) h) [(0, []), (1, []), (2, [2]), (3, [])] rfl) [0, 1, 2, 3, 4, 5] rfl)) (by kernel_rfl) ?_
        refine dq rfl (q_nil rfl) ?_
        refine dq rfl (q_field (b := b50) (off := 0) rfl fo_29_2) ?_
        refine QL.nil ?_
        refine RG.step1 36 (by kernel_rfl) ?_
        refine dop rfl (l_store (b := b50) (off := 2) (j := 2) rfl rfl nagg_27 hr484.one rfl rfl rfl (dlt rfl) ⟨(fun _ h => (St.selF (St.wk (St.untail (K := [(geneve_t6_k0 b7 A5 c5 bs N n AQ cQ), (geneve_t6_k3 b4), (geneve_t6_k6 b50 b439 v484 A5_1 n bs N c5_1), (geneve_t6_k1 b439 bs), (geneve_t6_k2 b476 bs i), (geneve_t6_k5 b483 b476 A5_2 bs i c5_2)]) (Kr := Kr484) h) [(0, []), (1, []), (2, [2]), (3, [])] rfl) [0, 1, 2, 3, 4, 5] rfl)), ?_⟩)
        refine dend (by kernel_rfl) ?_
        refine ein ?_
        refine eseq ?_
        refine HT.norm ([(geneve_t6_k0 b7 A5 c5 bs N n AQ cQ), (geneve_t6_k3 b4), (geneve_t6_k6 b50 b439 v484 A5_1 n bs N c5_1), (geneve_t6_k1 b439 bs), (geneve_t6_k2 b476 bs i), (geneve_t6_k5 b483 b476 A5_2 bs i c5_2)] ++ Kr484) [Byt A5 n c5 bs, Cel AQ N cQ 1 (rowX (ptrs be) N), GF be de (fun j d => [.int .u16 ((bN bs (vof bs j) 2 : Nat) : Int), .int .u8 ((nb bs (vof bs j + 2) : Nat) : Int), .int .u8 ((nb bs (vof bs j + 3) / 16 : Nat) : Int), .int .u8 (((nb bs (vof bs j + 3) % 16) * 4 + 4 : Nat) : Int), .slice (some ⟨d, 0, none⟩) ((nb bs (vof bs j + 3) % 16) * 4 + 4 - 4) ((nb bs (vof bs j + 3) % 16) * 4 + 4 - 4)]) (fun j => (nb bs (vof bs j + 3) % 16) * 4 + 4 - 4) (fun j => sl bs (vof bs j + 4) (vof bs j + ((nb bs (vof bs j + 3) % 16) * 4 + 4))) N, Byt A5_1 (n - (vof bs N)) c5_1 (sl bs (vof bs N) n), psF ps, Byt (some ⟨(de i), 0, none⟩) ((nb bs (vof bs i + 3) % 16) * 4 + 4 - 4) ((nb bs (vof bs i + 3) % 16) * 4 + 4 - 4) (sl bs (vof bs i + 4) (vof bs i + ((nb bs (vof bs i + 3) % 16) * 4 + 4))), Byt A5_2 ((nb bs (vof bs i + 3) % 16) * 4 + 4 - 4) c5_2 (sl bs (vof bs i + 4) (vof bs i + ((nb bs (vof bs i + 3) % 16) * 4 + 4)))] rfl rfl ?_
        refine HT.plain ?_
        refine sqS (q_add (p := i) (q := 1) rfl rfl (show i + 1 < 9223372036854775808 by have := hil; omega)) rfl ?_
        refine sMv rfl rfl ?_
        refine send ?_
        exact fun a ha w' hw => by
          obtain ⟨hp2, hs2⟩ := TSt.step hp (X := [(geneve_t6_k0 b7 A5 c5 bs N n AQ cQ), (geneve_t6_k3 b4), (geneve_t6_k6 b50 b439 v484 A5_1 n bs N c5_1), (geneve_t6_k1 b439 bs)]) (Y := [(geneve_t6_k5 b483 b476 A5_2 bs i c5_2)]) (k := (geneve_t6_k2 b476 bs i)) (b := ⟨A5_2, ((nb bs (vof bs i + 3) % 16) * 4 + 4 - 4), c5_2, (sl bs (vof bs i + 4) (vof bs i + ((nb bs (vof bs i + 3) % 16) * 4 + 4)))⟩) (B := [Byt A5 n c5 bs, Cel AQ N cQ 1 (rowX (ptrs be) N), GF be de (fun j d => [.int .u16 ((bN bs (vof bs j) 2 : Nat) : Int), .int .u8 ((nb bs (vof bs j + 2) : Nat) : Int), .int .u8 ((nb bs (vof bs j + 3) / 16 : Nat) : Int), .int .u8 (((nb bs (vof bs j + 3) % 16) * 4 + 4 : Nat) : Int), .slice (some ⟨d, 0, none⟩) ((nb bs (vof bs j + 3) % 16) * 4 + 4 - 4) ((nb bs (vof bs j + 3) % 16) * 4 + 4 - 4)]) (fun j => (nb bs (vof bs j + 3) % 16) * 4 + 4 - 4) (fun j => sl bs (vof bs j + 4) (vof bs j + ((nb bs (vof bs j + 3) % 16) * 4 + 4))) N, Byt A5_1 (n - (vof bs N)) c5_1 (sl bs (vof bs N) n)]) (r := []) (cnt := 4) (cap := 4) (xs := [bN bs (vof bs i) 2, nb bs (vof bs i + 2), nb bs (vof bs i + 3) / 16, (nb bs (vof bs i + 3) % 16) * 4 + 4]) (hw.selF [0, 1, 2, 3, 4, 6] rfl) (by omega) rfl rfl (Nat.le_refl _) rfl hr484 (hf16 _ List.mem_cons_self) (show ([bN bs (vof bs i) 2, nb bs (vof bs i + 2), nb bs (vof bs i + 3) / 16, (nb bs (vof bs i + 3) % 16) * 4 + 4], (sl bs (vof bs i + 4) (vof bs i + ((nb bs (vof bs i + 3) % 16) * 4 + 4)))) = ([bN bs (vof bs i) 2, nb bs (vof bs i + 2), nb bs (vof bs i + 3) / 16, 4 + 4 * (nb bs (vof bs i + 3) % 16)], sl bs (vof bs i + 4) (vof bs (i + 1))) from pdt (lc rfl (lc rfl (lc rfl (lc (show (nb bs (vof bs i + 3) % 16) * 4 + 4 = 4 + 4 * (nb bs (vof bs i + 3) % 16) from by omega) rfl)))) (by omega) (by omega))
          exact eround2 ⟨(i + 1, _, _, _), hp2⟩ (show N - (i + 1) < N - i by omega) (ha.sub ⟨rfl, rfl, rfl, rfl, rfl, rfl, trivial⟩) hs2
      · refine dop rfl (l_buildSliceT (K := [(geneve_t6_k0 b7 A5 c5 bs N n AQ cQ), (geneve_t6_k3 b4), (geneve_t6_k4 b50 b439 v A5_1 n bs N c5_1), (geneve_t6_k1 b439 bs)]) (Kr := Kr) (e := 39) (vs := [(0, (.int .u64 ((bN bs (vof bs i) 2 : Nat) : Int))), (1, (.int .u64 ((nb bs (vof bs i + 2) : Nat) : Int))), (2, (.int .u64 ((nb bs (vof bs i + 3) / 16 : Nat) : Int))), (3, (.int .u64 (((nb bs (vof bs i + 3) % 16) * 4 + 4 : Nat) : Int)))]) (cs := [(.int .u64 ((bN bs (vof bs i) 2 : Nat) : Int)), (.int .u64 ((nb bs (vof bs i + 2) : Nat) : Int)), (.int .u64 ((nb bs (vof bs i + 3) / 16 : Nat) : Int)), (.int .u64 (((nb bs (vof bs i + 3) % 16) * 4 + 4 : Nat) : Int))]) (by decide) rfl (fun _ => by kernel_rfl) fun b476 => ⟨(fun _ h => (St.selF (St.wk (St.untail (K := [(geneve_t6_k0 b7 A5 c5 bs N n AQ cQ), (geneve_t6_k3 b4), (geneve_t6_k4 b50 b439 v A5_1 n bs N c5_1), (geneve_t6_k1 b439 bs), (geneve_t6_k2 b476 bs i)]) (Kr := Kr) h) [(0, []), (1, []), (2, [2]), (3, [])] rfl) [0, 1, 2, 3, 4, 5] rfl)), ?_⟩)
        refine dtake (f := 6) [31] (by kernel_rfl) (St.closed _ _ _ _) (fun _ h => (St.selF (St.wk (St.untail (K := [(geneve_t6_k0 b7 A5 c5 bs N n AQ cQ), (geneve_t6_k3 b4), (geneve_t6_k4 b50 b439 v A5_1 n bs N c5_1), (geneve_t6_k1 b439 bs), (geneve_t6_k2 b476 bs i)]) (Kr := Kr) h) [(0, []), (1, []), (2, [2]), (3, [])] rfl) [0, 1, 2, 3, 4, 5] rfl)) (by kernel_rfl) ?_
        refine dq rfl (q_build (vs := [(0, (.slice (some ⟨b476, 0, none⟩) 4 4)), (1, (.slice A5_2 ((nb bs (vof bs i + 3) % 16) * 4 + 4 - 4) c5_2))]) (v := (.agg #[(.slice (some ⟨b476, 0, none⟩) 4 4), (.slice A5_2 ((nb bs (vof bs i + 3) % 16) * 4 + 4 - 4) c5_2)])) rfl (fun _ => by kernel_rfl)) ?_
        refine QL.nil ?_
        refine RG.step2 4 32 (by kernel_rfl) ?_ ?_
        · refine dop rfl (l_q _ (by simp) (St.closed _ _ _ _) (q_load (b := b50) (off := 2) (j := 2) rfl nagg_27 (fun _ h => h) rfl rfl rfl) ⟨(fun _ h => (St.selF (St.wk (St.untail (K := [(geneve_t6_k0 b7 A5 c5 bs N n AQ cQ), (geneve_t6_k3 b4), (geneve_t6_k4 b50 b439 v A5_1 n bs N c5_1), (geneve_t6_k1 b439 bs), (geneve_t6_k2 b476 bs i)]) (Kr := Kr) h) [(0, []), (1, []), (2, [2]), (3, [])] rfl) [0, 1, 2, 3, 4, 5] rfl)), ?_⟩)
          refine RG.step1 32 (by kernel_rfl) ?_
          refine dop rfl (l_buildSliceT (K := [(geneve_t6_k0 b7 A5 c5 bs N n AQ cQ), (geneve_t6_k3 b4), (geneve_t6_k4 b50 b439 v A5_1 n bs N c5_1), (geneve_t6_k1 b439 bs), (geneve_t6_k2 b476 bs i)]) (Kr := Kr) (e := 49) (vs := [(0, (.agg #[(.slice (some ⟨b476, 0, none⟩) 4 4), (.slice A5_2 ((nb bs (vof bs i + 3) % 16) * 4 + 4 - 4) c5_2)]))]) (cs := [(.slice (some ⟨b476, 0, none⟩) 4 4), (.slice A5_2 ((nb bs (vof bs i + 3) % 16) * 4 + 4 - 4) c5_2)]) (by decide) rfl (fun _ => by kernel_rfl) fun b483 => ⟨(fun _ h => (St.selF (St.wk (St.untail (K := [(geneve_t6_k0 b7 A5 c5 bs N n AQ cQ), (geneve_t6_k3 b4), (geneve_t6_k4 b50 b439 v A5_1 n bs N c5_1), (geneve_t6_k1 b439 bs), (geneve_t6_k2 b476 bs i), (geneve_t6_k5 b483 b476 A5_2 bs i c5_2)]) (Kr := Kr) h) [(0, []), (1, []), (2, [2]), (3, [])] rfl) [0, 1, 2, 3, 4, 5] rfl)), ?_⟩)
          refine RG.step1 33 (by kernel_rfl) ?_
          refine dop rfl (l_appendR (K0 := [(geneve_t6_k0 b7 A5 c5 bs N n AQ cQ), (geneve_t6_k3 b4), (geneve_t6_k4 b50 b439 v A5_1 n bs N c5_1), (geneve_t6_k1 b439 bs), (geneve_t6_k2 b476 bs i), (geneve_t6_k5 b483 b476 A5_2 bs i c5_2)]) (Kr := Kr) (k := i) (xs := (psV ps)) (jq := 5) (news := [(.slice (some ⟨b476, 0, none⟩) 4 4), (.slice A5_2 ((nb bs (vof bs i + 3) % 16) * 4 + 4 - 4) c5_2)]) (by decide) rfl rfl Tryz.underlying27 rowT_49 (by decide) hr (by have := hil; omega) rfl rfl (by simp [Value.one1]) fun v484 Kr484 hr484 => ⟨(fun _ h => (St.selF (St.wk (St.untail (K := [(geneve_t6_k0 b7 A5 c5 bs N n AQ cQ), (geneve_t6_k3 b4), (geneve_t6_k4 b50 b439 v A5_1 n bs N c5_1), (geneve_t6_k1 b439 bs), (geneve_t6_k2 b476 bs i), (geneve_t6_k5 b483 b476 A5_2 bs i c5_2)]) (Kr := Kr484) h) [(0, []), (1, []), (2, [2]), (3, [])] rfl) [0, 1, 2, 3, 4, 5] rfl)), ?_⟩)
          refine dtake (f := 1) [34, 35] (by kernel_rfl) (St.closed _ _ _ _) (fun _ h => (St.selF (St.wk (St.untail (K := [(geneve_t6_k0 b7 A5 c5 bs N n AQ cQ), (geneve_t6_k3 b4), (geneve_t6_k4 b50 b439 v A5_1 n bs N c5_1), (geneve_t6_k1 b439 bs), (geneve_t6_k2 b476 bs i), (geneve_t6_k5 b483 b476 A5_2 bs i c5_2)]) (Kr := Kr484) h) [(0, []), (1, []), (2, [2]), (3, [])] rfl) [0, 1, 2, 3, 4, 5] rfl)) (by kernel_rfl) ?_
          refine dq rfl (q_nil rfl) ?_
          refine dq rfl (q_field (b := b50) (off := 0) rfl fo_29_2) ?_
          refine QL.nil ?_
          refine RG.step1 36 (by kernel_rfl) ?_
          refine dop rfl (l_store (b := b50) (off := 2) (j := 2) rfl rfl nagg_27 hr484.one rfl rfl rfl (dlt rfl) ⟨(fun _ h => (St.selF (St.wk (St.untail (K := [(geneve_t6_k0 b7 A5 c5 bs N n AQ cQ), (geneve_t6_k3 b4), (geneve_t6_k6 b50 b439 v484 A5_1 n bs N c5_1), (geneve_t6_k1 b439 bs), (geneve_t6_k2 b476 bs i), (geneve_t6_k5 b483 b476 A5_2 bs i c5_2)]) (Kr := Kr484) h) [(0, []), (1, []), (2, [2]), (3, [])] rfl) [0, 1, 2, 3, 4, 5] rfl)), ?_⟩)
          refine dend (by kernel_rfl) ?_
          refine ein ?_
          refine eseq ?_
          refine HT.norm ([(geneve_t6_k0 b7 A5 c5 bs N n AQ cQ), (geneve_t6_k3 b4), (geneve_t6_k6 b50 b439 v484 A5_1 n bs N c5_1), (geneve_t6_k1 b439 bs), (geneve_t6_k2 b476 bs i), (geneve_t6_k5 b483 b476 A5_2 bs i c5_2)] ++ Kr484) [Byt A5 n c5 bs, Cel AQ N cQ 1 (rowX (ptrs be) N), GF be de (fun j d => [.int .u16 ((bN bs (vof bs j) 2 : Nat) : Int), .int .u8 ((nb bs (vof bs j + 2) : Nat) : Int), .int .u8 ((nb bs (vof bs j + 3) / 16 : Nat) : Int), .int .u8 (((nb bs (vof bs j + 3) % 16) * 4 + 4 : Nat) : Int), .slice (some ⟨d, 0, none⟩) ((nb bs (vof bs j + 3) % 16) * 4 + 4 - 4) ((nb bs (vof bs j + 3) % 16) * 4 + 4 - 4)]) (fun j => (nb bs (vof bs j + 3) % 16) * 4 + 4 - 4) (fun j => sl bs (vof bs j + 4) (vof bs j + ((nb bs (vof bs j + 3) % 16) * 4 + 4))) N, Byt A5_1 (n - (vof bs N)) c5_1 (sl bs (vof bs N) n), psF ps, Byt (some ⟨(de i), 0, none⟩) ((nb bs (vof bs i + 3) % 16) * 4 + 4 - 4) ((nb bs (vof bs i + 3) % 16) * 4 + 4 - 4) (sl bs (vof bs i + 4) (vof bs i + ((nb bs (vof bs i + 3) % 16) * 4 + 4))), Byt A5_2 ((nb bs (vof bs i + 3) % 16) * 4 + 4 - 4) c5_2 (sl bs (vof bs i + 4) (vof bs i + ((nb bs (vof bs i + 3) % 16) * 4 + 4)))] rfl rfl ?_
          refine HT.plain ?_
          refine sqS (q_add (p := i) (q := 1) rfl rfl (show i + 1 < 9223372036854775808 by have := hil; omega)) rfl ?_
          refine sMv rfl rfl ?_
          refine send ?_
          exact fun a ha w' hw => by
            obtain ⟨hp2, hs2⟩ := TSt.step hp (X := [(geneve_t6_k0 b7 A5 c5 bs N n AQ cQ), (geneve_t6_k3 b4), (geneve_t6_k6 b50 b439 v484 A5_1 n bs N c5_1), (geneve_t6_k1 b439 bs)]) (Y := [(geneve_t6_k5 b483 b476 A5_2 bs i c5_2)]) (k := (geneve_t6_k2 b476 bs i)) (b := ⟨A5_2, ((nb bs (vof bs i + 3) % 16) * 4 + 4 - 4), c5_2, (sl bs (vof bs i + 4) (vof bs i + ((nb bs (vof bs i + 3) % 16) * 4 + 4)))⟩) (B := [Byt A5 n c5 bs, Cel AQ N cQ 1 (rowX (ptrs be) N), GF be de (fun j d => [.int .u16 ((bN bs (vof bs j) 2 : Nat) : Int), .int .u8 ((nb bs (vof bs j + 2) : Nat) : Int), .int .u8 ((nb bs (vof bs j + 3) / 16 : Nat) : Int), .int .u8 (((nb bs (vof bs j + 3) % 16) * 4 + 4 : Nat) : Int), .slice (some ⟨d, 0, none⟩) ((nb bs (vof bs j + 3) % 16) * 4 + 4 - 4) ((nb bs (vof bs j + 3) % 16) * 4 + 4 - 4)]) (fun j => (nb bs (vof bs j + 3) % 16) * 4 + 4 - 4) (fun j => sl bs (vof bs j + 4) (vof bs j + ((nb bs (vof bs j + 3) % 16) * 4 + 4))) N, Byt A5_1 (n - (vof bs N)) c5_1 (sl bs (vof bs N) n)]) (r := []) (cnt := 4) (cap := 4) (xs := [bN bs (vof bs i) 2, nb bs (vof bs i + 2), nb bs (vof bs i + 3) / 16, (nb bs (vof bs i + 3) % 16) * 4 + 4]) (hw.selF [0, 1, 2, 3, 4, 6] rfl) (by omega) rfl rfl (Nat.le_refl _) rfl hr484 (hf16 _ List.mem_cons_self) (show ([bN bs (vof bs i) 2, nb bs (vof bs i + 2), nb bs (vof bs i + 3) / 16, (nb bs (vof bs i + 3) % 16) * 4 + 4], (sl bs (vof bs i + 4) (vof bs i + ((nb bs (vof bs i + 3) % 16) * 4 + 4)))) = ([bN bs (vof bs i) 2, nb bs (vof bs i + 2), nb bs (vof bs i + 3) / 16, 4 + 4 * (nb bs (vof bs i + 3) % 16)], sl bs (vof bs i + 4) (vof bs (i + 1))) from pdt (lc rfl (lc rfl (lc rfl (lc (show (nb bs (vof bs i + 3) % 16) * 4 + 4 = 4 + 4 * (nb bs (vof bs i + 3) % 16) from by omega) rfl)))) (by omega) (by omega))
            exact eround2 ⟨(i + 1, _, _, _), hp2⟩ (show N - (i + 1) < N - i by omega) (ha.sub ⟨rfl, rfl, rfl, rfl, rfl, rfl, trivial⟩) hs2
        · refine dop rfl (l_buildSliceT (K := [(geneve_t6_k0 b7 A5 c5 bs N n AQ cQ), (geneve_t6_k3 b4), (geneve_t6_k4 b50 b439 v A5_1 n bs N c5_1), (geneve_t6_k1 b439 bs), (geneve_t6_k2 b476 bs i)]) (Kr := Kr) (e := 49) (vs := [(0, (.agg #[(.slice (some ⟨b476, 0, none⟩) 4 4), (.slice A5_2 ((nb bs (vof bs i + 3) % 16) * 4 + 4 - 4) c5_2)]))]) (cs := [(.slice (some ⟨b476, 0, none⟩) 4 4), (.slice A5_2 ((nb bs (vof bs i + 3) % 16) * 4 + 4 - 4) c5_2)]) (by decide) rfl (fun _ => by kernel_rfl) fun b483 => ⟨(fun _ h => (St.selF (St.wk (St.untail (K := [(geneve_t6_k0 b7 A5 c5 bs N n AQ cQ), (geneve_t6_k3 b4), (geneve_t6_k4 b50 b439 v A5_1 n bs N c5_1), (geneve_t6_k1 b439 bs), (geneve_t6_k2 b476 bs i), (geneve_t6_k5 b483 b476 A5_2 bs i c5_2)]) (Kr := Kr) h) [(0, []), (1, []), (2, [2]), (3, [])] rfl) [0, 1, 2, 3, 4, 5] rfl)), ?_⟩)
          refine RG.step1 4 (by kernel_rfl) ?_
          refine dop rfl (l_q _ (by simp) (St.closed _ _ _ _) (q_load (b := b50) (off := 2) (j := 2) rfl nagg_27 (fun _ h => h) rfl rfl rfl) ⟨(fun _ h => (St.selF (St.wk (St.untail (K := [(geneve_t6_k0 b7 A5 c5 bs N n AQ cQ), (geneve_t6_k3 b4), (geneve_t6_k4 b50 b439 v A5_1 n bs N c5_1), (geneve_t6_k1 b439 bs), (geneve_t6_k2 b476 bs i), (geneve_t6_k5 b483 b476 A5_2 bs i c5_2)]) (Kr := Kr) h) [(0, []), (1, []), (2, [2]), (3, [])] rfl) [0, 1, 2, 3, 4, 5] rfl)), ?_⟩)
          refine RG.step1 33 (by kernel_rfl) ?_
          refine dop rfl (l_appendR (K0 := [(geneve_t6_k0 b7 A5 c5 bs N n AQ cQ), (geneve_t6_k3 b4), (geneve_t6_k4 b50 b439 v A5_1 n bs N c5_1), (geneve_t6_k1 b439 bs), (geneve_t6_k2 b476 bs i), (geneve_t6_k5 b483 b476 A5_2 bs i c5_2)]) (Kr := Kr) (k := i) (xs := (psV ps)) (jq := 5) (news := [(.slice (some ⟨b476, 0, none⟩) 4 4), (.slice A5_2 ((nb bs (vof bs i + 3) % 16) * 4 + 4 - 4) c5_2)]) (by decide) rfl rfl Tryz.underlying27 rowT_49 (by decide) hr (by have := hil; omega) rfl rfl (by simp [Value.one1]) fun v484 Kr484 hr484 => ⟨(fun _ h => (St.selF (St.wk (St.untail (K := [(geneve_t6_k0 b7 A5 c5 bs N n AQ cQ), (geneve_t6_k3 b4), (geneve_t6_k4 b50 b439 v A5_1 n bs N c5_1), (geneve_t6_k1 b439 bs), (geneve_t6_k2 b476 bs i), (geneve_t6_k5 b483 b476 A5_2 bs i c5_2)]) (Kr := Kr484) h) [(0, []), (1, []), (2, [2]), (3, [])] rfl) [0, 1, 2, 3, 4, 5] rfl)), ?_⟩)
          refine dtake (f := 1) [34, 35] (by kernel_rfl) (St.closed _ _ _ _) (fun _ h => (St.selF (St.wk (St.untail (K := [(geneve_t6_k0 b7 A5 c5 bs N n AQ cQ), (geneve_t6_k3 b4), (geneve_t6_k4 b50 b439 v A5_1 n bs N c5_1), (geneve_t6_k1 b439 bs), (geneve_t6_k2 b476 bs i), (geneve_t6_k5 b483 b476 A5_2 bs i c5_2)]) (Kr := Kr484) h) [(0, []), (1, []), (2, [2]), (3, [])] rfl) [0, 1, 2, 3, 4, 5] rfl)) (by kernel_rfl) ?_
          refine dq rfl (q_nil rfl) ?_
          refine dq rfl (q_field (b := b50) (off := 0) rfl fo_29_2) ?_
          refine QL.nil ?_
          refine RG.step1 36 (by kernel_rfl) ?_
          refine dop rfl (l_store (b := b50) (off := 2) (j := 2) rfl rfl nagg_27 hr484.one rfl rfl rfl (dlt rfl) ⟨(fun _ h => (St.selF (St.wk (St.untail (K := [(geneve_t6_k0 b7 A5 c5 bs N n AQ cQ), (geneve_t6_k3 b4), (geneve_t6_k6 b50 b439 v484 A5_1 n bs N c5_1), (geneve_t6_k1 b439 bs), (geneve_t6_k2 b476 bs i), (geneve_t6_k5 b483 b476 A5_2 bs i c5_2)]) (Kr := Kr484) h) [(0, []), (1, []), (2, [2]), (3, [])] rfl) [0, 1, 2, 3, 4, 5] rfl)), ?_⟩)
          refine dend (by kernel_rfl) ?_
          refine ein ?_
          refine eseq ?_
          refine HT.norm ([(geneve_t6_k0 b7 A5 c5 bs N n AQ cQ), (geneve_t6_k3 b4), (geneve_t6_k6 b50 b439 v484 A5_1 n bs N c5_1), (geneve_t6_k1 b439 bs), (geneve_t6_k2 b476 bs i), (geneve_t6_k5 b483 b476 A5_2 bs i c5_2)] ++ Kr484) [Byt A5 n c5 bs, Cel AQ N cQ 1 (rowX (ptrs be) N), GF be de (fun j d => [.int .u16 ((bN bs (vof bs j) 2 : Nat) : Int), .int .u8 ((nb bs (vof bs j + 2) : Nat) : Int), .int .u8 ((nb bs (vof bs j + 3) / 16 : Nat) : Int), .int .u8 (((nb bs (vof bs j + 3) % 16) * 4 + 4 : Nat) : Int), .slice (some ⟨d, 0, none⟩) ((nb bs (vof bs j + 3) % 16) * 4 + 4 - 4) ((nb bs (vof bs j + 3) % 16) * 4 + 4 - 4)]) (fun j => (nb bs (vof bs j + 3) % 16) * 4 + 4 - 4) (fun j => sl bs (vof bs j + 4) (vof bs j + ((nb bs (vof bs j + 3) % 16) * 4 + 4))) N, Byt A5_1 (n - (vof bs N)) c5_1 (sl bs (vof bs N) n), psF ps, Byt (some ⟨(de i), 0, none⟩) ((nb bs (vof bs i + 3) % 16) * 4 + 4 - 4) ((nb bs (vof bs i + 3) % 16) * 4 + 4 - 4) (sl bs (vof bs i + 4) (vof bs i + ((nb bs (vof bs i + 3) % 16) * 4 + 4))), Byt A5_2 ((nb bs (vof bs i + 3) % 16) * 4 + 4 - 4) c5_2 (sl bs (vof bs i + 4) (vof bs i + ((nb bs (vof bs i + 3) % 16) * 4 + 4)))] rfl rfl ?_
          refine HT.plain ?_
          refine sqS (q_add (p := i) (q := 1) rfl rfl (show i + 1 < 9223372036854775808 by have := hil; omega)) rfl ?_
          refine sMv rfl rfl ?_
          refine send ?_
          exact fun a ha w' hw => by
            obtain ⟨hp2, hs2⟩ := TSt.step hp (X := [(geneve_t6_k0 b7 A5 c5 bs N n AQ cQ), (geneve_t6_k3 b4), (geneve_t6_k6 b50 b439 v484 A5_1 n bs N c5_1), (geneve_t6_k1 b439 bs)]) (Y := [(geneve_t6_k5 b483 b476 A5_2 bs i c5_2)]) (k := (geneve_t6_k2 b476 bs i)) (b := ⟨A5_2, ((nb bs (vof bs i + 3) % 16) * 4 + 4 - 4), c5_2, (sl bs (vof bs i + 4) (vof bs i + ((nb bs (vof bs i + 3) % 16) * 4 + 4)))⟩) (B := [Byt A5 n c5 bs, Cel AQ N cQ 1 (rowX (ptrs be) N), GF be de (fun j d => [.int .u16 ((bN bs (vof bs j) 2 : Nat) : Int), .int .u8 ((nb bs (vof bs j + 2) : Nat) : Int), .int .u8 ((nb bs (vof bs j + 3) / 16 : Nat) : Int), .int .u8 (((nb bs (vof bs j + 3) % 16) * 4 + 4 : Nat) : Int), .slice (some ⟨d, 0, none⟩) ((nb bs (vof bs j + 3) % 16) * 4 + 4 - 4) ((nb bs (vof bs j + 3) % 16) * 4 + 4 - 4)]) (fun j => (nb bs (vof bs j + 3) % 16) * 4 + 4 - 4) (fun j => sl bs (vof bs j + 4) (vof bs j + ((nb bs (vof bs j + 3) % 16) * 4 + 4))) N, Byt A5_1 (n - (vof bs N)) c5_1 (sl bs (vof bs N) n)]) (r := []) (cnt := 4) (cap := 4) (xs := [bN bs (vof bs i) 2, nb bs (vof bs i + 2), nb bs (vof bs i + 3) / 16, (nb bs (vof bs i + 3) % 16) * 4 + 4]) (hw.selF [0, 1, 2, 3, 4, 6] rfl) (by omega) rfl rfl (Nat.le_refl _) rfl hr484 (hf16 _ List.mem_cons_self) (show ([bN bs (vof bs i) 2, nb bs (vof bs i + 2), nb bs (vof bs i + 3) / 16, (nb bs (vof bs i + 3) % 16) * 4 + 4], (sl bs (vof bs i + 4) (vof bs i + ((nb bs (vof bs i + 3) % 16) * 4 + 4)))) = ([bN bs (vof bs i) 2, nb bs (vof bs i + 2), nb bs (vof bs i + 3) / 16, 4 + 4 * (nb bs (vof bs i + 3) % 16)], sl bs (vof bs i + 4) (vof bs (i + 1))) from pdt (lc rfl (lc rfl (lc rfl (lc (show (nb bs (vof bs i + 3) % 16) * 4 + 4 = 4 + 4 * (nb bs (vof bs i + 3) % 16) from by omega) rfl)))) (by omega) (by omega))
            exact eround2 ⟨(i + 1, _, _, _), hp2⟩ (show N - (i + 1) < N - i by omega) (ha.sub ⟨rfl, rfl, rfl, rfl, rfl, rfl, trivial⟩) hs2
  · have hiN : i = N := by omega
    refine HT.seq ?_
    refine HT.plain ?_
    refine sqS (q_F (q_lt (p := i) (q := N) rfl rfl) (by have := hil; omega)) rfl ?_
    refine send ?_
    refine eseq ?_
    refine HT.seq ?_
    refine HT.no rfl ?_
    refine HT.exit ?_
    refine ex_then ?_
    refine ex_then ?_
    refine ex_in ?_
    refine ein ?_
    refine eseq ?_
    replace hiN := hiN.symm
    subst hiN
    refine HT.rowFact (K := [(geneve_t6_k0 b7 A5 c5 bs N n AQ cQ), (geneve_t6_k3 b4), (geneve_t6_k4 b50 b439 v A5_1 n bs N c5_1), (geneve_t6_k1 b439 bs)]) (Kr := Kr) hr (fun _ h => nomatch h) fun AR cR hvR hncR hfR => ?_
    subst hvR
    refine HT.seq ?_
    refine HT.plain ?_
    refine sMv rfl rfl ?_
    refine sqS (q_nil rfl) rfl ?_
    refine sqS (q_loadAgg (b := b50) (off := 0) (j := 2) (vs := [(.slice (some ⟨b439, 0, none⟩) 6 6), (.slice none 0 0), (.slice AR N cR), (.slice A5_1 (n - (vof bs N)) c5_1)]) rfl aggs_29 (fun _ h => h) rfl rfl rfl) rfl ?_
    refine sl_ (l_storeAgg (b := b4) (off := 0) (j := 1) (vs := [(.slice (some ⟨b439, 0, none⟩) 6 6), (.slice none 0 0), (.slice AR N cR), (.slice A5_1 (n - (vof bs N)) c5_1)]) rfl rfl aggs_29 (by simp [Value.one1]) rfl rfl rfl (Nat.le_of_ble_eq_true rfl) ?_)
    refine sAs rfl rfl ?_
    refine send ?_
    refine eseq ?_
    refine HT.ret ?_
    have hnums : [(nb bs 0) / 128, (nb bs 0) * 4, bitN (decide (0 < (nb bs 1) &&& 128)), bitN (decide (0 < (nb bs 1) &&& 64)), bN bs 2 2, bN bs 4 3] = [0, 4 * (nb bs 0), bitN (decide (((nb bs 1) &&& 128) ≠ 0)), bitN (decide (((nb bs 1) &&& 64) ≠ 0)), bN bs 2 2, bN bs 4 3] := (lc (show (nb bs 0) / 128 = 0 from by (have := nb_lt bs 0; first | omega | ((try simp only [zd224, zd240, zd192, zd24, zd56, zd65520, zd4, zd8, zd48, zd112]) <;> (try simp only [zt1, zt2, zt4, zt8, zt16, zt32, zt64, zt128, zt256, zt512, zt1024, zt2048, zt4096, zt8192]) <;> (try simp only [zm1, zm3, zm7, zm15, zm31, zm63, zm127, zm255, zm1023, zm4095, zm1048575, zb1, zb2, zb4, zb8, zb16, zb32, zb64, zb128, zb256, zb512, zb1024, zb2048, zb4096, zb8192, bitN, cond_true, cond_false]) <;> omega) | ((try simp only [zd224, zd240, zd192, zd24, zd56, zd65520, zd4, zd8, zd48, zd112]) <;> (try simp only [zt1, zt2, zt4, zt8, zt16, zt32, zt64, zt128, zt256, zt512, zt1024, zt2048, zt4096, zt8192]) <;> (try simp only [zm1, zm3, zm7, zm15, zm31, zm63, zm127, zm255, zm1023, zm4095, zm1048575, zb1, zb2, zb4, zb8, zb16, zb32, zb64, zb128, zb256, zb512, zb1024, zb2048, zb4096, zb8192, bitN, cond_true, cond_false, lN, bN, Nat.zero_mul, Nat.zero_add, Nat.add_zero, Nat.reduceAdd, Nat.reduceDiv, Nat.reduceMul]) <;> omega))) (lc (show (nb bs 0) * 4 = 4 * (nb bs 0) from by (have := nb_lt bs 0; first | omega | ((try simp only [zd224, zd240, zd192, zd24, zd56, zd65520, zd4, zd8, zd48, zd112]) <;> (try simp only [zt1, zt2, zt4, zt8, zt16, zt32, zt64, zt128, zt256, zt512, zt1024, zt2048, zt4096, zt8192]) <;> (try simp only [zm1, zm3, zm7, zm15, zm31, zm63, zm127, zm255, zm1023, zm4095, zm1048575, zb1, zb2, zb4, zb8, zb16, zb32, zb64, zb128, zb256, zb512, zb1024, zb2048, zb4096, zb8192, bitN, cond_true, cond_false]) <;> omega) | ((try simp only [zd224, zd240, zd192, zd24, zd56, zd65520, zd4, zd8, zd48, zd112]) <;> (try simp only [zt1, zt2, zt4, zt8, zt16, zt32, zt64, zt128, zt256, zt512, zt1024, zt2048, zt4096, zt8192]) <;> (try simp only [zm1, zm3, zm7, zm15, zm31, zm63, zm127, zm255, zm1023, zm4095, zm1048575, zb1, zb2, zb4, zb8, zb16, zb32, zb64, zb128, zb256, zb512, zb1024, zb2048, zb4096, zb8192, bitN, cond_true, cond_false, lN, bN, Nat.zero_mul, Nat.zero_add, Nat.add_zero, Nat.reduceAdd, Nat.reduceDiv, Nat.reduceMul]) <;> omega))) (lc (show bitN (decide (0 < (nb bs 1) &&& 128)) = bitN (decide (((nb bs 1) &&& 128) ≠ 0)) from by exact congrArg bitN (decide_eq_decide.2 (by omega))) (lc (show bitN (decide (0 < (nb bs 1) &&& 64)) = bitN (decide (((nb bs 1) &&& 64) ≠ 0)) from by exact congrArg bitN (decide_eq_decide.2 (by omega))) (lc rfl (lc rfl rfl))))))
    exact fun a ha w' hw => fin_ ha (resc2 ha Tryz.results47 rfl (ld_ aggs_29 hw (j := 1) rfl rfl (vs := [(.slice (some ⟨b439, 0, none⟩) 6 6), (.slice none 0 0), (.slice AR N cR), (.slice A5_1 (n - (vof bs N)) c5_1)]) rfl) rfl) ⟨⟨⟨some ⟨b439, 0, none⟩, 6, 6, [(nb bs 0) / 128, (nb bs 0) * 4, bitN (decide (0 < (nb bs 1) &&& 128)), bitN (decide (0 < (nb bs 1) &&& 64)), bN bs 2 2, bN bs 4 3]⟩, none, 0, 0, [], AR, N, cR, ps, ⟨A5_1, (n - (vof bs N)), c5_1, (sl bs (vof bs N) n)⟩⟩, rfl, hw.pres, Own.lay6 (Own.cel hw (j := 3) (sz := 1) (r := []) rfl rfl rfl rfl (Nat.le_refl _)) (Own.nilCel 1) (Own.byt hw (j := 5) rfl (fun i h => .inl (hfR i h))) (Own.byt hw (j := 3) rfl (fun b h => .inl ((hf1 _ List.mem_cons_self) b h))) (fun _ h => nomatch h) (psOwn hw (j := 4) rfl hp.told.new), LD_eq hnums rfl hp.told.data (show (sl bs (vof bs N) n) = sl bs (8 + (4 * (nb bs 0))) n from by first | rfl | (exact sl_nil (by omega)) | (congr 1 <;> omega))⟩

theorem geneve_I6 (w : World) (A : Option Addr) (n : Nat) (c : Nat) (bs : List UInt8) (N : Nat) (hn : n ≤ 400) (ha : 8 ≤ n) (hb : nb bs 0 ≤ 61) (hc : 4 * nb bs 0 ≤ n - 8) (hd : ∀ i, i < N → vof bs i < 8 + 4 * nb bs 0 ∧ vof bs (i + 1) ≤ 8 + 4 * nb bs 0 ∧ nb bs (vof bs i + 3) / 16 % 2 = 0) (he : vof bs N = 8 + 4 * nb bs 0) (hst : St w [] [] [Byt A n c bs] w) : Calls Tryz.prog 27 #[(.string ⟨#[103, 101, 110, 101, 118, 101]⟩), (.slice A n c)] w (IP w (Byt A n c bs) (some (some ⟨[0, 4 * (nb bs 0), bitN (decide (((nb bs 1) &&& 128) ≠ 0)), bitN (decide (((nb bs 1) &&& 64) ≠ 0)), bN bs 2 2, bN bs 4 3], [], ((List.range N).map (fun j => ([bN bs (vof bs j) 2, nb bs (vof bs j + 2), nb bs (vof bs j + 3) / 16, 4 + 4 * (nb bs (vof bs j + 3) % 16)], sl bs (vof bs j + 4) (vof bs (j + 1))))), sl bs (8 + (4 * (nb bs 0))) n⟩))) := by
  have hnc00 : n ≤ c := (hst.fact (j := 0) rfl).2.1
  refine enter (vs := [(.string ⟨#[103, 101, 110, 101, 118, 101]⟩), (.slice A n c)]) Tryz.func27 rfl rfl rfl hst ?_
  refine HT.seq ?_
  refine HT.plain ?_
  refine sl_ (l_alloc (by decide) zero_29 fun b4 => ?_)
  refine sAs rfl rfl ?_
  refine send ?_
  refine eseq ?_
  refine HT.seq ?_
  refine HT.plain ?_
  refine sMv rfl rfl ?_
  refine sMv rfl rfl ?_
  refine sl_ (l_callX7 (vs := [(.string ⟨#[103, 101, 110, 101, 118, 101]⟩), (.slice A n c)]) (Kc := []) (Bc := [Byt A n c bs]) [] [0] [Byt A n c bs] (fun b7 A5 c5 AQ cQ be de => [⟨b4, 29, [some (.slice none 0 0), some (.slice none 0 0), some (.slice none 0 0), some (.slice none 0 0)], true⟩, ⟨b7, 117, [some (.slice (cutA A5 c5 0) ((vof bs N) - 0) (c5 - 0)), some (.slice (cutA A5 c5 (vof bs N)) (n - (vof bs N)) (c5 - (vof bs N))), some (.int .u8 (((nb bs 0) / 128 : Nat) : Int)), some (.int .u8 (((nb bs 0) * 4 : Nat) : Int)), some (.bool (decide (0 < (nb bs 1) &&& 128))), some (.bool (decide (0 < (nb bs 1) &&& 64))), some (.int .u16 ((bN bs 2 2 : Nat) : Int)), some (.int .u32 ((bN bs 4 3 : Nat) : Int)), some (.slice AQ N cQ)], true⟩]) (fun b7 A5 c5 AQ cQ be de => [Byt A n c bs, Byt A5 n c5 bs, Cel AQ N cQ 1 (rowX (ptrs be) N), GF be de (fun j d => [.int .u16 ((bN bs (vof bs j) 2 : Nat) : Int), .int .u8 ((nb bs (vof bs j + 2) : Nat) : Int), .int .u8 ((nb bs (vof bs j + 3) / 16 : Nat) : Int), .int .u8 (((nb bs (vof bs j + 3) % 16) * 4 + 4 : Nat) : Int), .slice (some ⟨d, 0, none⟩) ((nb bs (vof bs j + 3) % 16) * 4 + 4 - 4) ((nb bs (vof bs j + 3) % 16) * 4 + 4 - 4)]) (fun j => (nb bs (vof bs j + 3) % 16) * 4 + 4 - 4) (fun j => sl bs (vof bs j + 4) (vof bs j + ((nb bs (vof bs j + 3) % 16) * 4 + 4))) N]) (by decide) rfl ca_46 (fun _ h => h) rfl rfl rfl rfl (fun w h => geneve_e6 w A n c bs N (by omega) (by omega) (by omega) (by omega) hd (by omega) h) (fun _ _ _ _ _ _ _ => rfl) (fun _ _ _ _ _ _ _ => rfl) (fun _ _ _ _ _ _ _ => rfl) (fun _ _ _ _ _ _ _ => rfl) fun b7 A5 c5 AQ cQ be de hf1 he2 => ?_)
  have hnc3 : n ≤ c5 := by obtain ⟨w, h⟩ := he2; exact (h _ List.mem_cons_self).2.1
  have hnc4 : N ≤ cQ := by obtain ⟨w, h⟩ := he2; exact (h _ (List.mem_cons_of_mem _ List.mem_cons_self)).2.1
  refine sMv rfl rfl ?_
  refine sqS (q_extract (vs := [(.iface 114 (.pointer (some ⟨b7, 0, none⟩))), (.bool true)]) (i := 0) rfl rfl) rfl ?_
  refine sqS (q_extract (vs := [(.iface 114 (.pointer (some ⟨b7, 0, none⟩))), (.bool true)]) (i := 1) rfl rfl) rfl ?_
  refine sAs rfl rfl ?_
  refine sAs rfl rfl ?_
  refine send ?_
  refine eseq ?_
  refine HT.seq ?_
  refine HT.seq ?_
  refine HT.plain ?_
  refine sMv rfl rfl ?_
  refine sqS (q_not rfl) rfl ?_
  refine send ?_
  refine eseq ?_
  refine HT.no rfl ?_
  refine HT.skip ?_
  refine eseq ?_
  refine HT.seq ?_
  refine HT.plain ?_
  refine sMv rfl rfl ?_
  refine sMv rfl rfl ?_
  refine sqS (q_invoke (vs := []) (v := (.slice (cutA A5 c5 (vof bs N)) (n - (vof bs N)) (c5 - (vof bs N)))) rfl (fun w => me_114_LayerPayload _ w) rfl ca_120 (fun w h => layPay0 w b7 117 _ _ _ (h.ro (j := 1) rfl))) rfl ?_
  refine sl_ (l_callLay (vs := [(.iface 114 (.pointer (some ⟨b7, 0, none⟩))), (.slice (cutA A5 c5 (vof bs N)) (n - (vof bs N)) (c5 - (vof bs N)))]) (tup := fun L => .tuple #[L.val, .bool true]) 1 (by decide) rfl ca_47 rfl (fun w h => geneve_t6 w A5 n c5 bs N b7 AQ cQ be de (by omega) (by omega) (by omega) (by omega) hd (by omega) (h.ro2 (j := 1) rfl (bi := [1, 2, 3]) rfl)) fun L20 hfr hda hoL => ?_)
  refine sqS (q_extract (vs := [(.agg #[(L20.nums.val), (.slice L20.dA L20.dn L20.dc), (.slice L20.pA L20.pn L20.pc), (L20.pay.val)]), (.bool true)]) (i := 0) rfl rfl) rfl ?_
  refine sqS (q_extract (vs := [(.agg #[(L20.nums.val), (.slice L20.dA L20.dn L20.dc), (.slice L20.pA L20.pn L20.pc), (L20.pay.val)]), (.bool true)]) (i := 1) rfl rfl) rfl ?_
  refine sl_ (l_storeAgg (b := b4) (off := 0) (j := 0) (vs := [(L20.nums.val), (.slice L20.dA L20.dn L20.dc), (.slice L20.pA L20.pn L20.pc), (L20.pay.val)]) rfl rfl aggs_29 (by simp [Value.one1]) rfl rfl rfl (Nat.le_of_ble_eq_true rfl) ?_)
  refine sAs rfl rfl ?_
  refine send ?_
  refine eseq ?_
  refine HT.ret ?_
  exact fun a ha w' hw => fin_ ha (resc2 ha Tryz.results27 rfl (ld_ aggs_29 hw (j := 0) rfl rfl (vs := [(L20.nums.val), (.slice L20.dA L20.dn L20.dc), (.slice L20.pA L20.pn L20.pc), (L20.pay.val)]) rfl) rfl) ⟨L20, rfl, hw.pres, ⟨hw.fact (j := 4) rfl, fun i hi => (hfr i hi).elim .inl (fun h => .inl ((hf1 _ List.mem_cons_self) i h))⟩, hda⟩
end Go.Proofs.YtfkaafbeeegenaaGreat.Zed
