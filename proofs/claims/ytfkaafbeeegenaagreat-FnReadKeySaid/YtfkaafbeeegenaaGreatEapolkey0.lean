/- eapolkey: the reference -/
import Derived.Test.YtfkaafbeeegenaaGreatRead
import Derived.KernelRfl
namespace Go.Proofs.YtfkaafbeeegenaaGreat.Zed
set_option linter.unusedVariables false
set_option linter.unusedSimpArgs false
set_option maxRecDepth 100000
set_option maxHeartbeats 4000000
theorem zero_39 : (Tryz.prog.info? 39).bind (·.zero) = some (.int .u64 ((0 : Nat) : Int)) := by kernel_rfl
theorem ca_53 : callable Tryz.prog 53 = true := by kernel_rfl
theorem ca_37 : callable Tryz.prog 37 = true := by kernel_rfl
theorem me_199_SetTruncated : ∀ (b : Nat) (w : World), (method (Tryz.prog.types.size + Made.depth) 199 (.pointer (some ⟨b, 0, none⟩)) "SetTruncated").run Tryz.prog w = .ok (167, .pointer (some ⟨b, 0, none⟩)) w := fun b w => by kernel_rfl
theorem ca_167 : callable Tryz.prog 167 = true := by kernel_rfl
theorem me_99_DecodeFromBytes : ∀ (b : Nat) (w : World), (method (Tryz.prog.types.size + Made.depth) 99 (.pointer (some ⟨b, 0, none⟩)) "DecodeFromBytes").run Tryz.prog w = .ok (139, .pointer (some ⟨b, 0, none⟩)) w := fun b w => by kernel_rfl
theorem ca_139 : callable Tryz.prog 139 = true := by kernel_rfl
theorem ca_96 : callable Tryz.prog 96 = true := by kernel_rfl
theorem ca_76 : callable Tryz.prog 76 = true := by kernel_rfl
theorem fo_104_1 : foff Tryz.prog 104 1 = some 2 := by kernel_rfl
theorem nagg_100 : nagg Tryz.prog 100 = true := by kernel_rfl
theorem ca_91 : callable Tryz.prog 91 = true := by kernel_rfl
theorem fo_104_2 : foff Tryz.prog 104 2 = some 3 := by kernel_rfl
theorem nagg_101 : nagg Tryz.prog 101 = true := by kernel_rfl
theorem fo_104_3 : foff Tryz.prog 104 3 = some 4 := by kernel_rfl
theorem nagg_102 : nagg Tryz.prog 102 = true := by kernel_rfl
theorem fo_104_4 : foff Tryz.prog 104 4 = some 5 := by kernel_rfl
theorem fo_104_5 : foff Tryz.prog 104 5 = some 6 := by kernel_rfl
theorem fo_104_6 : foff Tryz.prog 104 6 = some 7 := by kernel_rfl
theorem fo_104_7 : foff Tryz.prog 104 7 = some 8 := by kernel_rfl
theorem fo_104_8 : foff Tryz.prog 104 8 = some 9 := by kernel_rfl
theorem fo_104_9 : foff Tryz.prog 104 9 = some 10 := by kernel_rfl
theorem fo_104_10 : foff Tryz.prog 104 10 = some 11 := by kernel_rfl
theorem fo_104_11 : foff Tryz.prog 104 11 = some 12 := by kernel_rfl
theorem fo_104_12 : foff Tryz.prog 104 12 = some 13 := by kernel_rfl
theorem fo_104_13 : foff Tryz.prog 104 13 = some 14 := by kernel_rfl
theorem nagg_70 : nagg Tryz.prog 70 = true := by kernel_rfl
theorem ca_102 : callable Tryz.prog 102 = true := by kernel_rfl
theorem fo_104_14 : foff Tryz.prog 104 14 = some 15 := by kernel_rfl
theorem fo_104_15 : foff Tryz.prog 104 15 = some 16 := by kernel_rfl
theorem fo_104_16 : foff Tryz.prog 104 16 = some 17 := by kernel_rfl
theorem fo_104_17 : foff Tryz.prog 104 17 = some 18 := by kernel_rfl
theorem fo_104_18 : foff Tryz.prog 104 18 = some 19 := by kernel_rfl
theorem fo_104_19 : foff Tryz.prog 104 19 = some 20 := by kernel_rfl
theorem fo_104_20 : foff Tryz.prog 104 20 = some 21 := by kernel_rfl
theorem fo_104_21 : foff Tryz.prog 104 21 = some 22 := by kernel_rfl
theorem fo_104_0 : foff Tryz.prog 104 0 = some 0 := by kernel_rfl
theorem aggs_68 : aggs Tryz.prog 68 = some 2 := by kernel_rfl
theorem me_99_LayerPayload : ∀ (b : Nat) (w : World), (method (Tryz.prog.types.size + Made.depth) 99 (.pointer (some ⟨b, 0, none⟩)) "LayerPayload").run Tryz.prog w = .ok (120, .pointer (some ⟨b, 0, none⟩)) w := fun b w => by kernel_rfl

theorem eapolkey_S0 (w : World) (A : Option Addr) (n : Nat) (c : Nat) (bs : List UInt8) (hn : n ≤ 2147483647) (ha : n < 95) (hst : St w [] [] [Byt A n c bs] w) : Calls Tryz.prog 26 #[(.string ⟨#[101, 97, 112, 111, 108, 107, 101, 121]⟩), (.slice A n c)] w (SP w (Byt A n c bs) (some none)) := by
  have hnc00 : n ≤ c := (hst.fact (j := 0) rfl).2.1
  refine enter (vs := [(.string ⟨#[101, 97, 112, 111, 108, 107, 101, 121]⟩), (.slice A n c)]) Tryz.func26 rfl rfl rfl hst ?_
  refine HT.seq ?_
  refine HT.plain ?_
  refine sl_ (l_alloc (by decide) zero_29 fun b4 => ?_)
  refine sq (St.closed _ _ _ _) (q_assign rfl) rfl ?_
  refine sq (St.closed _ _ _ _) (q_assign rfl) rfl ?_
  refine send ?_
  refine eseq ?_
  refine HT.seq ?_
  refine HT.plain ?_
  refine sl_ (l_makeMap (by decide) fun b13 => ?_)
  refine sl_ (l_insert (es := es0) (ck := 0) rfl rfl rfl Tryz.underlying36 Tryz.underlying9 fi0 ?_)
  refine sl_ (l_insert (es := es1) (ck := 1) rfl rfl rfl Tryz.underlying36 Tryz.underlying9 fi1 ?_)
  refine sl_ (l_insert (es := es2) (ck := 2) rfl rfl rfl Tryz.underlying36 Tryz.underlying9 fi2 ?_)
  refine sl_ (l_insert (es := es3) (ck := 3) rfl rfl rfl Tryz.underlying36 Tryz.underlying9 fi3 ?_)
  refine sl_ (l_insert (es := es4) (ck := 4) rfl rfl rfl Tryz.underlying36 Tryz.underlying9 fi4 ?_)
  refine sl_ (l_insert (es := es5) (ck := 5) rfl rfl rfl Tryz.underlying36 Tryz.underlying9 fi5 ?_)
  refine sl_ (l_insert (es := es6) (ck := 6) rfl rfl rfl Tryz.underlying36 Tryz.underlying9 fi6 ?_)
  refine sl_ (l_insert (es := es7) (ck := 7) rfl rfl rfl Tryz.underlying36 Tryz.underlying9 fi7 ?_)
  refine sl_ (l_insert (es := es8) (ck := 8) rfl rfl rfl Tryz.underlying36 Tryz.underlying9 fi8 ?_)
  refine sl_ (l_insert (es := es9) (ck := 9) rfl rfl rfl Tryz.underlying36 Tryz.underlying9 fi9 ?_)
  refine sl_ (l_insert (es := es10) (ck := 10) rfl rfl rfl Tryz.underlying36 Tryz.underlying9 fi10 ?_)
  refine sl_ (l_insert (es := es11) (ck := 11) rfl rfl rfl Tryz.underlying36 Tryz.underlying9 fi11 ?_)
  refine sl_ (l_insert (es := es12) (ck := 12) rfl rfl rfl Tryz.underlying36 Tryz.underlying9 fi12 ?_)
  refine sl_ (l_insert (es := es13) (ck := 13) rfl rfl rfl Tryz.underlying36 Tryz.underlying9 fi13 ?_)
  refine sl_ (l_insert (es := es14) (ck := 14) rfl rfl rfl Tryz.underlying36 Tryz.underlying9 fi14 ?_)
  refine sl_ (l_insert (es := es15) (ck := 15) rfl rfl rfl Tryz.underlying36 Tryz.underlying9 fi15 ?_)
  refine sl_ (l_insert (es := es16) (ck := 16) rfl rfl rfl Tryz.underlying36 Tryz.underlying9 fi16 ?_)
  refine sl_ (l_insert (es := es17) (ck := 17) rfl rfl rfl Tryz.underlying36 Tryz.underlying9 fi17 ?_)
  refine sl_ (l_insert (es := es18) (ck := 18) rfl rfl rfl Tryz.underlying36 Tryz.underlying9 fi18 ?_)
  refine sl_ (l_insert (es := es19) (ck := 19) rfl rfl rfl Tryz.underlying36 Tryz.underlying9 fi19 ?_)
  refine sl_ (l_insert (es := es20) (ck := 20) rfl rfl rfl Tryz.underlying36 Tryz.underlying9 fi20 ?_)
  refine sq (SM.closed) (q_move rfl) rfl ?_
  refine sq (SM.closed) (q_move rfl) rfl ?_
  refine sq (SM.closed) (q_lookup (es := es21) (i := 7) (v := (.int .i64 ((95 : Nat) : Int))) (fun _ h => h) rfl rfl Tryz.underlying36 Tryz.underlying9 (by kernel_rfl)) rfl ?_
  refine sq (SM.closed) (q_assign rfl) rfl ?_
  refine send ?_
  refine eseq ?_
  refine HT.unmap ?_
  refine HT.seq ?_
  refine HT.seq ?_
  refine HT.plain ?_
  refine sq (St.closed _ _ _ _) (q_move rfl) rfl ?_
  refine sq (St.closed _ _ _ _) (q_len (len := n) rfl Tryz.underlying22) rfl ?_
  refine sq (St.closed _ _ _ _) (q_move rfl) rfl ?_
  refine sq (St.closed _ _ _ _) (q_T (q_lt (p := n) (q := 95) rfl rfl) (by omega)) rfl ?_
  refine send ?_
  refine eseq ?_
  refine HT.yes rfl ?_
  refine HT.seq ?_
  refine HT.plain ?_
  refine sq (St.closed _ _ _ _) (q_build (vs := []) (v := (.agg #[(.slice none 0 0), (.slice none 0 0), (.slice none 0 0), (.slice none 0 0)])) rfl (fun _ => by kernel_rfl)) rfl ?_
  refine sl_ (l_storeAgg (b := b4) (off := 0) (j := 0) (vs := [(.slice none 0 0), (.slice none 0 0), (.slice none 0 0), (.slice none 0 0)]) rfl rfl aggs_29 (by simp [Value.one1]) rfl rfl rfl (Nat.le_of_ble_eq_true rfl) ?_)
  refine sq (St.closed _ _ _ _) (q_assign rfl) rfl ?_
  refine sq (St.closed _ _ _ _) (q_assign rfl) rfl ?_
  refine send ?_
  refine eseq ?_
  refine HT.ret ?_
  refine rt_then ?_
  exact fun a ha w' hw => fin_ ha (resc3 ha Tryz.results26 rfl (ld_ aggs_29 hw (j := 0) rfl rfl (vs := [(.slice none 0 0), (.slice none 0 0), (.slice none 0 0), (.slice none 0 0)]) rfl) rfl rfl) ⟨rfl, hw.pres⟩

theorem eapolkey_s1 (w : World) (A : Option Addr) (n : Nat) (c : Nat) (bs : List UInt8) (hn : n ≤ 2147483647) (ha : 95 ≤ n) (hb : n - 95 < bN bs 93 2) (hst : St w [] [] [Byt A n c bs] w) : Calls Tryz.prog 37 #[(.slice A n c)] w (fun e w' => e = .returned (.tuple #[(.agg #[(.slice none 0 0), (.slice none 0 0), (.slice none 0 0), (.slice none 0 0)]), (.bool false), (.bool true)]) ∧ Pres [] w w') := by
  have hnc00 : n ≤ c := (hst.fact (j := 0) rfl).2.1
  refine enter (vs := [(.slice A n c)]) Tryz.func37 rfl rfl rfl hst ?_
  refine HT.seq ?_
  refine HT.plain ?_
  refine sl_ (l_alloc (by decide) zero_29 fun b2 => ?_)
  refine sq (St.closed _ _ _ _) (q_assign rfl) rfl ?_
  refine sq (St.closed _ _ _ _) (q_assign rfl) rfl ?_
  refine send ?_
  refine eseq ?_
  refine HT.seq ?_
  refine HT.drawnS mixed (St.closed _ _ _ _) ?_
  refine dtake (f := 3) [0, 1, 2, 3, 4, 5, 6] (by kernel_rfl) (St.closed _ _ _ _) (fun _ h => h) (by kernel_rfl) ?_
  refine dq rfl (q_move rfl) ?_
  refine dq rfl (q_slice (lo := 1) (hi := 3) rfl Tryz.underlying22 nagg_5 (.inr ⟨_, _, rfl, rfl⟩) (.inr ⟨_, _, rfl, rfl⟩) (by omega) (by omega)) ?_
  refine dq rfl (q_call (vs := [(.slice (cutA A c 1) (3 - 1) (c - 1))]) (v := (.int .u64 ((bN bs 1 2 : Nat) : Int))) rfl ca_34 (fun w h => NumberC w A n c bs (lo := 1) (hi := 3) (h.fact (j := 0) rfl) (k := 2) rfl (by decide) (by omega) (by omega))) ?_
  refine dq rfl (q_move rfl) ?_
  refine dq rfl (q_slice (lo := 93) (hi := 95) rfl Tryz.underlying22 nagg_5 (.inr ⟨_, _, rfl, rfl⟩) (.inr ⟨_, _, rfl, rfl⟩) (by omega) (by omega)) ?_
  refine dq rfl (q_call (vs := [(.slice (cutA A c 93) (95 - 93) (c - 93))]) (v := (.int .u64 ((bN bs 93 2 : Nat) : Int))) rfl ca_34 (fun w h => NumberC w A n c bs (lo := 93) (hi := 95) (h.fact (j := 0) rfl) (k := 2) rfl (by decide) (by omega) (by omega))) ?_
  refine dq rfl (q_convn (p := bN bs 93 2) rfl Tryz.underlying39 Tryz.underlying3 (show bN bs 93 2 < 9223372036854775808 by have := bN_lt bs 93 2 65536 rfl; omega)) ?_
  refine QL.nil ?_
  refine RG.step1 7 (by kernel_rfl) ?_
  refine dop rfl (l_alloc (by decide) zero_39 fun b5 => ⟨(fun _ h => (h.wk [(0, [])] rfl)), ?_⟩)
  refine RG.step1 8 (by kernel_rfl) ?_
  refine dop rfl (l_store (b := b5) (off := 0) (j := 1) rfl rfl nagg_39 rfl rfl rfl rfl (dlt rfl) ⟨(fun _ h => (h.wk [(0, [])] rfl)), ?_⟩)
  refine dtake (f := 0) [9] (by kernel_rfl) (St.closed _ _ _ _) (fun _ h => (h.wk [(0, [])] rfl)) (by kernel_rfl) ?_
  refine dq rfl (q_assign rfl) ?_
  refine QL.nil ?_
  refine dend (by kernel_rfl) ?_
  refine eseq ?_
  refine HT.seq ?_
  refine HT.plain ?_
  refine sq (St.closed _ _ _ _) (q_func (vs := [(.pointer (some ⟨b5, 0, none⟩))]) rfl) rfl ?_
  refine sq (St.closed _ _ _ _) (q_assign rfl) rfl ?_
  refine send ?_
  refine eseq ?_
  refine HT.seq ?_
  refine HT.drawnS mixed (St.closed _ _ _ _) ?_
  refine dtake (f := 17) [0, 1, 2, 3, 4, 5, 6, 7, 8, 10, 11, 12, 13, 15, 17, 19, 21, 23, 25, 27, 29, 30, 32, 33, 35, 36, 38, 39, 41, 42] (by kernel_rfl) (St.closed _ _ _ _) (fun _ h => h) (by kernel_rfl) ?_
  refine dq rfl (q_move rfl) ?_
  refine dq rfl (q_slice (lo := 95) (hi := n) rfl Tryz.underlying22 nagg_5 (.inr ⟨_, _, rfl, rfl⟩) (.inl ⟨rfl, rfl⟩) (by omega) (by omega)) ?_
  refine dq rfl (q_move rfl) ?_
  refine dq rfl (q_index (i := 0) (j := 0) rfl rfl Tryz.underlying22 nagg_5 (fun _ h => h) rfl (by omega)) ?_
  refine dq rfl (q_byte (i := 0) (j := 0) rfl nagg_5 (fun _ h => h) rfl (by omega)) ?_
  refine dq rfl (q_convn (p := nb bs 0) rfl Tryz.underlying5 Tryz.underlying39 (show nb bs 0 < 18446744073709551616 by have := nb_lt bs 0; omega)) ?_
  refine dq rfl (q_load (b := b5) (off := 0) (j := 1) rfl nagg_39 (fun _ h => h) rfl rfl rfl) ?_
  refine dq rfl (q_and (p := bN bs 1 2) (q := 7) rfl rfl rfl (show bN bs 1 2 < 18446744073709551616 by have := bN_lt bs 1 2 65536 rfl; omega) (by decide)) ?_
  refine dq rfl (q_move rfl) ?_
  refine dq rfl (q_load (b := b5) (off := 0) (j := 1) rfl nagg_39 (fun _ h => h) rfl rfl rfl) ?_
  refine dq rfl (q_shr (p := bN bs 1 2) (e := 4) (N := 16) rfl rfl (by decide) rfl) ?_
  refine dq rfl (q_and (p := (bN bs 1 2) / 16) (q := 3) rfl rfl rfl (show (bN bs 1 2) / 16 < 18446744073709551616 by have := bN_lt bs 1 2 65536 rfl; omega) (by decide)) ?_
  refine dq rfl (q_move rfl) ?_
  refine dq rfl (q_move rfl) ?_
  refine dq rfl (q_move rfl) ?_
  refine dq rfl (q_move rfl) ?_
  refine dq rfl (q_move rfl) ?_
  refine dq rfl (q_move rfl) ?_
  refine dq rfl (q_move rfl) ?_
  refine dq rfl (q_move rfl) ?_
  refine dq rfl (q_move rfl) ?_
  refine dq rfl (q_slice (lo := 3) (hi := 5) rfl Tryz.underlying22 nagg_5 (.inr ⟨_, _, rfl, rfl⟩) (.inr ⟨_, _, rfl, rfl⟩) (by omega) (by omega)) ?_
  refine dq rfl (q_move rfl) ?_
  refine dq rfl (q_slice (lo := 5) (hi := 13) rfl Tryz.underlying22 nagg_5 (.inr ⟨_, _, rfl, rfl⟩) (.inr ⟨_, _, rfl, rfl⟩) (by omega) (by omega)) ?_
  refine dq rfl (q_move rfl) ?_
  refine dq rfl (q_slice (lo := 61) (hi := 69) rfl Tryz.underlying22 nagg_5 (.inr ⟨_, _, rfl, rfl⟩) (.inr ⟨_, _, rfl, rfl⟩) (by omega) (by omega)) ?_
  refine dq rfl (q_move rfl) ?_
  refine dq rfl (q_slice (lo := 69) (hi := 77) rfl Tryz.underlying22 nagg_5 (.inr ⟨_, _, rfl, rfl⟩) (.inr ⟨_, _, rfl, rfl⟩) (by omega) (by omega)) ?_
  refine dq rfl (q_move rfl) ?_
  refine dq rfl (q_convn (p := bN bs 93 2) rfl Tryz.underlying3 Tryz.underlying39 (show bN bs 93 2 < 18446744073709551616 by have := bN_lt bs 93 2 65536 rfl; omega)) ?_
  refine QL.nil ?_
  refine dtake (f := 4) [9, 14, 16, 18, 20, 22, 24, 26, 28, 31, 34, 37, 40] (by kernel_rfl) (St.closed _ _ _ _) (fun _ h => h) (by kernel_rfl) ?_
  refine dq rfl (q_callC (vs := [(.int .i64 ((3 : Nat) : Int))]) (v := (.int .u64 ((((bN bs 1 2) / 8) &&& 1 : Nat) : Int))) rfl rfl ca_53 (fun w h => keyBit w 3 8 b5 (bN bs 1 2) (by have := bN_lt bs 1 2 65536 rfl; omega) (by have := bN_lt bs 1 2 65536 rfl; omega) (by have := bN_lt bs 1 2 65536 rfl; omega) (by have := bN_lt bs 1 2 65536 rfl; omega) (h.ro (j := 1) rfl))) ?_
  refine dq rfl (q_callC (vs := [(.int .i64 ((6 : Nat) : Int))]) (v := (.int .u64 ((((bN bs 1 2) / 64) &&& 1 : Nat) : Int))) rfl rfl ca_53 (fun w h => keyBit w 6 64 b5 (bN bs 1 2) (by have := bN_lt bs 1 2 65536 rfl; omega) (by have := bN_lt bs 1 2 65536 rfl; omega) (by have := bN_lt bs 1 2 65536 rfl; omega) (by have := bN_lt bs 1 2 65536 rfl; omega) (h.ro (j := 1) rfl))) ?_
  refine dq rfl (q_callC (vs := [(.int .i64 ((7 : Nat) : Int))]) (v := (.int .u64 ((((bN bs 1 2) / 128) &&& 1 : Nat) : Int))) rfl rfl ca_53 (fun w h => keyBit w 7 128 b5 (bN bs 1 2) (by have := bN_lt bs 1 2 65536 rfl; omega) (by have := bN_lt bs 1 2 65536 rfl; omega) (by have := bN_lt bs 1 2 65536 rfl; omega) (by have := bN_lt bs 1 2 65536 rfl; omega) (h.ro (j := 1) rfl))) ?_
  refine dq rfl (q_callC (vs := [(.int .i64 ((8 : Nat) : Int))]) (v := (.int .u64 ((((bN bs 1 2) / 256) &&& 1 : Nat) : Int))) rfl rfl ca_53 (fun w h => keyBit w 8 256 b5 (bN bs 1 2) (by have := bN_lt bs 1 2 65536 rfl; omega) (by have := bN_lt bs 1 2 65536 rfl; omega) (by have := bN_lt bs 1 2 65536 rfl; omega) (by have := bN_lt bs 1 2 65536 rfl; omega) (h.ro (j := 1) rfl))) ?_
  refine dq rfl (q_callC (vs := [(.int .i64 ((9 : Nat) : Int))]) (v := (.int .u64 ((((bN bs 1 2) / 512) &&& 1 : Nat) : Int))) rfl rfl ca_53 (fun w h => keyBit w 9 512 b5 (bN bs 1 2) (by have := bN_lt bs 1 2 65536 rfl; omega) (by have := bN_lt bs 1 2 65536 rfl; omega) (by have := bN_lt bs 1 2 65536 rfl; omega) (by have := bN_lt bs 1 2 65536 rfl; omega) (h.ro (j := 1) rfl))) ?_
  refine dq rfl (q_callC (vs := [(.int .i64 ((10 : Nat) : Int))]) (v := (.int .u64 ((((bN bs 1 2) / 1024) &&& 1 : Nat) : Int))) rfl rfl ca_53 (fun w h => keyBit w 10 1024 b5 (bN bs 1 2) (by have := bN_lt bs 1 2 65536 rfl; omega) (by have := bN_lt bs 1 2 65536 rfl; omega) (by have := bN_lt bs 1 2 65536 rfl; omega) (by have := bN_lt bs 1 2 65536 rfl; omega) (h.ro (j := 1) rfl))) ?_
  refine dq rfl (q_callC (vs := [(.int .i64 ((11 : Nat) : Int))]) (v := (.int .u64 ((((bN bs 1 2) / 2048) &&& 1 : Nat) : Int))) rfl rfl ca_53 (fun w h => keyBit w 11 2048 b5 (bN bs 1 2) (by have := bN_lt bs 1 2 65536 rfl; omega) (by have := bN_lt bs 1 2 65536 rfl; omega) (by have := bN_lt bs 1 2 65536 rfl; omega) (by have := bN_lt bs 1 2 65536 rfl; omega) (h.ro (j := 1) rfl))) ?_
  refine dq rfl (q_callC (vs := [(.int .i64 ((12 : Nat) : Int))]) (v := (.int .u64 ((((bN bs 1 2) / 4096) &&& 1 : Nat) : Int))) rfl rfl ca_53 (fun w h => keyBit w 12 4096 b5 (bN bs 1 2) (by have := bN_lt bs 1 2 65536 rfl; omega) (by have := bN_lt bs 1 2 65536 rfl; omega) (by have := bN_lt bs 1 2 65536 rfl; omega) (by have := bN_lt bs 1 2 65536 rfl; omega) (h.ro (j := 1) rfl))) ?_
  refine dq rfl (q_callC (vs := [(.int .i64 ((13 : Nat) : Int))]) (v := (.int .u64 ((((bN bs 1 2) / 8192) &&& 1 : Nat) : Int))) rfl rfl ca_53 (fun w h => keyBit w 13 8192 b5 (bN bs 1 2) (by have := bN_lt bs 1 2 65536 rfl; omega) (by have := bN_lt bs 1 2 65536 rfl; omega) (by have := bN_lt bs 1 2 65536 rfl; omega) (by have := bN_lt bs 1 2 65536 rfl; omega) (h.ro (j := 1) rfl))) ?_
  refine dq rfl (q_call (vs := [(.slice (cutA A c 3) (5 - 3) (c - 3))]) (v := (.int .u64 ((bN bs 3 2 : Nat) : Int))) rfl ca_34 (fun w h => NumberC w A n c bs (lo := 3) (hi := 5) (h.fact (j := 0) rfl) (k := 2) rfl (by decide) (by omega) (by omega))) ?_
  refine dq rfl (q_call (vs := [(.slice (cutA A c 5) (13 - 5) (c - 5))]) (v := (.int .u64 ((bN bs 5 8 : Nat) : Int))) rfl ca_34 (fun w h => NumberC w A n c bs (lo := 5) (hi := 13) (h.fact (j := 0) rfl) (k := 8) rfl (by decide) (by omega) (by omega))) ?_
  refine dq rfl (q_call (vs := [(.slice (cutA A c 61) (69 - 61) (c - 61))]) (v := (.int .u64 ((bN bs 61 8 : Nat) : Int))) rfl ca_34 (fun w h => NumberC w A n c bs (lo := 61) (hi := 69) (h.fact (j := 0) rfl) (k := 8) rfl (by decide) (by omega) (by omega))) ?_
  refine dq rfl (q_call (vs := [(.slice (cutA A c 69) (77 - 69) (c - 69))]) (v := (.int .u64 ((bN bs 69 8 : Nat) : Int))) rfl ca_34 (fun w h => NumberC w A n c bs (lo := 69) (hi := 77) (h.fact (j := 0) rfl) (k := 8) rfl (by decide) (by omega) (by omega))) ?_
  refine QL.nil ?_
  refine RG.step2 43 45 (by kernel_rfl) ?_ ?_
  · refine dop rfl (l_buildSlice (e := 39) (vs := [(0, (.int .u64 ((nb bs 0 : Nat) : Int))), (1, (.int .u64 (((bN bs 1 2) &&& 7 : Nat) : Int))), (2, (.int .u64 ((((bN bs 1 2) / 8) &&& 1 : Nat) : Int))), (3, (.int .u64 ((((bN bs 1 2) / 16) &&& 3 : Nat) : Int))), (4, (.int .u64 ((((bN bs 1 2) / 64) &&& 1 : Nat) : Int))), (5, (.int .u64 ((((bN bs 1 2) / 128) &&& 1 : Nat) : Int))), (6, (.int .u64 ((((bN bs 1 2) / 256) &&& 1 : Nat) : Int))), (7, (.int .u64 ((((bN bs 1 2) / 512) &&& 1 : Nat) : Int))), (8, (.int .u64 ((((bN bs 1 2) / 1024) &&& 1 : Nat) : Int))), (9, (.int .u64 ((((bN bs 1 2) / 2048) &&& 1 : Nat) : Int))), (10, (.int .u64 ((((bN bs 1 2) / 4096) &&& 1 : Nat) : Int))), (11, (.int .u64 ((((bN bs 1 2) / 8192) &&& 1 : Nat) : Int))), (12, (.int .u64 ((bN bs 3 2 : Nat) : Int))), (13, (.int .u64 ((bN bs 5 8 : Nat) : Int))), (14, (.int .u64 ((bN bs 61 8 : Nat) : Int))), (15, (.int .u64 ((bN bs 69 8 : Nat) : Int))), (16, (.int .u64 ((bN bs 93 2 : Nat) : Int)))]) (cs := [(.int .u64 ((nb bs 0 : Nat) : Int)), (.int .u64 (((bN bs 1 2) &&& 7 : Nat) : Int)), (.int .u64 ((((bN bs 1 2) / 8) &&& 1 : Nat) : Int)), (.int .u64 ((((bN bs 1 2) / 16) &&& 3 : Nat) : Int)), (.int .u64 ((((bN bs 1 2) / 64) &&& 1 : Nat) : Int)), (.int .u64 ((((bN bs 1 2) / 128) &&& 1 : Nat) : Int)), (.int .u64 ((((bN bs 1 2) / 256) &&& 1 : Nat) : Int)), (.int .u64 ((((bN bs 1 2) / 512) &&& 1 : Nat) : Int)), (.int .u64 ((((bN bs 1 2) / 1024) &&& 1 : Nat) : Int)), (.int .u64 ((((bN bs 1 2) / 2048) &&& 1 : Nat) : Int)), (.int .u64 ((((bN bs 1 2) / 4096) &&& 1 : Nat) : Int)), (.int .u64 ((((bN bs 1 2) / 8192) &&& 1 : Nat) : Int)), (.int .u64 ((bN bs 3 2 : Nat) : Int)), (.int .u64 ((bN bs 5 8 : Nat) : Int)), (.int .u64 ((bN bs 61 8 : Nat) : Int)), (.int .u64 ((bN bs 69 8 : Nat) : Int)), (.int .u64 ((bN bs 93 2 : Nat) : Int))]) (by decide) rfl (fun _ => by kernel_rfl) fun b60 => ⟨(fun _ h => (h.wk [(0, []), (1, [])] rfl)), ?_⟩)
    refine dtake (f := 2) [44] (by kernel_rfl) (St.closed _ _ _ _) (fun _ h => (h.wk [(0, []), (1, [])] rfl)) (by kernel_rfl) ?_
    refine dq rfl (q_call (vs := [(.slice (cutA A c 95) (n - 95) (c - 95)), (.slice (some ⟨b60, 0, none⟩) 17 17)]) (v := (.agg #[(.slice (some ⟨b60, 0, none⟩) 17 17), (.slice none 0 0), (.slice none 0 0), (.slice (cutA A c 95) (n - 95) (c - 95))])) rfl ca_33 (fun w h => layerC w (cutA A c 95) (n - 95) (c - 95) (some ⟨b60, 0, none⟩) 17 17  (St.enter (sp := []) (Kc := []) (bi := []) h rfl rfl rfl))) ?_
    refine QL.nil ?_
    refine RG.step1 45 (by kernel_rfl) ?_
    refine dop rfl (l_alloc (by decide) zero_29 fun b8 => ⟨(fun _ h => (h.wk [(0, []), (1, [])] rfl)), ?_⟩)
    refine RG.step1 46 (by kernel_rfl) ?_
    refine dop rfl (l_storeAgg (b := b8) (off := 0) (j := 3) (vs := [(.slice (some ⟨b60, 0, none⟩) 17 17), (.slice none 0 0), (.slice none 0 0), (.slice (cutA A c 95) (n - 95) (c - 95))]) rfl rfl aggs_29 (by simp [Value.one1]) rfl rfl rfl (Nat.le_of_ble_eq_true rfl) ⟨(fun _ h => (h.wk [(0, []), (1, [])] rfl)), ?_⟩)
    refine dend (by kernel_rfl) ?_
    refine eseq ?_
    refine HT.seq ?_
    refine HT.drawn mixed (St.closed _ _ _ _) (St w [] [⟨b2, 29, [some (.slice none 0 0), some (.slice none 0 0), some (.slice none 0 0), some (.slice none 0 0)], true⟩, ⟨b5, 39, [some (.int .u64 ((bN bs 1 2 : Nat) : Int))], true⟩, ⟨b60, 39, [some (.int .u64 ((nb bs 0 : Nat) : Int)), none, some (.int .u64 ((((bN bs 1 2) / 8) &&& 1 : Nat) : Int)), some (.int .u64 ((((bN bs 1 2) / 16) &&& 3 : Nat) : Int)), some (.int .u64 ((((bN bs 1 2) / 64) &&& 1 : Nat) : Int)), some (.int .u64 ((((bN bs 1 2) / 128) &&& 1 : Nat) : Int)), some (.int .u64 ((((bN bs 1 2) / 256) &&& 1 : Nat) : Int)), some (.int .u64 ((((bN bs 1 2) / 512) &&& 1 : Nat) : Int)), some (.int .u64 ((((bN bs 1 2) / 1024) &&& 1 : Nat) : Int)), some (.int .u64 ((((bN bs 1 2) / 2048) &&& 1 : Nat) : Int)), some (.int .u64 ((((bN bs 1 2) / 4096) &&& 1 : Nat) : Int)), some (.int .u64 ((((bN bs 1 2) / 8192) &&& 1 : Nat) : Int)), some (.int .u64 ((bN bs 3 2 : Nat) : Int)), some (.int .u64 ((bN bs 5 8 : Nat) : Int)), some (.int .u64 ((bN bs 61 8 : Nat) : Int)), some (.int .u64 ((bN bs 69 8 : Nat) : Int)), some (.int .u64 ((bN bs 93 2 : Nat) : Int))], true⟩, ⟨b8, 29, [some (.slice (some ⟨b60, 0, none⟩) 17 17), none, some (.slice none 0 0), some (.slice (cutA A c 95) (n - 95) (c - 95))], true⟩] [Byt A n c bs]) ?_
    refine dtake (f := 3) [0, 1, 2, 3, 4, 5] (by kernel_rfl) (St.closed _ _ _ _) (fun _ h => (h.wk [(0, []), (1, []), (2, [1]), (3, [1])] rfl)) (by kernel_rfl) ?_
    refine dq rfl (q_move rfl) ?_
    refine dq rfl (q_slice (lo := 13) (hi := 45) rfl Tryz.underlying22 nagg_5 (.inr ⟨_, _, rfl, rfl⟩) (.inr ⟨_, _, rfl, rfl⟩) (by omega) (by omega)) ?_
    refine dq rfl (q_move rfl) ?_
    refine dq rfl (q_slice (lo := 45) (hi := 61) rfl Tryz.underlying22 nagg_5 (.inr ⟨_, _, rfl, rfl⟩) (.inr ⟨_, _, rfl, rfl⟩) (by omega) (by omega)) ?_
    refine dq rfl (q_move rfl) ?_
    refine dq rfl (q_slice (lo := 77) (hi := 93) rfl Tryz.underlying22 nagg_5 (.inr ⟨_, _, rfl, rfl⟩) (.inr ⟨_, _, rfl, rfl⟩) (by omega) (by omega)) ?_
    refine QL.nil ?_
    refine RG.step1 6 (by kernel_rfl) ?_
    refine dop rfl (l_buildSlice (e := 22) (vs := [(0, (.slice (cutA A c 13) (45 - 13) (c - 13))), (1, (.slice (cutA A c 45) (61 - 45) (c - 45))), (2, (.slice (cutA A c 77) (93 - 77) (c - 77))), (3, (.slice none 0 0))]) (cs := [(.slice (cutA A c 13) (45 - 13) (c - 13)), (.slice (cutA A c 45) (61 - 45) (c - 45)), (.slice (cutA A c 77) (93 - 77) (c - 77)), (.slice none 0 0)]) (by decide) rfl (fun _ => by kernel_rfl) fun b68 => ⟨(fun _ h => (h.wk [(0, []), (1, []), (2, [1]), (3, [1])] rfl)), ?_⟩)
    refine dtake (f := 1) [7] (by kernel_rfl) (St.closed _ _ _ _) (fun _ h => (h.wk [(0, []), (1, []), (2, [1]), (3, [1])] rfl)) (by kernel_rfl) ?_
    refine dq rfl (q_field (b := b8) (off := 0) rfl fo_29_1) ?_
    refine QL.nil ?_
    refine RG.step1 8 (by kernel_rfl) ?_
    refine dop rfl (l_store (b := b8) (off := 1) (j := 3) rfl rfl nagg_26 rfl rfl rfl rfl (dlt rfl) ⟨(fun _ h => (h.wk [(0, []), (1, []), (2, [1]), (3, [1])] rfl)), ?_⟩)
    refine dend (by kernel_rfl) ?_
    refine eseq ?_
    refine HT.seq ?_
    refine HT.seq ?_
    refine HT.plain ?_
    refine sq (St.closed _ _ _ _) (q_move rfl) rfl ?_
    refine sq (St.closed _ _ _ _) (q_move rfl) rfl ?_
    refine sq (St.closed _ _ _ _) (q_len (len := n) rfl Tryz.underlying22) rfl ?_
    refine sq (St.closed _ _ _ _) (q_sub (p := n) (q := 95) rfl rfl (by omega) (show n < 9223372036854775808 by omega)) rfl ?_
    refine sq (St.closed _ _ _ _) (q_T (q_gt (p := bN bs 93 2) (q := n - 95) rfl rfl) (by have := bN_lt bs 93 2 65536 rfl; omega)) rfl ?_
    refine send ?_
    refine eseq ?_
    refine HT.yes rfl ?_
    refine HT.seq ?_
    refine HT.plain ?_
    refine sq (St.closed _ _ _ _) (q_build (vs := []) (v := (.agg #[(.slice none 0 0), (.slice none 0 0), (.slice none 0 0), (.slice none 0 0)])) rfl (fun _ => by kernel_rfl)) rfl ?_
    refine sl_ (l_storeAgg (b := b2) (off := 0) (j := 0) (vs := [(.slice none 0 0), (.slice none 0 0), (.slice none 0 0), (.slice none 0 0)]) rfl rfl aggs_29 (by simp [Value.one1]) rfl rfl rfl (Nat.le_of_ble_eq_true rfl) ?_)
    refine sq (St.closed _ _ _ _) (q_assign rfl) rfl ?_
    refine sq (St.closed _ _ _ _) (q_assign rfl) rfl ?_
    refine send ?_
    refine eseq ?_
    refine HT.ret ?_
    refine rt_then ?_
    exact fun a ha w' hw => fin_ ha (resc3 ha Tryz.results37 rfl (ld_ aggs_29 hw (j := 0) rfl rfl (vs := [(.slice none 0 0), (.slice none 0 0), (.slice none 0 0), (.slice none 0 0)]) rfl) rfl rfl) ⟨rfl, hw.pres⟩
  · refine dop rfl (l_alloc (by decide) zero_29 fun b8 => ⟨(fun _ h => (h.wk [(0, []), (1, [])] rfl)), ?_⟩)
    refine RG.step1 43 (by kernel_rfl) ?_
    refine dop rfl (l_buildSlice (e := 39) (vs := [(0, (.int .u64 ((nb bs 0 : Nat) : Int))), (1, (.int .u64 (((bN bs 1 2) &&& 7 : Nat) : Int))), (2, (.int .u64 ((((bN bs 1 2) / 8) &&& 1 : Nat) : Int))), (3, (.int .u64 ((((bN bs 1 2) / 16) &&& 3 : Nat) : Int))), (4, (.int .u64 ((((bN bs 1 2) / 64) &&& 1 : Nat) : Int))), (5, (.int .u64 ((((bN bs 1 2) / 128) &&& 1 : Nat) : Int))), (6, (.int .u64 ((((bN bs 1 2) / 256) &&& 1 : Nat) : Int))), (7, (.int .u64 ((((bN bs 1 2) / 512) &&& 1 : Nat) : Int))), (8, (.int .u64 ((((bN bs 1 2) / 1024) &&& 1 : Nat) : Int))), (9, (.int .u64 ((((bN bs 1 2) / 2048) &&& 1 : Nat) : Int))), (10, (.int .u64 ((((bN bs 1 2) / 4096) &&& 1 : Nat) : Int))), (11, (.int .u64 ((((bN bs 1 2) / 8192) &&& 1 : Nat) : Int))), (12, (.int .u64 ((bN bs 3 2 : Nat) : Int))), (13, (.int .u64 ((bN bs 5 8 : Nat) : Int))), (14, (.int .u64 ((bN bs 61 8 : Nat) : Int))), (15, (.int .u64 ((bN bs 69 8 : Nat) : Int))), (16, (.int .u64 ((bN bs 93 2 : Nat) : Int)))]) (cs := [(.int .u64 ((nb bs 0 : Nat) : Int)), (.int .u64 (((bN bs 1 2) &&& 7 : Nat) : Int)), (.int .u64 ((((bN bs 1 2) / 8) &&& 1 : Nat) : Int)), (.int .u64 ((((bN bs 1 2) / 16) &&& 3 : Nat) : Int)), (.int .u64 ((((bN bs 1 2) / 64) &&& 1 : Nat) : Int)), (.int .u64 ((((bN bs 1 2) / 128) &&& 1 : Nat) : Int)), (.int .u64 ((((bN bs 1 2) / 256) &&& 1 : Nat) : Int)), (.int .u64 ((((bN bs 1 2) / 512) &&& 1 : Nat) : Int)), (.int .u64 ((((bN bs 1 2) / 1024) &&& 1 : Nat) : Int)), (.int .u64 ((((bN bs 1 2) / 2048) &&& 1 : Nat) : Int)), (.int .u64 ((((bN bs 1 2) / 4096) &&& 1 : Nat) : Int)), (.int .u64 ((((bN bs 1 2) / 8192) &&& 1 : Nat) : Int)), (.int .u64 ((bN bs 3 2 : Nat) : Int)), (.int .u64 ((bN bs 5 8 : Nat) : Int)), (.int .u64 ((bN bs 61 8 : Nat) : Int)), (.int .u64 ((bN bs 69 8 : Nat) : Int)), (.int .u64 ((bN bs 93 2 : Nat) : Int))]) (by decide) rfl (fun _ => by kernel_rfl) fun b60 => ⟨(fun _ h => (h.wk [(0, []), (1, [])] rfl)), ?_⟩)
    refine dtake (f := 1) [44] (by kernel_rfl) (St.closed _ _ _ _) (fun _ h => (h.wk [(0, []), (1, [])] rfl)) (by kernel_rfl) ?_
    refine dq rfl (q_call (vs := [(.slice (cutA A c 95) (n - 95) (c - 95)), (.slice (some ⟨b60, 0, none⟩) 17 17)]) (v := (.agg #[(.slice (some ⟨b60, 0, none⟩) 17 17), (.slice none 0 0), (.slice none 0 0), (.slice (cutA A c 95) (n - 95) (c - 95))])) rfl ca_33 (fun w h => layerC w (cutA A c 95) (n - 95) (c - 95) (some ⟨b60, 0, none⟩) 17 17  (St.enter (sp := []) (Kc := []) (bi := []) h rfl rfl rfl))) ?_
    refine QL.nil ?_
    refine RG.step1 46 (by kernel_rfl) ?_
    refine dop rfl (l_storeAgg (b := b8) (off := 0) (j := 2) (vs := [(.slice (some ⟨b60, 0, none⟩) 17 17), (.slice none 0 0), (.slice none 0 0), (.slice (cutA A c 95) (n - 95) (c - 95))]) rfl rfl aggs_29 (by simp [Value.one1]) rfl rfl rfl (Nat.le_of_ble_eq_true rfl) ⟨(fun _ h => (h.wk [(0, []), (1, [])] rfl)), ?_⟩)
    refine dend (by kernel_rfl) ?_
    refine eseq ?_
    refine HT.seq ?_
    refine HT.drawn mixed (St.closed _ _ _ _) (St w [] [⟨b2, 29, [some (.slice none 0 0), some (.slice none 0 0), some (.slice none 0 0), some (.slice none 0 0)], true⟩, ⟨b5, 39, [some (.int .u64 ((bN bs 1 2 : Nat) : Int))], true⟩, ⟨b8, 29, [some (.slice (some ⟨b60, 0, none⟩) 17 17), none, some (.slice none 0 0), some (.slice (cutA A c 95) (n - 95) (c - 95))], true⟩, ⟨b60, 39, [some (.int .u64 ((nb bs 0 : Nat) : Int)), none, some (.int .u64 ((((bN bs 1 2) / 8) &&& 1 : Nat) : Int)), some (.int .u64 ((((bN bs 1 2) / 16) &&& 3 : Nat) : Int)), some (.int .u64 ((((bN bs 1 2) / 64) &&& 1 : Nat) : Int)), some (.int .u64 ((((bN bs 1 2) / 128) &&& 1 : Nat) : Int)), some (.int .u64 ((((bN bs 1 2) / 256) &&& 1 : Nat) : Int)), some (.int .u64 ((((bN bs 1 2) / 512) &&& 1 : Nat) : Int)), some (.int .u64 ((((bN bs 1 2) / 1024) &&& 1 : Nat) : Int)), some (.int .u64 ((((bN bs 1 2) / 2048) &&& 1 : Nat) : Int)), some (.int .u64 ((((bN bs 1 2) / 4096) &&& 1 : Nat) : Int)), some (.int .u64 ((((bN bs 1 2) / 8192) &&& 1 : Nat) : Int)), some (.int .u64 ((bN bs 3 2 : Nat) : Int)), some (.int .u64 ((bN bs 5 8 : Nat) : Int)), some (.int .u64 ((bN bs 61 8 : Nat) : Int)), some (.int .u64 ((bN bs 69 8 : Nat) : Int)), some (.int .u64 ((bN bs 93 2 : Nat) : Int))], true⟩] [Byt A n c bs]) ?_
    refine dtake (f := 3) [0, 1, 2, 3, 4, 5] (by kernel_rfl) (St.closed _ _ _ _) (fun _ h => (h.wk [(0, []), (1, []), (2, [1]), (3, [1])] rfl)) (by kernel_rfl) ?_
    refine dq rfl (q_move rfl) ?_
    refine dq rfl (q_slice (lo := 13) (hi := 45) rfl Tryz.underlying22 nagg_5 (.inr ⟨_, _, rfl, rfl⟩) (.inr ⟨_, _, rfl, rfl⟩) (by omega) (by omega)) ?_
    refine dq rfl (q_move rfl) ?_
    refine dq rfl (q_slice (lo := 45) (hi := 61) rfl Tryz.underlying22 nagg_5 (.inr ⟨_, _, rfl, rfl⟩) (.inr ⟨_, _, rfl, rfl⟩) (by omega) (by omega)) ?_
    refine dq rfl (q_move rfl) ?_
    refine dq rfl (q_slice (lo := 77) (hi := 93) rfl Tryz.underlying22 nagg_5 (.inr ⟨_, _, rfl, rfl⟩) (.inr ⟨_, _, rfl, rfl⟩) (by omega) (by omega)) ?_
    refine QL.nil ?_
    refine RG.step1 6 (by kernel_rfl) ?_
    refine dop rfl (l_buildSlice (e := 22) (vs := [(0, (.slice (cutA A c 13) (45 - 13) (c - 13))), (1, (.slice (cutA A c 45) (61 - 45) (c - 45))), (2, (.slice (cutA A c 77) (93 - 77) (c - 77))), (3, (.slice none 0 0))]) (cs := [(.slice (cutA A c 13) (45 - 13) (c - 13)), (.slice (cutA A c 45) (61 - 45) (c - 45)), (.slice (cutA A c 77) (93 - 77) (c - 77)), (.slice none 0 0)]) (by decide) rfl (fun _ => by kernel_rfl) fun b68 => ⟨(fun _ h => (h.wk [(0, []), (1, []), (2, [1]), (3, [1])] rfl)), ?_⟩)
    refine dtake (f := 1) [7] (by kernel_rfl) (St.closed _ _ _ _) (fun _ h => (h.wk [(0, []), (1, []), (2, [1]), (3, [1])] rfl)) (by kernel_rfl) ?_
    refine dq rfl (q_field (b := b8) (off := 0) rfl fo_29_1) ?_
    refine QL.nil ?_
    refine RG.step1 8 (by kernel_rfl) ?_
    refine dop rfl (l_store (b := b8) (off := 1) (j := 2) rfl rfl nagg_26 rfl rfl rfl rfl (dlt rfl) ⟨(fun _ h => (h.wk [(0, []), (1, []), (2, [1]), (3, [1])] rfl)), ?_⟩)
    refine dend (by kernel_rfl) ?_
    refine eseq ?_
    refine HT.seq ?_
    refine HT.seq ?_
    refine HT.plain ?_
    refine sq (St.closed _ _ _ _) (q_move rfl) rfl ?_
    refine sq (St.closed _ _ _ _) (q_move rfl) rfl ?_
    refine sq (St.closed _ _ _ _) (q_len (len := n) rfl Tryz.underlying22) rfl ?_
    refine sq (St.closed _ _ _ _) (q_sub (p := n) (q := 95) rfl rfl (by omega) (show n < 9223372036854775808 by omega)) rfl ?_
    refine sq (St.closed _ _ _ _) (q_T (q_gt (p := bN bs 93 2) (q := n - 95) rfl rfl) (by have := bN_lt bs 93 2 65536 rfl; omega)) rfl ?_
    refine send ?_
    refine eseq ?_
    refine HT.yes rfl ?_
    refine HT.seq ?_
    refine HT.plain ?_
    refine sq (St.closed _ _ _ _) (q_build (vs := []) (v := (.agg #[(.slice none 0 0), (.slice none 0 0), (.slice none 0 0), (.slice none 0 0)])) rfl (fun _ => by kernel_rfl)) rfl ?_
    refine sl_ (l_storeAgg (b := b2) (off := 0) (j := 0) (vs := [(.slice none 0 0), (.slice none 0 0), (.slice none 0 0), (.slice none 0 0)]) rfl rfl aggs_29 (by simp [Value.one1]) rfl rfl rfl (Nat.le_of_ble_eq_true rfl) ?_)
    refine sq (St.closed _ _ _ _) (q_assign rfl) rfl ?_
    refine sq (St.closed _ _ _ _) (q_assign rfl) rfl ?_
    refine send ?_
    refine eseq ?_
    refine HT.ret ?_
    refine rt_then ?_
    exact fun a ha w' hw => fin_ ha (resc3 ha Tryz.results37 rfl (ld_ aggs_29 hw (j := 0) rfl rfl (vs := [(.slice none 0 0), (.slice none 0 0), (.slice none 0 0), (.slice none 0 0)]) rfl) rfl rfl) ⟨rfl, hw.pres⟩

theorem eapolkey_S1 (w : World) (A : Option Addr) (n : Nat) (c : Nat) (bs : List UInt8) (hn : n ≤ 2147483647) (ha : 95 ≤ n) (hb : n - 95 < bN bs 93 2) (hst : St w [] [] [Byt A n c bs] w) : Calls Tryz.prog 26 #[(.string ⟨#[101, 97, 112, 111, 108, 107, 101, 121]⟩), (.slice A n c)] w (SP w (Byt A n c bs) (some none)) := by
  have hnc00 : n ≤ c := (hst.fact (j := 0) rfl).2.1
  refine enter (vs := [(.string ⟨#[101, 97, 112, 111, 108, 107, 101, 121]⟩), (.slice A n c)]) Tryz.func26 rfl rfl rfl hst ?_
  refine HT.seq ?_
  refine HT.plain ?_
  refine sl_ (l_alloc (by decide) zero_29 fun b4 => ?_)
  refine sq (St.closed _ _ _ _) (q_assign rfl) rfl ?_
  refine sq (St.closed _ _ _ _) (q_assign rfl) rfl ?_
  refine send ?_
  refine eseq ?_
  refine HT.seq ?_
  refine HT.plain ?_
  refine sl_ (l_makeMap (by decide) fun b13 => ?_)
  refine sl_ (l_insert (es := es0) (ck := 0) rfl rfl rfl Tryz.underlying36 Tryz.underlying9 fi0 ?_)
  refine sl_ (l_insert (es := es1) (ck := 1) rfl rfl rfl Tryz.underlying36 Tryz.underlying9 fi1 ?_)
  refine sl_ (l_insert (es := es2) (ck := 2) rfl rfl rfl Tryz.underlying36 Tryz.underlying9 fi2 ?_)
  refine sl_ (l_insert (es := es3) (ck := 3) rfl rfl rfl Tryz.underlying36 Tryz.underlying9 fi3 ?_)
  refine sl_ (l_insert (es := es4) (ck := 4) rfl rfl rfl Tryz.underlying36 Tryz.underlying9 fi4 ?_)
  refine sl_ (l_insert (es := es5) (ck := 5) rfl rfl rfl Tryz.underlying36 Tryz.underlying9 fi5 ?_)
  refine sl_ (l_insert (es := es6) (ck := 6) rfl rfl rfl Tryz.underlying36 Tryz.underlying9 fi6 ?_)
  refine sl_ (l_insert (es := es7) (ck := 7) rfl rfl rfl Tryz.underlying36 Tryz.underlying9 fi7 ?_)
  refine sl_ (l_insert (es := es8) (ck := 8) rfl rfl rfl Tryz.underlying36 Tryz.underlying9 fi8 ?_)
  refine sl_ (l_insert (es := es9) (ck := 9) rfl rfl rfl Tryz.underlying36 Tryz.underlying9 fi9 ?_)
  refine sl_ (l_insert (es := es10) (ck := 10) rfl rfl rfl Tryz.underlying36 Tryz.underlying9 fi10 ?_)
  refine sl_ (l_insert (es := es11) (ck := 11) rfl rfl rfl Tryz.underlying36 Tryz.underlying9 fi11 ?_)
  refine sl_ (l_insert (es := es12) (ck := 12) rfl rfl rfl Tryz.underlying36 Tryz.underlying9 fi12 ?_)
  refine sl_ (l_insert (es := es13) (ck := 13) rfl rfl rfl Tryz.underlying36 Tryz.underlying9 fi13 ?_)
  refine sl_ (l_insert (es := es14) (ck := 14) rfl rfl rfl Tryz.underlying36 Tryz.underlying9 fi14 ?_)
  refine sl_ (l_insert (es := es15) (ck := 15) rfl rfl rfl Tryz.underlying36 Tryz.underlying9 fi15 ?_)
  refine sl_ (l_insert (es := es16) (ck := 16) rfl rfl rfl Tryz.underlying36 Tryz.underlying9 fi16 ?_)
  refine sl_ (l_insert (es := es17) (ck := 17) rfl rfl rfl Tryz.underlying36 Tryz.underlying9 fi17 ?_)
  refine sl_ (l_insert (es := es18) (ck := 18) rfl rfl rfl Tryz.underlying36 Tryz.underlying9 fi18 ?_)
  refine sl_ (l_insert (es := es19) (ck := 19) rfl rfl rfl Tryz.underlying36 Tryz.underlying9 fi19 ?_)
  refine sl_ (l_insert (es := es20) (ck := 20) rfl rfl rfl Tryz.underlying36 Tryz.underlying9 fi20 ?_)
  refine sq (SM.closed) (q_move rfl) rfl ?_
  refine sq (SM.closed) (q_move rfl) rfl ?_
  refine sq (SM.closed) (q_lookup (es := es21) (i := 7) (v := (.int .i64 ((95 : Nat) : Int))) (fun _ h => h) rfl rfl Tryz.underlying36 Tryz.underlying9 (by kernel_rfl)) rfl ?_
  refine sq (SM.closed) (q_assign rfl) rfl ?_
  refine send ?_
  refine eseq ?_
  refine HT.unmap ?_
  refine HT.seq ?_
  refine HT.seq ?_
  refine HT.plain ?_
  refine sq (St.closed _ _ _ _) (q_move rfl) rfl ?_
  refine sq (St.closed _ _ _ _) (q_len (len := n) rfl Tryz.underlying22) rfl ?_
  refine sq (St.closed _ _ _ _) (q_move rfl) rfl ?_
  refine sq (St.closed _ _ _ _) (q_F (q_lt (p := n) (q := 95) rfl rfl) (by omega)) rfl ?_
  refine send ?_
  refine eseq ?_
  refine HT.no rfl ?_
  refine HT.skip ?_
  refine eseq ?_
  refine HT.seq ?_
  refine HT.seq ?_
  refine HT.plain ?_
  refine sq (St.closed _ _ _ _) (q_move rfl) rfl ?_
  refine send ?_
  refine eseq ?_
  refine HT.block ?_
  refine HT.seq ?_
  refine HT.plain ?_
  refine sq (St.closed _ _ _ _) (q_eqs rfl rfl (r := false) (by kernel_rfl)) rfl ?_
  refine sq (St.closed _ _ _ _) (q_assign rfl) rfl ?_
  refine send ?_
  refine eseq ?_
  refine HT.no rfl ?_
  refine HT.seq ?_
  refine HT.plain ?_
  refine sq (St.closed _ _ _ _) (q_eqs rfl rfl (r := false) (by kernel_rfl)) rfl ?_
  refine sq (St.closed _ _ _ _) (q_assign rfl) rfl ?_
  refine send ?_
  refine eseq ?_
  refine HT.no rfl ?_
  refine HT.seq ?_
  refine HT.plain ?_
  refine sq (St.closed _ _ _ _) (q_eqs rfl rfl (r := false) (by kernel_rfl)) rfl ?_
  refine sq (St.closed _ _ _ _) (q_assign rfl) rfl ?_
  refine send ?_
  refine eseq ?_
  refine HT.no rfl ?_
  refine HT.seq ?_
  refine HT.plain ?_
  refine sq (St.closed _ _ _ _) (q_eqs rfl rfl (r := false) (by kernel_rfl)) rfl ?_
  refine sq (St.closed _ _ _ _) (q_assign rfl) rfl ?_
  refine send ?_
  refine eseq ?_
  refine HT.no rfl ?_
  refine HT.seq ?_
  refine HT.plain ?_
  refine sq (St.closed _ _ _ _) (q_eqs rfl rfl (r := false) (by kernel_rfl)) rfl ?_
  refine sq (St.closed _ _ _ _) (q_assign rfl) rfl ?_
  refine send ?_
  refine eseq ?_
  refine HT.no rfl ?_
  refine HT.seq ?_
  refine HT.plain ?_
  refine sq (St.closed _ _ _ _) (q_eqs rfl rfl (r := false) (by kernel_rfl)) rfl ?_
  refine sq (St.closed _ _ _ _) (q_assign rfl) rfl ?_
  refine send ?_
  refine eseq ?_
  refine HT.no rfl ?_
  refine HT.seq ?_
  refine HT.plain ?_
  refine sq (St.closed _ _ _ _) (q_eqs rfl rfl (r := false) (by kernel_rfl)) rfl ?_
  refine sq (St.closed _ _ _ _) (q_assign rfl) rfl ?_
  refine send ?_
  refine eseq ?_
  refine HT.no rfl ?_
  refine HT.seq ?_
  refine HT.plain ?_
  refine sq (St.closed _ _ _ _) (q_eqs rfl rfl (r := true) (by kernel_rfl)) rfl ?_
  refine sq (St.closed _ _ _ _) (q_assign rfl) rfl ?_
  refine send ?_
  refine eseq ?_
  refine HT.yes rfl ?_
  refine HT.seq ?_
  refine HT.plain ?_
  refine sq (St.closed _ _ _ _) (q_move rfl) rfl ?_
  refine sq (St.closed _ _ _ _) (q_call (vs := [(.slice A n c)]) (v := (.tuple #[(.agg #[(.slice none 0 0), (.slice none 0 0), (.slice none 0 0), (.slice none 0 0)]), (.bool false), (.bool true)])) rfl ca_37 (fun w h => eapolkey_s1 w A n c bs (by omega) (by omega) (by omega) (St.enter (sp := []) (Kc := []) (bi := [0]) h rfl rfl rfl))) rfl ?_
  refine sq (St.closed _ _ _ _) (q_extract (vs := [(.agg #[(.slice none 0 0), (.slice none 0 0), (.slice none 0 0), (.slice none 0 0)]), (.bool false), (.bool true)]) (i := 0) rfl rfl) rfl ?_
  refine sq (St.closed _ _ _ _) (q_extract (vs := [(.agg #[(.slice none 0 0), (.slice none 0 0), (.slice none 0 0), (.slice none 0 0)]), (.bool false), (.bool true)]) (i := 1) rfl rfl) rfl ?_
  refine sq (St.closed _ _ _ _) (q_extract (vs := [(.agg #[(.slice none 0 0), (.slice none 0 0), (.slice none 0 0), (.slice none 0 0)]), (.bool false), (.bool true)]) (i := 2) rfl rfl) rfl ?_
  refine sl_ (l_storeAgg (b := b4) (off := 0) (j := 0) (vs := [(.slice none 0 0), (.slice none 0 0), (.slice none 0 0), (.slice none 0 0)]) rfl rfl aggs_29 (by simp [Value.one1]) rfl rfl rfl (Nat.le_of_ble_eq_true rfl) ?_)
  refine sq (St.closed _ _ _ _) (q_assign rfl) rfl ?_
  refine sq (St.closed _ _ _ _) (q_assign rfl) rfl ?_
  refine send ?_
  refine eseq ?_
  refine HT.ret ?_
  refine rt_in ?_
  refine rt_then ?_
  exact fun a ha w' hw => fin_ ha (resc3 ha Tryz.results26 rfl (ld_ aggs_29 hw (j := 0) rfl rfl (vs := [(.slice none 0 0), (.slice none 0 0), (.slice none 0 0), (.slice none 0 0)]) rfl) rfl rfl) ⟨rfl, hw.pres⟩

theorem eapolkey_s2 (w : World) (A : Option Addr) (n : Nat) (c : Nat) (bs : List UInt8) (hn : n ≤ 2147483647) (ha : 95 ≤ n) (hb : bN bs 93 2 ≤ n - 95) (hc : bN bs 1 2 / 4096 % 2 = 1) (hst : St w [] [] [Byt A n c bs] w) : Calls Tryz.prog 37 #[(.slice A n c)] w (CP2 w [] [Byt A n c bs] (fun b60 b68 => (.tuple #[(.agg #[(.slice (some ⟨b60, 0, none⟩) 17 17), (.slice (some ⟨b68, 0, none⟩) 4 4), (.slice none 0 0), (.slice (cutA A c (95 + (bN bs 93 2))) (n - (95 + (bN bs 93 2))) (c - (95 + (bN bs 93 2))))]), (.bool true), (.bool true)])) (fun b60 b68 => [⟨b60, 39, [some (.int .u64 ((nb bs 0 : Nat) : Int)), some (.int .u64 (((bN bs 1 2) &&& 7 : Nat) : Int)), some (.int .u64 ((((bN bs 1 2) / 8) &&& 1 : Nat) : Int)), some (.int .u64 ((((bN bs 1 2) / 16) &&& 3 : Nat) : Int)), some (.int .u64 ((((bN bs 1 2) / 64) &&& 1 : Nat) : Int)), some (.int .u64 ((((bN bs 1 2) / 128) &&& 1 : Nat) : Int)), some (.int .u64 ((((bN bs 1 2) / 256) &&& 1 : Nat) : Int)), some (.int .u64 ((((bN bs 1 2) / 512) &&& 1 : Nat) : Int)), some (.int .u64 ((((bN bs 1 2) / 1024) &&& 1 : Nat) : Int)), some (.int .u64 ((((bN bs 1 2) / 2048) &&& 1 : Nat) : Int)), some (.int .u64 ((((bN bs 1 2) / 4096) &&& 1 : Nat) : Int)), some (.int .u64 ((((bN bs 1 2) / 8192) &&& 1 : Nat) : Int)), some (.int .u64 ((bN bs 3 2 : Nat) : Int)), some (.int .u64 ((bN bs 5 8 : Nat) : Int)), some (.int .u64 ((bN bs 61 8 : Nat) : Int)), some (.int .u64 ((bN bs 69 8 : Nat) : Int)), some (.int .u64 ((bN bs 93 2 : Nat) : Int))], true⟩, ⟨b68, 22, [some (.slice (cutA A c 13) (45 - 13) (c - 13)), some (.slice (cutA A c 45) (61 - 45) (c - 45)), some (.slice (cutA A c 77) (93 - 77) (c - 77)), some (.slice (cutA A c 95) ((95 + (bN bs 93 2)) - 95) (c - 95))], true⟩]) (fun b60 b68 => [])) := by
  have hnc00 : n ≤ c := (hst.fact (j := 0) rfl).2.1
  refine enter (vs := [(.slice A n c)]) Tryz.func37 rfl rfl rfl hst ?_
  refine HT.seq ?_
  refine HT.plain ?_
  refine sl_ (l_alloc (by decide) zero_29 fun b2 => ?_)
  refine sq (St.closed _ _ _ _) (q_assign rfl) rfl ?_
  refine sq (St.closed _ _ _ _) (q_assign rfl) rfl ?_
  refine send ?_
  refine eseq ?_
  refine HT.seq ?_
  refine HT.drawnS mixed (St.closed _ _ _ _) ?_
  refine dtake (f := 3) [0, 1, 2, 3, 4, 5, 6] (by kernel_rfl) (St.closed _ _ _ _) (fun _ h => h) (by kernel_rfl) ?_
  refine dq rfl (q_move rfl) ?_
  refine dq rfl (q_slice (lo := 1) (hi := 3) rfl Tryz.underlying22 nagg_5 (.inr ⟨_, _, rfl, rfl⟩) (.inr ⟨_, _, rfl, rfl⟩) (by omega) (by omega)) ?_
  refine dq rfl (q_call (vs := [(.slice (cutA A c 1) (3 - 1) (c - 1))]) (v := (.int .u64 ((bN bs 1 2 : Nat) : Int))) rfl ca_34 (fun w h => NumberC w A n c bs (lo := 1) (hi := 3) (h.fact (j := 0) rfl) (k := 2) rfl (by decide) (by omega) (by omega))) ?_
  refine dq rfl (q_move rfl) ?_
  refine dq rfl (q_slice (lo := 93) (hi := 95) rfl Tryz.underlying22 nagg_5 (.inr ⟨_, _, rfl, rfl⟩) (.inr ⟨_, _, rfl, rfl⟩) (by omega) (by omega)) ?_
  refine dq rfl (q_call (vs := [(.slice (cutA A c 93) (95 - 93) (c - 93))]) (v := (.int .u64 ((bN bs 93 2 : Nat) : Int))) rfl ca_34 (fun w h => NumberC w A n c bs (lo := 93) (hi := 95) (h.fact (j := 0) rfl) (k := 2) rfl (by decide) (by omega) (by omega))) ?_
  refine dq rfl (q_convn (p := bN bs 93 2) rfl Tryz.underlying39 Tryz.underlying3 (show bN bs 93 2 < 9223372036854775808 by have := bN_lt bs 93 2 65536 rfl; omega)) ?_
  refine QL.nil ?_
  refine RG.step1 7 (by kernel_rfl) ?_
  refine dop rfl (l_alloc (by decide) zero_39 fun b5 => ⟨(fun _ h => (h.wk [(0, [])] rfl)), ?_⟩)
  refine RG.step1 8 (by kernel_rfl) ?_
  refine dop rfl (l_store (b := b5) (off := 0) (j := 1) rfl rfl nagg_39 rfl rfl rfl rfl (dlt rfl) ⟨(fun _ h => (h.wk [(0, [])] rfl)), ?_⟩)
  refine dtake (f := 0) [9] (by kernel_rfl) (St.closed _ _ _ _) (fun _ h => (h.wk [(0, [])] rfl)) (by kernel_rfl) ?_
  refine dq rfl (q_assign rfl) ?_
  refine QL.nil ?_
  refine dend (by kernel_rfl) ?_
  refine eseq ?_
  refine HT.seq ?_
  refine HT.plain ?_
  refine sq (St.closed _ _ _ _) (q_func (vs := [(.pointer (some ⟨b5, 0, none⟩))]) rfl) rfl ?_
  refine sq (St.closed _ _ _ _) (q_assign rfl) rfl ?_
  refine send ?_
  refine eseq ?_
  refine HT.seq ?_
  refine HT.drawnS mixed (St.closed _ _ _ _) ?_
  refine dtake (f := 17) [0, 1, 2, 3, 4, 5, 6, 7, 8, 10, 11, 12, 13, 15, 17, 19, 21, 23, 25, 27, 29, 30, 32, 33, 35, 36, 38, 39, 41, 42] (by kernel_rfl) (St.closed _ _ _ _) (fun _ h => h) (by kernel_rfl) ?_
  refine dq rfl (q_move rfl) ?_
  refine dq rfl (q_slice (lo := 95) (hi := n) rfl Tryz.underlying22 nagg_5 (.inr ⟨_, _, rfl, rfl⟩) (.inl ⟨rfl, rfl⟩) (by omega) (by omega)) ?_
  refine dq rfl (q_move rfl) ?_
  refine dq rfl (q_index (i := 0) (j := 0) rfl rfl Tryz.underlying22 nagg_5 (fun _ h => h) rfl (by omega)) ?_
  refine dq rfl (q_byte (i := 0) (j := 0) rfl nagg_5 (fun _ h => h) rfl (by omega)) ?_
  refine dq rfl (q_convn (p := nb bs 0) rfl Tryz.underlying5 Tryz.underlying39 (show nb bs 0 < 18446744073709551616 by have := nb_lt bs 0; omega)) ?_
  refine dq rfl (q_load (b := b5) (off := 0) (j := 1) rfl nagg_39 (fun _ h => h) rfl rfl rfl) ?_
  refine dq rfl (q_and (p := bN bs 1 2) (q := 7) rfl rfl rfl (show bN bs 1 2 < 18446744073709551616 by have := bN_lt bs 1 2 65536 rfl; omega) (by decide)) ?_
  refine dq rfl (q_move rfl) ?_
  refine dq rfl (q_load (b := b5) (off := 0) (j := 1) rfl nagg_39 (fun _ h => h) rfl rfl rfl) ?_
  refine dq rfl (q_shr (p := bN bs 1 2) (e := 4) (N := 16) rfl rfl (by decide) rfl) ?_
  refine dq rfl (q_and (p := (bN bs 1 2) / 16) (q := 3) rfl rfl rfl (show (bN bs 1 2) / 16 < 18446744073709551616 by have := bN_lt bs 1 2 65536 rfl; omega) (by decide)) ?_
  refine dq rfl (q_move rfl) ?_
  refine dq rfl (q_move rfl) ?_
  refine dq rfl (q_move rfl) ?_
  refine dq rfl (q_move rfl) ?_
  refine dq rfl (q_move rfl) ?_
  refine dq rfl (q_move rfl) ?_
  refine dq rfl (q_move rfl) ?_
  refine dq rfl (q_move rfl) ?_
  refine dq rfl (q_move rfl) ?_
  refine dq rfl (q_slice (lo := 3) (hi := 5) rfl Tryz.underlying22 nagg_5 (.inr ⟨_, _, rfl, rfl⟩) (.inr ⟨_, _, rfl, rfl⟩) (by omega) (by omega)) ?_
  refine dq rfl (q_move rfl) ?_
  refine dq rfl (q_slice (lo := 5) (hi := 13) rfl Tryz.underlying22 nagg_5 (.inr ⟨_, _, rfl, rfl⟩) (.inr ⟨_, _, rfl, rfl⟩) (by omega) (by omega)) ?_
  refine dq rfl (q_move rfl) ?_
  refine dq rfl (q_slice (lo := 61) (hi := 69) rfl Tryz.underlying22 nagg_5 (.inr ⟨_, _, rfl, rfl⟩) (.inr ⟨_, _, rfl, rfl⟩) (by omega) (by omega)) ?_
  refine dq rfl (q_move rfl) ?_
  refine dq rfl (q_slice (lo := 69) (hi := 77) rfl Tryz.underlying22 nagg_5 (.inr ⟨_, _, rfl, rfl⟩) (.inr ⟨_, _, rfl, rfl⟩) (by omega) (by omega)) ?_
  refine dq rfl (q_move rfl) ?_
  refine dq rfl (q_convn (p := bN bs 93 2) rfl Tryz.underlying3 Tryz.underlying39 (show bN bs 93 2 < 18446744073709551616 by have := bN_lt bs 93 2 65536 rfl; omega)) ?_
  refine QL.nil ?_
  refine dtake (f := 4) [9, 14, 16, 18, 20, 22, 24, 26, 28, 31, 34, 37, 40] (by kernel_rfl) (St.closed _ _ _ _) (fun _ h => h) (by kernel_rfl) ?_
  refine dq rfl (q_callC (vs := [(.int .i64 ((3 : Nat) : Int))]) (v := (.int .u64 ((((bN bs 1 2) / 8) &&& 1 : Nat) : Int))) rfl rfl ca_53 (fun w h => keyBit w 3 8 b5 (bN bs 1 2) (by have := bN_lt bs 1 2 65536 rfl; omega) (by have := bN_lt bs 1 2 65536 rfl; omega) (by have := bN_lt bs 1 2 65536 rfl; omega) (by have := bN_lt bs 1 2 65536 rfl; omega) (h.ro (j := 1) rfl))) ?_
  refine dq rfl (q_callC (vs := [(.int .i64 ((6 : Nat) : Int))]) (v := (.int .u64 ((((bN bs 1 2) / 64) &&& 1 : Nat) : Int))) rfl rfl ca_53 (fun w h => keyBit w 6 64 b5 (bN bs 1 2) (by have := bN_lt bs 1 2 65536 rfl; omega) (by have := bN_lt bs 1 2 65536 rfl; omega) (by have := bN_lt bs 1 2 65536 rfl; omega) (by have := bN_lt bs 1 2 65536 rfl; omega) (h.ro (j := 1) rfl))) ?_
  refine dq rfl (q_callC (vs := [(.int .i64 ((7 : Nat) : Int))]) (v := (.int .u64 ((((bN bs 1 2) / 128) &&& 1 : Nat) : Int))) rfl rfl ca_53 (fun w h => keyBit w 7 128 b5 (bN bs 1 2) (by have := bN_lt bs 1 2 65536 rfl; omega) (by have := bN_lt bs 1 2 65536 rfl; omega) (by have := bN_lt bs 1 2 65536 rfl; omega) (by have := bN_lt bs 1 2 65536 rfl; omega) (h.ro (j := 1) rfl))) ?_
  refine dq rfl (q_callC (vs := [(.int .i64 ((8 : Nat) : Int))]) (v := (.int .u64 ((((bN bs 1 2) / 256) &&& 1 : Nat) : Int))) rfl rfl ca_53 (fun w h => keyBit w 8 256 b5 (bN bs 1 2) (by have := bN_lt bs 1 2 65536 rfl; omega) (by have := bN_lt bs 1 2 65536 rfl; omega) (by have := bN_lt bs 1 2 65536 rfl; omega) (by have := bN_lt bs 1 2 65536 rfl; omega) (h.ro (j := 1) rfl))) ?_
  refine dq rfl (q_callC (vs := [(.int .i64 ((9 : Nat) : Int))]) (v := (.int .u64 ((((bN bs 1 2) / 512) &&& 1 : Nat) : Int))) rfl rfl ca_53 (fun w h => keyBit w 9 512 b5 (bN bs 1 2) (by have := bN_lt bs 1 2 65536 rfl; omega) (by have := bN_lt bs 1 2 65536 rfl; omega) (by have := bN_lt bs 1 2 65536 rfl; omega) (by have := bN_lt bs 1 2 65536 rfl; omega) (h.ro (j := 1) rfl))) ?_
  refine dq rfl (q_callC (vs := [(.int .i64 ((10 : Nat) : Int))]) (v := (.int .u64 ((((bN bs 1 2) / 1024) &&& 1 : Nat) : Int))) rfl rfl ca_53 (fun w h => keyBit w 10 1024 b5 (bN bs 1 2) (by have := bN_lt bs 1 2 65536 rfl; omega) (by have := bN_lt bs 1 2 65536 rfl; omega) (by have := bN_lt bs 1 2 65536 rfl; omega) (by have := bN_lt bs 1 2 65536 rfl; omega) (h.ro (j := 1) rfl))) ?_
  refine dq rfl (q_callC (vs := [(.int .i64 ((11 : Nat) : Int))]) (v := (.int .u64 ((((bN bs 1 2) / 2048) &&& 1 : Nat) : Int))) rfl rfl ca_53 (fun w h => keyBit w 11 2048 b5 (bN bs 1 2) (by have := bN_lt bs 1 2 65536 rfl; omega) (by have := bN_lt bs 1 2 65536 rfl; omega) (by have := bN_lt bs 1 2 65536 rfl; omega) (by have := bN_lt bs 1 2 65536 rfl; omega) (h.ro (j := 1) rfl))) ?_
  refine dq rfl (q_callC (vs := [(.int .i64 ((12 : Nat) : Int))]) (v := (.int .u64 ((((bN bs 1 2) / 4096) &&& 1 : Nat) : Int))) rfl rfl ca_53 (fun w h => keyBit w 12 4096 b5 (bN bs 1 2) (by have := bN_lt bs 1 2 65536 rfl; omega) (by have := bN_lt bs 1 2 65536 rfl; omega) (by have := bN_lt bs 1 2 65536 rfl; omega) (by have := bN_lt bs 1 2 65536 rfl; omega) (h.ro (j := 1) rfl))) ?_
  refine dq rfl (q_callC (vs := [(.int .i64 ((13 : Nat) : Int))]) (v := (.int .u64 ((((bN bs 1 2) / 8192) &&& 1 : Nat) : Int))) rfl rfl ca_53 (fun w h => keyBit w 13 8192 b5 (bN bs 1 2) (by have := bN_lt bs 1 2 65536 rfl; omega) (by have := bN_lt bs 1 2 65536 rfl; omega) (by have := bN_lt bs 1 2 65536 rfl; omega) (by have := bN_lt bs 1 2 65536 rfl; omega) (h.ro (j := 1) rfl))) ?_
  refine dq rfl (q_call (vs := [(.slice (cutA A c 3) (5 - 3) (c - 3))]) (v := (.int .u64 ((bN bs 3 2 : Nat) : Int))) rfl ca_34 (fun w h => NumberC w A n c bs (lo := 3) (hi := 5) (h.fact (j := 0) rfl) (k := 2) rfl (by decide) (by omega) (by omega))) ?_
  refine dq rfl (q_call (vs := [(.slice (cutA A c 5) (13 - 5) (c - 5))]) (v := (.int .u64 ((bN bs 5 8 : Nat) : Int))) rfl ca_34 (fun w h => NumberC w A n c bs (lo := 5) (hi := 13) (h.fact (j := 0) rfl) (k := 8) rfl (by decide) (by omega) (by omega))) ?_
  refine dq rfl (q_call (vs := [(.slice (cutA A c 61) (69 - 61) (c - 61))]) (v := (.int .u64 ((bN bs 61 8 : Nat) : Int))) rfl ca_34 (fun w h => NumberC w A n c bs (lo := 61) (hi := 69) (h.fact (j := 0) rfl) (k := 8) rfl (by decide) (by omega) (by omega))) ?_
  refine dq rfl (q_call (vs := [(.slice (cutA A c 69) (77 - 69) (c - 69))]) (v := (.int .u64 ((bN bs 69 8 : Nat) : Int))) rfl ca_34 (fun w h => NumberC w A n c bs (lo := 69) (hi := 77) (h.fact (j := 0) rfl) (k := 8) rfl (by decide) (by omega) (by omega))) ?_
  refine QL.nil ?_
  refine RG.step2 43 45 (by kernel_rfl) ?_ ?_
  · refine dop rfl (l_buildSlice (e := 39) (vs := [(0, (.int .u64 ((nb bs 0 : Nat) : Int))), (1, (.int .u64 (((bN bs 1 2) &&& 7 : Nat) : Int))), (2, (.int .u64 ((((bN bs 1 2) / 8) &&& 1 : Nat) : Int))), (3, (.int .u64 ((((bN bs 1 2) / 16) &&& 3 : Nat) : Int))), (4, (.int .u64 ((((bN bs 1 2) / 64) &&& 1 : Nat) : Int))), (5, (.int .u64 ((((bN bs 1 2) / 128) &&& 1 : Nat) : Int))), (6, (.int .u64 ((((bN bs 1 2) / 256) &&& 1 : Nat) : Int))), (7, (.int .u64 ((((bN bs 1 2) / 512) &&& 1 : Nat) : Int))), (8, (.int .u64 ((((bN bs 1 2) / 1024) &&& 1 : Nat) : Int))), (9, (.int .u64 ((((bN bs 1 2) / 2048) &&& 1 : Nat) : Int))), (10, (.int .u64 ((((bN bs 1 2) / 4096) &&& 1 : Nat) : Int))), (11, (.int .u64 ((((bN bs 1 2) / 8192) &&& 1 : Nat) : Int))), (12, (.int .u64 ((bN bs 3 2 : Nat) : Int))), (13, (.int .u64 ((bN bs 5 8 : Nat) : Int))), (14, (.int .u64 ((bN bs 61 8 : Nat) : Int))), (15, (.int .u64 ((bN bs 69 8 : Nat) : Int))), (16, (.int .u64 ((bN bs 93 2 : Nat) : Int)))]) (cs := [(.int .u64 ((nb bs 0 : Nat) : Int)), (.int .u64 (((bN bs 1 2) &&& 7 : Nat) : Int)), (.int .u64 ((((bN bs 1 2) / 8) &&& 1 : Nat) : Int)), (.int .u64 ((((bN bs 1 2) / 16) &&& 3 : Nat) : Int)), (.int .u64 ((((bN bs 1 2) / 64) &&& 1 : Nat) : Int)), (.int .u64 ((((bN bs 1 2) / 128) &&& 1 : Nat) : Int)), (.int .u64 ((((bN bs 1 2) / 256) &&& 1 : Nat) : Int)), (.int .u64 ((((bN bs 1 2) / 512) &&& 1 : Nat) : Int)), (.int .u64 ((((bN bs 1 2) / 1024) &&& 1 : Nat) : Int)), (.int .u64 ((((bN bs 1 2) / 2048) &&& 1 : Nat) : Int)), (.int .u64 ((((bN bs 1 2) / 4096) &&& 1 : Nat) : Int)), (.int .u64 ((((bN bs 1 2) / 8192) &&& 1 : Nat) : Int)), (.int .u64 ((bN bs 3 2 : Nat) : Int)), (.int .u64 ((bN bs 5 8 : Nat) : Int)), (.int .u64 ((bN bs 61 8 : Nat) : Int)), (.int .u64 ((bN bs 69 8 : Nat) : Int)), (.int .u64 ((bN bs 93 2 : Nat) : Int))]) (by decide) rfl (fun _ => by kernel_rfl) fun b60 => ⟨(fun _ h => (h.wk [(0, []), (1, [])] rfl)), ?_⟩)
    refine dtake (f := 2) [44] (by kernel_rfl) (St.closed _ _ _ _) (fun _ h => (h.wk [(0, []), (1, [])] rfl)) (by kernel_rfl) ?_
    refine dq rfl (q_call (vs := [(.slice (cutA A c 95) (n - 95) (c - 95)), (.slice (some ⟨b60, 0, none⟩) 17 17)]) (v := (.agg #[(.slice (some ⟨b60, 0, none⟩) 17 17), (.slice none 0 0), (.slice none 0 0), (.slice (cutA A c 95) (n - 95) (c - 95))])) rfl ca_33 (fun w h => layerC w (cutA A c 95) (n - 95) (c - 95) (some ⟨b60, 0, none⟩) 17 17  (St.enter (sp := []) (Kc := []) (bi := []) h rfl rfl rfl))) ?_
    refine QL.nil ?_
    refine RG.step1 45 (by kernel_rfl) ?_
    refine dop rfl (l_alloc (by decide) zero_29 fun b8 => ⟨(fun _ h => (h.wk [(0, []), (1, [])] rfl)), ?_⟩)
    refine RG.step1 46 (by kernel_rfl) ?_
    refine dop rfl (l_storeAgg (b := b8) (off := 0) (j := 3) (vs := [(.slice (some ⟨b60, 0, none⟩) 17 17), (.slice none 0 0), (.slice none 0 0), (.slice (cutA A c 95) (n - 95) (c - 95))]) rfl rfl aggs_29 (by simp [Value.one1]) rfl rfl rfl (Nat.le_of_ble_eq_true rfl) ⟨(fun _ h => (h.wk [(0, []), (1, [])] rfl)), ?_⟩)
    refine dend (by kernel_rfl) ?_
    refine eseq ?_
    refine HT.seq ?_
    refine HT.drawn mixed (St.closed _ _ _ _) (St w [] [⟨b2, 29, [some (.slice none 0 0), some (.slice none 0 0), some (.slice none 0 0), some (.slice none 0 0)], true⟩, ⟨b5, 39, [some (.int .u64 ((bN bs 1 2 : Nat) : Int))], true⟩, ⟨b60, 39, [some (.int .u64 ((nb bs 0 : Nat) : Int)), none, some (.int .u64 ((((bN bs 1 2) / 8) &&& 1 : Nat) : Int)), some (.int .u64 ((((bN bs 1 2) / 16) &&& 3 : Nat) : Int)), some (.int .u64 ((((bN bs 1 2) / 64) &&& 1 : Nat) : Int)), some (.int .u64 ((((bN bs 1 2) / 128) &&& 1 : Nat) : Int)), some (.int .u64 ((((bN bs 1 2) / 256) &&& 1 : Nat) : Int)), some (.int .u64 ((((bN bs 1 2) / 512) &&& 1 : Nat) : Int)), some (.int .u64 ((((bN bs 1 2) / 1024) &&& 1 : Nat) : Int)), some (.int .u64 ((((bN bs 1 2) / 2048) &&& 1 : Nat) : Int)), some (.int .u64 ((((bN bs 1 2) / 4096) &&& 1 : Nat) : Int)), some (.int .u64 ((((bN bs 1 2) / 8192) &&& 1 : Nat) : Int)), some (.int .u64 ((bN bs 3 2 : Nat) : Int)), some (.int .u64 ((bN bs 5 8 : Nat) : Int)), some (.int .u64 ((bN bs 61 8 : Nat) : Int)), some (.int .u64 ((bN bs 69 8 : Nat) : Int)), some (.int .u64 ((bN bs 93 2 : Nat) : Int))], true⟩, ⟨b8, 29, [some (.slice (some ⟨b60, 0, none⟩) 17 17), none, some (.slice none 0 0), some (.slice (cutA A c 95) (n - 95) (c - 95))], true⟩] [Byt A n c bs]) ?_
    refine dtake (f := 3) [0, 1, 2, 3, 4, 5] (by kernel_rfl) (St.closed _ _ _ _) (fun _ h => (h.wk [(0, []), (1, []), (2, [1]), (3, [1])] rfl)) (by kernel_rfl) ?_
    refine dq rfl (q_move rfl) ?_
    refine dq rfl (q_slice (lo := 13) (hi := 45) rfl Tryz.underlying22 nagg_5 (.inr ⟨_, _, rfl, rfl⟩) (.inr ⟨_, _, rfl, rfl⟩) (by omega) (by omega)) ?_
    refine dq rfl (q_move rfl) ?_
    refine dq rfl (q_slice (lo := 45) (hi := 61) rfl Tryz.underlying22 nagg_5 (.inr ⟨_, _, rfl, rfl⟩) (.inr ⟨_, _, rfl, rfl⟩) (by omega) (by omega)) ?_
    refine dq rfl (q_move rfl) ?_
    refine dq rfl (q_slice (lo := 77) (hi := 93) rfl Tryz.underlying22 nagg_5 (.inr ⟨_, _, rfl, rfl⟩) (.inr ⟨_, _, rfl, rfl⟩) (by omega) (by omega)) ?_
    refine QL.nil ?_
    refine RG.step1 6 (by kernel_rfl) ?_
    refine dop rfl (l_buildSlice (e := 22) (vs := [(0, (.slice (cutA A c 13) (45 - 13) (c - 13))), (1, (.slice (cutA A c 45) (61 - 45) (c - 45))), (2, (.slice (cutA A c 77) (93 - 77) (c - 77))), (3, (.slice none 0 0))]) (cs := [(.slice (cutA A c 13) (45 - 13) (c - 13)), (.slice (cutA A c 45) (61 - 45) (c - 45)), (.slice (cutA A c 77) (93 - 77) (c - 77)), (.slice none 0 0)]) (by decide) rfl (fun _ => by kernel_rfl) fun b68 => ⟨(fun _ h => (h.wk [(0, []), (1, []), (2, [1]), (3, [1])] rfl)), ?_⟩)
    refine dtake (f := 1) [7] (by kernel_rfl) (St.closed _ _ _ _) (fun _ h => (h.wk [(0, []), (1, []), (2, [1]), (3, [1])] rfl)) (by kernel_rfl) ?_
    refine dq rfl (q_field (b := b8) (off := 0) rfl fo_29_1) ?_
    refine QL.nil ?_
    refine RG.step1 8 (by kernel_rfl) ?_
    refine dop rfl (l_store (b := b8) (off := 1) (j := 3) rfl rfl nagg_26 rfl rfl rfl rfl (dlt rfl) ⟨(fun _ h => (h.wk [(0, []), (1, []), (2, [1]), (3, [1])] rfl)), ?_⟩)
    refine dend (by kernel_rfl) ?_
    refine eseq ?_
    refine HT.seq ?_
    refine HT.seq ?_
    refine HT.plain ?_
    refine sq (St.closed _ _ _ _) (q_move rfl) rfl ?_
    refine sq (St.closed _ _ _ _) (q_move rfl) rfl ?_
    refine sq (St.closed _ _ _ _) (q_len (len := n) rfl Tryz.underlying22) rfl ?_
    refine sq (St.closed _ _ _ _) (q_sub (p := n) (q := 95) rfl rfl (by omega) (show n < 9223372036854775808 by omega)) rfl ?_
    refine sq (St.closed _ _ _ _) (q_F (q_gt (p := bN bs 93 2) (q := n - 95) rfl rfl) (by have := bN_lt bs 93 2 65536 rfl; omega)) rfl ?_
    refine send ?_
    refine eseq ?_
    refine HT.no rfl ?_
    refine HT.skip ?_
    refine eseq ?_
    refine HT.seq ?_
    refine HT.seq ?_
    refine HT.plain ?_
    refine sq (St.closed _ _ _ _) (q_move rfl) rfl ?_
    refine sq (St.closed _ _ _ _) (q_callC (vs := [(.int .i64 ((12 : Nat) : Int))]) (v := (.int .u64 ((((bN bs 1 2) / 4096) &&& 1 : Nat) : Int))) rfl rfl ca_53 (fun w h => keyBit w 12 4096 b5 (bN bs 1 2) (by have := bN_lt bs 1 2 65536 rfl; omega) (by have := bN_lt bs 1 2 65536 rfl; omega) (by have := bN_lt bs 1 2 65536 rfl; omega) (by have := bN_lt bs 1 2 65536 rfl; omega) (h.ro (j := 1) rfl))) rfl ?_
    refine sq (St.closed _ _ _ _) (q_T (q_eq (p := ((bN bs 1 2) / 4096) &&& 1) (q := 1) rfl rfl) (by have := Nat.div_le_self (bN bs 1 2) 4096; have := zm1 ((bN bs 1 2) / 4096); have := Nat.and_le_left (n := (bN bs 1 2) / 4096) (m := 1); have := Nat.and_le_right (n := (bN bs 1 2) / 4096) (m := 1); omega)) rfl ?_
    refine send ?_
    refine eseq ?_
    refine HT.yes rfl ?_
    refine HT.drawn mixed (St.closed _ _ _ _) (St w [] [⟨b2, 29, [some (.slice none 0 0), some (.slice none 0 0), some (.slice none 0 0), some (.slice none 0 0)], true⟩, ⟨b5, 39, [some (.int .u64 ((bN bs 1 2 : Nat) : Int))], true⟩, ⟨b60, 39, [some (.int .u64 ((nb bs 0 : Nat) : Int)), some (.int .u64 (((bN bs 1 2) &&& 7 : Nat) : Int)), some (.int .u64 ((((bN bs 1 2) / 8) &&& 1 : Nat) : Int)), none, some (.int .u64 ((((bN bs 1 2) / 64) &&& 1 : Nat) : Int)), some (.int .u64 ((((bN bs 1 2) / 128) &&& 1 : Nat) : Int)), some (.int .u64 ((((bN bs 1 2) / 256) &&& 1 : Nat) : Int)), some (.int .u64 ((((bN bs 1 2) / 512) &&& 1 : Nat) : Int)), some (.int .u64 ((((bN bs 1 2) / 1024) &&& 1 : Nat) : Int)), some (.int .u64 ((((bN bs 1 2) / 2048) &&& 1 : Nat) : Int)), some (.int .u64 ((((bN bs 1 2) / 4096) &&& 1 : Nat) : Int)), some (.int .u64 ((((bN bs 1 2) / 8192) &&& 1 : Nat) : Int)), some (.int .u64 ((bN bs 3 2 : Nat) : Int)), some (.int .u64 ((bN bs 5 8 : Nat) : Int)), some (.int .u64 ((bN bs 61 8 : Nat) : Int)), some (.int .u64 ((bN bs 69 8 : Nat) : Int)), some (.int .u64 ((bN bs 93 2 : Nat) : Int))], true⟩, ⟨b8, 29, [some (.slice (some ⟨b60, 0, none⟩) 17 17), some (.slice (some ⟨b68, 0, none⟩) 4 4), some (.slice none 0 0), none], true⟩, ⟨b68, 22, [some (.slice (cutA A c 13) (45 - 13) (c - 13)), some (.slice (cutA A c 45) (61 - 45) (c - 45)), some (.slice (cutA A c 77) (93 - 77) (c - 77)), none], true⟩] [Byt A n c bs]) ?_
    refine dtake (f := 3) [0, 1, 2, 3, 4, 5, 6, 7, 8, 9, 10] (by kernel_rfl) (St.closed _ _ _ _) (fun _ h => (h.wk [(0, []), (1, []), (2, [3]), (3, [3]), (4, [3])] rfl)) (by kernel_rfl) ?_
    refine dq rfl (q_field (b := b8) (off := 0) rfl fo_29_1) ?_
    refine dq rfl (q_load (b := b8) (off := 1) (j := 3) rfl nagg_26 (fun _ h => h) rfl rfl rfl) ?_
    refine dq rfl (q_move rfl) ?_
    refine dq rfl (q_move rfl) ?_
    refine dq rfl (q_add (p := 95) (q := bN bs 93 2) rfl rfl (show 95 + (bN bs 93 2) < 9223372036854775808 by have := bN_lt bs 93 2 65536 rfl; omega)) ?_
    refine dq rfl (q_slice (lo := 95) (hi := 95 + (bN bs 93 2)) rfl Tryz.underlying22 nagg_5 (.inr ⟨_, _, rfl, rfl⟩) (.inr ⟨_, _, rfl, rfl⟩) (by have := bN_lt bs 93 2 65536 rfl; omega) (by have := bN_lt bs 93 2 65536 rfl; omega)) ?_
    refine dq rfl (q_move rfl) ?_
    refine dq rfl (q_move rfl) ?_
    refine dq rfl (q_add (p := 95) (q := bN bs 93 2) rfl rfl (show 95 + (bN bs 93 2) < 9223372036854775808 by have := bN_lt bs 93 2 65536 rfl; omega)) ?_
    refine dq rfl (q_slice (lo := 95 + (bN bs 93 2)) (hi := n) rfl Tryz.underlying22 nagg_5 (.inr ⟨_, _, rfl, rfl⟩) (.inl ⟨rfl, rfl⟩) (by have := bN_lt bs 93 2 65536 rfl; omega) (by omega)) ?_
    refine dq rfl (q_indexK (b := b68) (i := 3) (sz := 1) rfl rfl Tryz.underlying26 size_22 (by decide)) ?_
    refine QL.nil ?_
    refine RG.step1 11 (by kernel_rfl) ?_
    refine dop rfl (l_store (b := b68) (off := 3) (j := 4) rfl rfl nagg_22 rfl rfl rfl rfl (dlt rfl) ⟨(fun _ h => (h.wk [(0, []), (1, []), (2, [3]), (3, [3]), (4, [3])] rfl)), ?_⟩)
    refine dtake (f := 1) [12] (by kernel_rfl) (St.closed _ _ _ _) (fun _ h => (h.wk [(0, []), (1, []), (2, [3]), (3, [3]), (4, [3])] rfl)) (by kernel_rfl) ?_
    refine dq rfl (q_field (b := b8) (off := 0) rfl fo_29_3) ?_
    refine QL.nil ?_
    refine RG.step1 13 (by kernel_rfl) ?_
    refine dop rfl (l_store (b := b8) (off := 3) (j := 3) rfl rfl nagg_22 rfl rfl rfl rfl (dlt rfl) ⟨(fun _ h => (h.wk [(0, []), (1, []), (2, [3]), (3, [3]), (4, [3])] rfl)), ?_⟩)
    refine dend (by kernel_rfl) ?_
    refine eseq ?_
    refine HT.seq ?_
    refine HT.plain ?_
    refine sq (St.closed _ _ _ _) (q_loadAgg (b := b8) (off := 0) (j := 3) (vs := [(.slice (some ⟨b60, 0, none⟩) 17 17), (.slice (some ⟨b68, 0, none⟩) 4 4), (.slice none 0 0), (.slice (cutA A c (95 + (bN bs 93 2))) (n - (95 + (bN bs 93 2))) (c - (95 + (bN bs 93 2))))]) rfl aggs_29 (fun _ h => h) rfl rfl rfl) rfl ?_
    refine sl_ (l_storeAgg (b := b2) (off := 0) (j := 0) (vs := [(.slice (some ⟨b60, 0, none⟩) 17 17), (.slice (some ⟨b68, 0, none⟩) 4 4), (.slice none 0 0), (.slice (cutA A c (95 + (bN bs 93 2))) (n - (95 + (bN bs 93 2))) (c - (95 + (bN bs 93 2))))]) rfl rfl aggs_29 (by simp [Value.one1]) rfl rfl rfl (Nat.le_of_ble_eq_true rfl) ?_)
    refine sq (St.closed _ _ _ _) (q_assign rfl) rfl ?_
    refine sq (St.closed _ _ _ _) (q_assign rfl) rfl ?_
    refine send ?_
    refine eseq ?_
    refine HT.ret ?_
    exact fun a ha w' hw => fin_ ha (resc3 ha Tryz.results37 rfl (ld_ aggs_29 hw (j := 0) rfl rfl (vs := [(.slice (some ⟨b60, 0, none⟩) 17 17), (.slice (some ⟨b68, 0, none⟩) 4 4), (.slice none 0 0), (.slice (cutA A c (95 + (bN bs 93 2))) (n - (95 + (bN bs 93 2))) (c - (95 + (bN bs 93 2))))]) rfl) rfl rfl) ⟨b60, b68, rfl, (hw.wk [(2, []), (4, [])] rfl), fr0⟩
  · refine dop rfl (l_alloc (by decide) zero_29 fun b8 => ⟨(fun _ h => (h.wk [(0, []), (1, [])] rfl)), ?_⟩)
    refine RG.step1 43 (by kernel_rfl) ?_
    refine dop rfl (l_buildSlice (e := 39) (vs := [(0, (.int .u64 ((nb bs 0 : Nat) : Int))), (1, (.int .u64 (((bN bs 1 2) &&& 7 : Nat) : Int))), (2, (.int .u64 ((((bN bs 1 2) / 8) &&& 1 : Nat) : Int))), (3, (.int .u64 ((((bN bs 1 2) / 16) &&& 3 : Nat) : Int))), (4, (.int .u64 ((((bN bs 1 2) / 64) &&& 1 : Nat) : Int))), (5, (.int .u64 ((((bN bs 1 2) / 128) &&& 1 : Nat) : Int))), (6, (.int .u64 ((((bN bs 1 2) / 256) &&& 1 : Nat) : Int))), (7, (.int .u64 ((((bN bs 1 2) / 512) &&& 1 : Nat) : Int))), (8, (.int .u64 ((((bN bs 1 2) / 1024) &&& 1 : Nat) : Int))), (9, (.int .u64 ((((bN bs 1 2) / 2048) &&& 1 : Nat) : Int))), (10, (.int .u64 ((((bN bs 1 2) / 4096) &&& 1 : Nat) : Int))), (11, (.int .u64 ((((bN bs 1 2) / 8192) &&& 1 : Nat) : Int))), (12, (.int .u64 ((bN bs 3 2 : Nat) : Int))), (13, (.int .u64 ((bN bs 5 8 : Nat) : Int))), (14, (.int .u64 ((bN bs 61 8 : Nat) : Int))), (15, (.int .u64 ((bN bs 69 8 : Nat) : Int))), (16, (.int .u64 ((bN bs 93 2 : Nat) : Int)))]) (cs := [(.int .u64 ((nb bs 0 : Nat) : Int)), (.int .u64 (((bN bs 1 2) &&& 7 : Nat) : Int)), (.int .u64 ((((bN bs 1 2) / 8) &&& 1 : Nat) : Int)), (.int .u64 ((((bN bs 1 2) / 16) &&& 3 : Nat) : Int)), (.int .u64 ((((bN bs 1 2) / 64) &&& 1 : Nat) : Int)), (.int .u64 ((((bN bs 1 2) / 128) &&& 1 : Nat) : Int)), (.int .u64 ((((bN bs 1 2) / 256) &&& 1 : Nat) : Int)), (.int .u64 ((((bN bs 1 2) / 512) &&& 1 : Nat) : Int)), (.int .u64 ((((bN bs 1 2) / 1024) &&& 1 : Nat) : Int)), (.int .u64 ((((bN bs 1 2) / 2048) &&& 1 : Nat) : Int)), (.int .u64 ((((bN bs 1 2) / 4096) &&& 1 : Nat) : Int)), (.int .u64 ((((bN bs 1 2) / 8192) &&& 1 : Nat) : Int)), (.int .u64 ((bN bs 3 2 : Nat) : Int)), (.int .u64 ((bN bs 5 8 : Nat) : Int)), (.int .u64 ((bN bs 61 8 : Nat) : Int)), (.int .u64 ((bN bs 69 8 : Nat) : Int)), (.int .u64 ((bN bs 93 2 : Nat) : Int))]) (by decide) rfl (fun _ => by kernel_rfl) fun b60 => ⟨(fun _ h => (h.wk [(0, []), (1, [])] rfl)), ?_⟩)
    refine dtake (f := 1) [44] (by kernel_rfl) (St.closed _ _ _ _) (fun _ h => (h.wk [(0, []), (1, [])] rfl)) (by kernel_rfl) ?_
    refine dq rfl (q_call (vs := [(.slice (cutA A c 95) (n - 95) (c - 95)), (.slice (some ⟨b60, 0, none⟩) 17 17)]) (v := (.agg #[(.slice (some ⟨b60, 0, none⟩) 17 17), (.slice none 0 0), (.slice none 0 0), (.slice (cutA A c 95) (n - 95) (c - 95))])) rfl ca_33 (fun w h => layerC w (cutA A c 95) (n - 95) (c - 95) (some ⟨b60, 0, none⟩) 17 17  (St.enter (sp := []) (Kc := []) (bi := []) h rfl rfl rfl))) ?_
    refine QL.nil ?_
    refine RG.step1 46 (by kernel_rfl) ?_
    refine dop rfl (l_storeAgg (b := b8) (off := 0) (j := 2) (vs := [(.slice (some ⟨b60, 0, none⟩) 17 17), (.slice none 0 0), (.slice none 0 0), (.slice (cutA A c 95) (n - 95) (c - 95))]) rfl rfl aggs_29 (by simp [Value.one1]) rfl rfl rfl (Nat.le_of_ble_eq_true rfl) ⟨(fun _ h => (h.wk [(0, []), (1, [])] rfl)), ?_⟩)
    refine dend (by kernel_rfl) ?_
    refine eseq ?_
    refine HT.seq ?_
    refine HT.drawn mixed (St.closed _ _ _ _) (St w [] [⟨b2, 29, [some (.slice none 0 0), some (.slice none 0 0), some (.slice none 0 0), some (.slice none 0 0)], true⟩, ⟨b5, 39, [some (.int .u64 ((bN bs 1 2 : Nat) : Int))], true⟩, ⟨b8, 29, [some (.slice (some ⟨b60, 0, none⟩) 17 17), none, some (.slice none 0 0), some (.slice (cutA A c 95) (n - 95) (c - 95))], true⟩, ⟨b60, 39, [some (.int .u64 ((nb bs 0 : Nat) : Int)), none, some (.int .u64 ((((bN bs 1 2) / 8) &&& 1 : Nat) : Int)), some (.int .u64 ((((bN bs 1 2) / 16) &&& 3 : Nat) : Int)), some (.int .u64 ((((bN bs 1 2) / 64) &&& 1 : Nat) : Int)), some (.int .u64 ((((bN bs 1 2) / 128) &&& 1 : Nat) : Int)), some (.int .u64 ((((bN bs 1 2) / 256) &&& 1 : Nat) : Int)), some (.int .u64 ((((bN bs 1 2) / 512) &&& 1 : Nat) : Int)), some (.int .u64 ((((bN bs 1 2) / 1024) &&& 1 : Nat) : Int)), some (.int .u64 ((((bN bs 1 2) / 2048) &&& 1 : Nat) : Int)), some (.int .u64 ((((bN bs 1 2) / 4096) &&& 1 : Nat) : Int)), some (.int .u64 ((((bN bs 1 2) / 8192) &&& 1 : Nat) : Int)), some (.int .u64 ((bN bs 3 2 : Nat) : Int)), some (.int .u64 ((bN bs 5 8 : Nat) : Int)), some (.int .u64 ((bN bs 61 8 : Nat) : Int)), some (.int .u64 ((bN bs 69 8 : Nat) : Int)), some (.int .u64 ((bN bs 93 2 : Nat) : Int))], true⟩] [Byt A n c bs]) ?_
    refine dtake (f := 3) [0, 1, 2, 3, 4, 5] (by kernel_rfl) (St.closed _ _ _ _) (fun _ h => (h.wk [(0, []), (1, []), (2, [1]), (3, [1])] rfl)) (by kernel_rfl) ?_
    refine dq rfl (q_move rfl) ?_
    refine dq rfl (q_slice (lo := 13) (hi := 45) rfl Tryz.underlying22 nagg_5 (.inr ⟨_, _, rfl, rfl⟩) (.inr ⟨_, _, rfl, rfl⟩) (by omega) (by omega)) ?_
    refine dq rfl (q_move rfl) ?_
    refine dq rfl (q_slice (lo := 45) (hi := 61) rfl Tryz.underlying22 nagg_5 (.inr ⟨_, _, rfl, rfl⟩) (.inr ⟨_, _, rfl, rfl⟩) (by omega) (by omega)) ?_
    refine dq rfl (q_move rfl) ?_
    refine dq rfl (q_slice (lo := 77) (hi := 93) rfl Tryz.underlying22 nagg_5 (.inr ⟨_, _, rfl, rfl⟩) (.inr ⟨_, _, rfl, rfl⟩) (by omega) (by omega)) ?_
    refine QL.nil ?_
    refine RG.step1 6 (by kernel_rfl) ?_
    refine dop rfl (l_buildSlice (e := 22) (vs := [(0, (.slice (cutA A c 13) (45 - 13) (c - 13))), (1, (.slice (cutA A c 45) (61 - 45) (c - 45))), (2, (.slice (cutA A c 77) (93 - 77) (c - 77))), (3, (.slice none 0 0))]) (cs := [(.slice (cutA A c 13) (45 - 13) (c - 13)), (.slice (cutA A c 45) (61 - 45) (c - 45)), (.slice (cutA A c 77) (93 - 77) (c - 77)), (.slice none 0 0)]) (by decide) rfl (fun _ => by kernel_rfl) fun b68 => ⟨(fun _ h => (h.wk [(0, []), (1, []), (2, [1]), (3, [1])] rfl)), ?_⟩)
    refine dtake (f := 1) [7] (by kernel_rfl) (St.closed _ _ _ _) (fun _ h => (h.wk [(0, []), (1, []), (2, [1]), (3, [1])] rfl)) (by kernel_rfl) ?_
    refine dq rfl (q_field (b := b8) (off := 0) rfl fo_29_1) ?_
    refine QL.nil ?_
    refine RG.step1 8 (by kernel_rfl) ?_
    refine dop rfl (l_store (b := b8) (off := 1) (j := 2) rfl rfl nagg_26 rfl rfl rfl rfl (dlt rfl) ⟨(fun _ h => (h.wk [(0, []), (1, []), (2, [1]), (3, [1])] rfl)), ?_⟩)
    refine dend (by kernel_rfl) ?_
    refine eseq ?_
    refine HT.seq ?_
    refine HT.seq ?_
    refine HT.plain ?_
    refine sq (St.closed _ _ _ _) (q_move rfl) rfl ?_
    refine sq (St.closed _ _ _ _) (q_move rfl) rfl ?_
    refine sq (St.closed _ _ _ _) (q_len (len := n) rfl Tryz.underlying22) rfl ?_
    refine sq (St.closed _ _ _ _) (q_sub (p := n) (q := 95) rfl rfl (by omega) (show n < 9223372036854775808 by omega)) rfl ?_
    refine sq (St.closed _ _ _ _) (q_F (q_gt (p := bN bs 93 2) (q := n - 95) rfl rfl) (by have := bN_lt bs 93 2 65536 rfl; omega)) rfl ?_
    refine send ?_
    refine eseq ?_
    refine HT.no rfl ?_
    refine HT.skip ?_
    refine eseq ?_
    refine HT.seq ?_
    refine HT.seq ?_
    refine HT.plain ?_
    refine sq (St.closed _ _ _ _) (q_move rfl) rfl ?_
    refine sq (St.closed _ _ _ _) (q_callC (vs := [(.int .i64 ((12 : Nat) : Int))]) (v := (.int .u64 ((((bN bs 1 2) / 4096) &&& 1 : Nat) : Int))) rfl rfl ca_53 (fun w h => keyBit w 12 4096 b5 (bN bs 1 2) (by have := bN_lt bs 1 2 65536 rfl; omega) (by have := bN_lt bs 1 2 65536 rfl; omega) (by have := bN_lt bs 1 2 65536 rfl; omega) (by have := bN_lt bs 1 2 65536 rfl; omega) (h.ro (j := 1) rfl))) rfl ?_
    refine sq (St.closed _ _ _ _) (q_T (q_eq (p := ((bN bs 1 2) / 4096) &&& 1) (q := 1) rfl rfl) (by have := Nat.div_le_self (bN bs 1 2) 4096; have := zm1 ((bN bs 1 2) / 4096); have := Nat.and_le_left (n := (bN bs 1 2) / 4096) (m := 1); have := Nat.and_le_right (n := (bN bs 1 2) / 4096) (m := 1); omega)) rfl ?_
    refine send ?_
    refine eseq ?_
    refine HT.yes rfl ?_
    refine HT.drawn mixed (St.closed _ _ _ _) (St w [] [⟨b2, 29, [some (.slice none 0 0), some (.slice none 0 0), some (.slice none 0 0), some (.slice none 0 0)], true⟩, ⟨b5, 39, [some (.int .u64 ((bN bs 1 2 : Nat) : Int))], true⟩, ⟨b8, 29, [some (.slice (some ⟨b60, 0, none⟩) 17 17), some (.slice (some ⟨b68, 0, none⟩) 4 4), some (.slice none 0 0), none], true⟩, ⟨b60, 39, [some (.int .u64 ((nb bs 0 : Nat) : Int)), some (.int .u64 (((bN bs 1 2) &&& 7 : Nat) : Int)), some (.int .u64 ((((bN bs 1 2) / 8) &&& 1 : Nat) : Int)), none, some (.int .u64 ((((bN bs 1 2) / 64) &&& 1 : Nat) : Int)), some (.int .u64 ((((bN bs 1 2) / 128) &&& 1 : Nat) : Int)), some (.int .u64 ((((bN bs 1 2) / 256) &&& 1 : Nat) : Int)), some (.int .u64 ((((bN bs 1 2) / 512) &&& 1 : Nat) : Int)), some (.int .u64 ((((bN bs 1 2) / 1024) &&& 1 : Nat) : Int)), some (.int .u64 ((((bN bs 1 2) / 2048) &&& 1 : Nat) : Int)), some (.int .u64 ((((bN bs 1 2) / 4096) &&& 1 : Nat) : Int)), some (.int .u64 ((((bN bs 1 2) / 8192) &&& 1 : Nat) : Int)), some (.int .u64 ((bN bs 3 2 : Nat) : Int)), some (.int .u64 ((bN bs 5 8 : Nat) : Int)), some (.int .u64 ((bN bs 61 8 : Nat) : Int)), some (.int .u64 ((bN bs 69 8 : Nat) : Int)), some (.int .u64 ((bN bs 93 2 : Nat) : Int))], true⟩, ⟨b68, 22, [some (.slice (cutA A c 13) (45 - 13) (c - 13)), some (.slice (cutA A c 45) (61 - 45) (c - 45)), some (.slice (cutA A c 77) (93 - 77) (c - 77)), none], true⟩] [Byt A n c bs]) ?_
    refine dtake (f := 3) [0, 1, 2, 3, 4, 5, 6, 7, 8, 9, 10] (by kernel_rfl) (St.closed _ _ _ _) (fun _ h => (h.wk [(0, []), (1, []), (2, [3]), (3, [3]), (4, [3])] rfl)) (by kernel_rfl) ?_
    refine dq rfl (q_field (b := b8) (off := 0) rfl fo_29_1) ?_
    refine dq rfl (q_load (b := b8) (off := 1) (j := 2) rfl nagg_26 (fun _ h => h) rfl rfl rfl) ?_
    refine dq rfl (q_move rfl) ?_
    refine dq rfl (q_move rfl) ?_
    refine dq rfl (q_add (p := 95) (q := bN bs 93 2) rfl rfl (show 95 + (bN bs 93 2) < 9223372036854775808 by have := bN_lt bs 93 2 65536 rfl; omega)) ?_
    refine dq rfl (q_slice (lo := 95) (hi := 95 + (bN bs 93 2)) rfl Tryz.underlying22 nagg_5 (.inr ⟨_, _, rfl, rfl⟩) (.inr ⟨_, _, rfl, rfl⟩) (by have := bN_lt bs 93 2 65536 rfl; omega) (by have := bN_lt bs 93 2 65536 rfl; omega)) ?_
    refine dq rfl (q_move rfl) ?_
    refine dq rfl (q_move rfl) ?_
    refine dq rfl (q_add (p := 95) (q := bN bs 93 2) rfl rfl (show 95 + (bN bs 93 2) < 9223372036854775808 by have := bN_lt bs 93 2 65536 rfl; omega)) ?_
    refine dq rfl (q_slice (lo := 95 + (bN bs 93 2)) (hi := n) rfl Tryz.underlying22 nagg_5 (.inr ⟨_, _, rfl, rfl⟩) (.inl ⟨rfl, rfl⟩) (by have := bN_lt bs 93 2 65536 rfl; omega) (by omega)) ?_
    refine dq rfl (q_indexK (b := b68) (i := 3) (sz := 1) rfl rfl Tryz.underlying26 size_22 (by decide)) ?_
    refine QL.nil ?_
    refine RG.step1 11 (by kernel_rfl) ?_
    refine dop rfl (l_store (b := b68) (off := 3) (j := 4) rfl rfl nagg_22 rfl rfl rfl rfl (dlt rfl) ⟨(fun _ h => (h.wk [(0, []), (1, []), (2, [3]), (3, [3]), (4, [3])] rfl)), ?_⟩)
    refine dtake (f := 1) [12] (by kernel_rfl) (St.closed _ _ _ _) (fun _ h => (h.wk [(0, []), (1, []), (2, [3]), (3, [3]), (4, [3])] rfl)) (by kernel_rfl) ?_
    refine dq rfl (q_field (b := b8) (off := 0) rfl fo_29_3) ?_
    refine QL.nil ?_
    refine RG.step1 13 (by kernel_rfl) ?_
    refine dop rfl (l_store (b := b8) (off := 3) (j := 2) rfl rfl nagg_22 rfl rfl rfl rfl (dlt rfl) ⟨(fun _ h => (h.wk [(0, []), (1, []), (2, [3]), (3, [3]), (4, [3])] rfl)), ?_⟩)
    refine dend (by kernel_rfl) ?_
    refine eseq ?_
    refine HT.seq ?_
    refine HT.plain ?_
    refine sq (St.closed _ _ _ _) (q_loadAgg (b := b8) (off := 0) (j := 2) (vs := [(.slice (some ⟨b60, 0, none⟩) 17 17), (.slice (some ⟨b68, 0, none⟩) 4 4), (.slice none 0 0), (.slice (cutA A c (95 + (bN bs 93 2))) (n - (95 + (bN bs 93 2))) (c - (95 + (bN bs 93 2))))]) rfl aggs_29 (fun _ h => h) rfl rfl rfl) rfl ?_
    refine sl_ (l_storeAgg (b := b2) (off := 0) (j := 0) (vs := [(.slice (some ⟨b60, 0, none⟩) 17 17), (.slice (some ⟨b68, 0, none⟩) 4 4), (.slice none 0 0), (.slice (cutA A c (95 + (bN bs 93 2))) (n - (95 + (bN bs 93 2))) (c - (95 + (bN bs 93 2))))]) rfl rfl aggs_29 (by simp [Value.one1]) rfl rfl rfl (Nat.le_of_ble_eq_true rfl) ?_)
    refine sq (St.closed _ _ _ _) (q_assign rfl) rfl ?_
    refine sq (St.closed _ _ _ _) (q_assign rfl) rfl ?_
    refine send ?_
    refine eseq ?_
    refine HT.ret ?_
    exact fun a ha w' hw => fin_ ha (resc3 ha Tryz.results37 rfl (ld_ aggs_29 hw (j := 0) rfl rfl (vs := [(.slice (some ⟨b60, 0, none⟩) 17 17), (.slice (some ⟨b68, 0, none⟩) 4 4), (.slice none 0 0), (.slice (cutA A c (95 + (bN bs 93 2))) (n - (95 + (bN bs 93 2))) (c - (95 + (bN bs 93 2))))]) rfl) rfl rfl) ⟨b60, b68, rfl, (hw.wk [(3, []), (4, [])] rfl), fr0⟩

theorem eapolkey_S2 (w : World) (A : Option Addr) (n : Nat) (c : Nat) (bs : List UInt8) (hn : n ≤ 2147483647) (ha : 95 ≤ n) (hb : bN bs 93 2 ≤ n - 95) (hc : bN bs 1 2 / 4096 % 2 = 1) (hst : St w [] [] [Byt A n c bs] w) : Calls Tryz.prog 26 #[(.string ⟨#[101, 97, 112, 111, 108, 107, 101, 121]⟩), (.slice A n c)] w (SP w (Byt A n c bs) (some (some ⟨[nb bs 0, (bN bs 1 2) &&& 7, ((bN bs 1 2) / 8) &&& 1, ((bN bs 1 2) / 16) &&& 3, ((bN bs 1 2) / 64) &&& 1, ((bN bs 1 2) / 128) &&& 1, ((bN bs 1 2) / 256) &&& 1, ((bN bs 1 2) / 512) &&& 1, ((bN bs 1 2) / 1024) &&& 1, ((bN bs 1 2) / 2048) &&& 1, ((bN bs 1 2) / 4096) &&& 1, ((bN bs 1 2) / 8192) &&& 1, bN bs 3 2, bN bs 5 8, bN bs 61 8, bN bs 69 8, bN bs 93 2], [sl bs 13 45, sl bs 45 61, sl bs 77 93, sl bs 95 (95 + (bN bs 93 2))], [], sl bs (95 + (bN bs 93 2)) n⟩))) := by
  have hnc00 : n ≤ c := (hst.fact (j := 0) rfl).2.1
  refine enter (vs := [(.string ⟨#[101, 97, 112, 111, 108, 107, 101, 121]⟩), (.slice A n c)]) Tryz.func26 rfl rfl rfl hst ?_
  refine HT.seq ?_
  refine HT.plain ?_
  refine sl_ (l_alloc (by decide) zero_29 fun b4 => ?_)
  refine sq (St.closed _ _ _ _) (q_assign rfl) rfl ?_
  refine sq (St.closed _ _ _ _) (q_assign rfl) rfl ?_
  refine send ?_
  refine eseq ?_
  refine HT.seq ?_
  refine HT.plain ?_
  refine sl_ (l_makeMap (by decide) fun b13 => ?_)
  refine sl_ (l_insert (es := es0) (ck := 0) rfl rfl rfl Tryz.underlying36 Tryz.underlying9 fi0 ?_)
  refine sl_ (l_insert (es := es1) (ck := 1) rfl rfl rfl Tryz.underlying36 Tryz.underlying9 fi1 ?_)
  refine sl_ (l_insert (es := es2) (ck := 2) rfl rfl rfl Tryz.underlying36 Tryz.underlying9 fi2 ?_)
  refine sl_ (l_insert (es := es3) (ck := 3) rfl rfl rfl Tryz.underlying36 Tryz.underlying9 fi3 ?_)
  refine sl_ (l_insert (es := es4) (ck := 4) rfl rfl rfl Tryz.underlying36 Tryz.underlying9 fi4 ?_)
  refine sl_ (l_insert (es := es5) (ck := 5) rfl rfl rfl Tryz.underlying36 Tryz.underlying9 fi5 ?_)
  refine sl_ (l_insert (es := es6) (ck := 6) rfl rfl rfl Tryz.underlying36 Tryz.underlying9 fi6 ?_)
  refine sl_ (l_insert (es := es7) (ck := 7) rfl rfl rfl Tryz.underlying36 Tryz.underlying9 fi7 ?_)
  refine sl_ (l_insert (es := es8) (ck := 8) rfl rfl rfl Tryz.underlying36 Tryz.underlying9 fi8 ?_)
  refine sl_ (l_insert (es := es9) (ck := 9) rfl rfl rfl Tryz.underlying36 Tryz.underlying9 fi9 ?_)
  refine sl_ (l_insert (es := es10) (ck := 10) rfl rfl rfl Tryz.underlying36 Tryz.underlying9 fi10 ?_)
  refine sl_ (l_insert (es := es11) (ck := 11) rfl rfl rfl Tryz.underlying36 Tryz.underlying9 fi11 ?_)
  refine sl_ (l_insert (es := es12) (ck := 12) rfl rfl rfl Tryz.underlying36 Tryz.underlying9 fi12 ?_)
  refine sl_ (l_insert (es := es13) (ck := 13) rfl rfl rfl Tryz.underlying36 Tryz.underlying9 fi13 ?_)
  refine sl_ (l_insert (es := es14) (ck := 14) rfl rfl rfl Tryz.underlying36 Tryz.underlying9 fi14 ?_)
  refine sl_ (l_insert (es := es15) (ck := 15) rfl rfl rfl Tryz.underlying36 Tryz.underlying9 fi15 ?_)
  refine sl_ (l_insert (es := es16) (ck := 16) rfl rfl rfl Tryz.underlying36 Tryz.underlying9 fi16 ?_)
  refine sl_ (l_insert (es := es17) (ck := 17) rfl rfl rfl Tryz.underlying36 Tryz.underlying9 fi17 ?_)
  refine sl_ (l_insert (es := es18) (ck := 18) rfl rfl rfl Tryz.underlying36 Tryz.underlying9 fi18 ?_)
  refine sl_ (l_insert (es := es19) (ck := 19) rfl rfl rfl Tryz.underlying36 Tryz.underlying9 fi19 ?_)
  refine sl_ (l_insert (es := es20) (ck := 20) rfl rfl rfl Tryz.underlying36 Tryz.underlying9 fi20 ?_)
  refine sq (SM.closed) (q_move rfl) rfl ?_
  refine sq (SM.closed) (q_move rfl) rfl ?_
  refine sq (SM.closed) (q_lookup (es := es21) (i := 7) (v := (.int .i64 ((95 : Nat) : Int))) (fun _ h => h) rfl rfl Tryz.underlying36 Tryz.underlying9 (by kernel_rfl)) rfl ?_
  refine sq (SM.closed) (q_assign rfl) rfl ?_
  refine send ?_
  refine eseq ?_
  refine HT.unmap ?_
  refine HT.seq ?_
  refine HT.seq ?_
  refine HT.plain ?_
  refine sq (St.closed _ _ _ _) (q_move rfl) rfl ?_
  refine sq (St.closed _ _ _ _) (q_len (len := n) rfl Tryz.underlying22) rfl ?_
  refine sq (St.closed _ _ _ _) (q_move rfl) rfl ?_
  refine sq (St.closed _ _ _ _) (q_F (q_lt (p := n) (q := 95) rfl rfl) (by omega)) rfl ?_
  refine send ?_
  refine eseq ?_
  refine HT.no rfl ?_
  refine HT.skip ?_
  refine eseq ?_
  refine HT.seq ?_
  refine HT.seq ?_
  refine HT.plain ?_
  refine sq (St.closed _ _ _ _) (q_move rfl) rfl ?_
  refine send ?_
  refine eseq ?_
  refine HT.block ?_
  refine HT.seq ?_
  refine HT.plain ?_
  refine sq (St.closed _ _ _ _) (q_eqs rfl rfl (r := false) (by kernel_rfl)) rfl ?_
  refine sq (St.closed _ _ _ _) (q_assign rfl) rfl ?_
  refine send ?_
  refine eseq ?_
  refine HT.no rfl ?_
  refine HT.seq ?_
  refine HT.plain ?_
  refine sq (St.closed _ _ _ _) (q_eqs rfl rfl (r := false) (by kernel_rfl)) rfl ?_
  refine sq (St.closed _ _ _ _) (q_assign rfl) rfl ?_
  refine send ?_
  refine eseq ?_
  refine HT.no rfl ?_
  refine HT.seq ?_
  refine HT.plain ?_
  refine sq (St.closed _ _ _ _) (q_eqs rfl rfl (r := false) (by kernel_rfl)) rfl ?_
  refine sq (St.closed _ _ _ _) (q_assign rfl) rfl ?_
  refine send ?_
  refine eseq ?_
  refine HT.no rfl ?_
  refine HT.seq ?_
  refine HT.plain ?_
  refine sq (St.closed _ _ _ _) (q_eqs rfl rfl (r := false) (by kernel_rfl)) rfl ?_
  refine sq (St.closed _ _ _ _) (q_assign rfl) rfl ?_
  refine send ?_
  refine eseq ?_
  refine HT.no rfl ?_
  refine HT.seq ?_
  refine HT.plain ?_
  refine sq (St.closed _ _ _ _) (q_eqs rfl rfl (r := false) (by kernel_rfl)) rfl ?_
  refine sq (St.closed _ _ _ _) (q_assign rfl) rfl ?_
  refine send ?_
  refine eseq ?_
  refine HT.no rfl ?_
  refine HT.seq ?_
  refine HT.plain ?_
  refine sq (St.closed _ _ _ _) (q_eqs rfl rfl (r := false) (by kernel_rfl)) rfl ?_
  refine sq (St.closed _ _ _ _) (q_assign rfl) rfl ?_
  refine send ?_
  refine eseq ?_
  refine HT.no rfl ?_
  refine HT.seq ?_
  refine HT.plain ?_
  refine sq (St.closed _ _ _ _) (q_eqs rfl rfl (r := false) (by kernel_rfl)) rfl ?_
  refine sq (St.closed _ _ _ _) (q_assign rfl) rfl ?_
  refine send ?_
  refine eseq ?_
  refine HT.no rfl ?_
  refine HT.seq ?_
  refine HT.plain ?_
  refine sq (St.closed _ _ _ _) (q_eqs rfl rfl (r := true) (by kernel_rfl)) rfl ?_
  refine sq (St.closed _ _ _ _) (q_assign rfl) rfl ?_
  refine send ?_
  refine eseq ?_
  refine HT.yes rfl ?_
  refine HT.seq ?_
  refine HT.plain ?_
  refine sq (St.closed _ _ _ _) (q_move rfl) rfl ?_
  refine sl_ (l_callX2 (vs := [(.slice A n c)]) (Kc := []) (Bc := [Byt A n c bs]) [] [0] [Byt A n c bs] (fun b60 b68 => [⟨b4, 29, [some (.slice none 0 0), some (.slice none 0 0), some (.slice none 0 0), some (.slice none 0 0)], true⟩, ⟨b60, 39, [some (.int .u64 ((nb bs 0 : Nat) : Int)), some (.int .u64 (((bN bs 1 2) &&& 7 : Nat) : Int)), some (.int .u64 ((((bN bs 1 2) / 8) &&& 1 : Nat) : Int)), some (.int .u64 ((((bN bs 1 2) / 16) &&& 3 : Nat) : Int)), some (.int .u64 ((((bN bs 1 2) / 64) &&& 1 : Nat) : Int)), some (.int .u64 ((((bN bs 1 2) / 128) &&& 1 : Nat) : Int)), some (.int .u64 ((((bN bs 1 2) / 256) &&& 1 : Nat) : Int)), some (.int .u64 ((((bN bs 1 2) / 512) &&& 1 : Nat) : Int)), some (.int .u64 ((((bN bs 1 2) / 1024) &&& 1 : Nat) : Int)), some (.int .u64 ((((bN bs 1 2) / 2048) &&& 1 : Nat) : Int)), some (.int .u64 ((((bN bs 1 2) / 4096) &&& 1 : Nat) : Int)), some (.int .u64 ((((bN bs 1 2) / 8192) &&& 1 : Nat) : Int)), some (.int .u64 ((bN bs 3 2 : Nat) : Int)), some (.int .u64 ((bN bs 5 8 : Nat) : Int)), some (.int .u64 ((bN bs 61 8 : Nat) : Int)), some (.int .u64 ((bN bs 69 8 : Nat) : Int)), some (.int .u64 ((bN bs 93 2 : Nat) : Int))], true⟩, ⟨b68, 22, [some (.slice (cutA A c 13) (45 - 13) (c - 13)), some (.slice (cutA A c 45) (61 - 45) (c - 45)), some (.slice (cutA A c 77) (93 - 77) (c - 77)), some (.slice (cutA A c 95) ((95 + (bN bs 93 2)) - 95) (c - 95))], true⟩]) (fun b60 b68 => [Byt A n c bs]) (by decide) rfl ca_37 (fun _ h => h) rfl rfl rfl rfl (fun w h => eapolkey_s2 w A n c bs (by omega) (by omega) (by omega) (by omega) h) (fun _ _ => rfl) (fun _ _ => rfl) (fun _ _ => rfl) (fun _ _ => rfl) fun b60 b68 hf1 he2 => ?_)
  refine sq (St.closed _ _ _ _) (q_extract (vs := [(.agg #[(.slice (some ⟨b60, 0, none⟩) 17 17), (.slice (some ⟨b68, 0, none⟩) 4 4), (.slice none 0 0), (.slice (cutA A c (95 + (bN bs 93 2))) (n - (95 + (bN bs 93 2))) (c - (95 + (bN bs 93 2))))]), (.bool true), (.bool true)]) (i := 0) rfl rfl) rfl ?_
  refine sq (St.closed _ _ _ _) (q_extract (vs := [(.agg #[(.slice (some ⟨b60, 0, none⟩) 17 17), (.slice (some ⟨b68, 0, none⟩) 4 4), (.slice none 0 0), (.slice (cutA A c (95 + (bN bs 93 2))) (n - (95 + (bN bs 93 2))) (c - (95 + (bN bs 93 2))))]), (.bool true), (.bool true)]) (i := 1) rfl rfl) rfl ?_
  refine sq (St.closed _ _ _ _) (q_extract (vs := [(.agg #[(.slice (some ⟨b60, 0, none⟩) 17 17), (.slice (some ⟨b68, 0, none⟩) 4 4), (.slice none 0 0), (.slice (cutA A c (95 + (bN bs 93 2))) (n - (95 + (bN bs 93 2))) (c - (95 + (bN bs 93 2))))]), (.bool true), (.bool true)]) (i := 2) rfl rfl) rfl ?_
  refine sl_ (l_storeAgg (b := b4) (off := 0) (j := 0) (vs := [(.slice (some ⟨b60, 0, none⟩) 17 17), (.slice (some ⟨b68, 0, none⟩) 4 4), (.slice none 0 0), (.slice (cutA A c (95 + (bN bs 93 2))) (n - (95 + (bN bs 93 2))) (c - (95 + (bN bs 93 2))))]) rfl rfl aggs_29 (by simp [Value.one1]) rfl rfl rfl (Nat.le_of_ble_eq_true rfl) ?_)
  refine sq (St.closed _ _ _ _) (q_assign rfl) rfl ?_
  refine sq (St.closed _ _ _ _) (q_assign rfl) rfl ?_
  refine send ?_
  refine eseq ?_
  refine HT.ret ?_
  refine rt_in ?_
  refine rt_then ?_
  exact fun a ha w' hw => fin_ ha (resc3 ha Tryz.results26 rfl (ld_ aggs_29 hw (j := 0) rfl rfl (vs := [(.slice (some ⟨b60, 0, none⟩) 17 17), (.slice (some ⟨b68, 0, none⟩) 4 4), (.slice none 0 0), (.slice (cutA A c (95 + (bN bs 93 2))) (n - (95 + (bN bs 93 2))) (c - (95 + (bN bs 93 2))))]) rfl) rfl rfl) ⟨⟨⟨some ⟨b60, 0, none⟩, 17, 17, [nb bs 0, (bN bs 1 2) &&& 7, ((bN bs 1 2) / 8) &&& 1, ((bN bs 1 2) / 16) &&& 3, ((bN bs 1 2) / 64) &&& 1, ((bN bs 1 2) / 128) &&& 1, ((bN bs 1 2) / 256) &&& 1, ((bN bs 1 2) / 512) &&& 1, ((bN bs 1 2) / 1024) &&& 1, ((bN bs 1 2) / 2048) &&& 1, ((bN bs 1 2) / 4096) &&& 1, ((bN bs 1 2) / 8192) &&& 1, bN bs 3 2, bN bs 5 8, bN bs 61 8, bN bs 69 8, bN bs 93 2]⟩, some ⟨b68, 0, none⟩, 4, 4, [⟨cutA A c 13, 45 - 13, c - 13, sl bs 13 45⟩, ⟨cutA A c 45, 61 - 45, c - 45, sl bs 45 61⟩, ⟨cutA A c 77, 93 - 77, c - 77, sl bs 77 93⟩, ⟨cutA A c 95, (95 + (bN bs 93 2)) - 95, c - 95, sl bs 95 (95 + (bN bs 93 2))⟩], none, 0, 0, [], ⟨cutA A c (95 + (bN bs 93 2)), n - (95 + (bN bs 93 2)), c - (95 + (bN bs 93 2)), sl bs (95 + (bN bs 93 2)) n⟩⟩, rfl, hw.pres, Own.lay (all1 (Own.cel hw (j := 1) (sz := 1) (r := []) rfl rfl rfl rfl (Nat.le_refl _)) (all1 (Own.cel hw (j := 2) (sz := 1) (r := []) rfl rfl rfl rfl (Nat.le_refl _)) (all1 (Own.nilCel 2) (all1 (Own.cut hw (j := 0) (lo := 95 + (bN bs 93 2)) (hi := n) rfl (fun _ h => .inr h) (by have := bN_lt bs 93 2 65536 rfl; omega) (by omega)) (all1 (Own.cut hw (j := 0) (lo := 13) (hi := 45) rfl (fun _ h => .inr h) (by omega) (by omega)) (all1 (Own.cut hw (j := 0) (lo := 45) (hi := 61) rfl (fun _ h => .inr h) (by omega) (by omega)) (all1 (Own.cut hw (j := 0) (lo := 77) (hi := 93) rfl (fun _ h => .inr h) (by omega) (by omega)) (all1 (Own.cut hw (j := 0) (lo := 95) (hi := 95 + (bN bs 93 2)) rfl (fun _ h => .inr h) (by have := bN_lt bs 93 2 65536 rfl; omega) (by have := bN_lt bs 93 2 65536 rfl; omega)) all0)))))))), rfl⟩

theorem eapolkey_s3 (w : World) (A : Option Addr) (n : Nat) (c : Nat) (bs : List UInt8) (hn : n ≤ 2147483647) (ha : 95 ≤ n) (hb : bN bs 93 2 ≤ n - 95) (hc : bN bs 1 2 / 4096 % 2 = 0) (hst : St w [] [] [Byt A n c bs] w) : Calls Tryz.prog 37 #[(.slice A n c)] w (CP2 w [] [Byt A n c bs] (fun b60 b68 => (.tuple #[(.agg #[(.slice (some ⟨b60, 0, none⟩) 17 17), (.slice (some ⟨b68, 0, none⟩) 4 4), (.slice none 0 0), (.slice (cutA A c 95) (n - 95) (c - 95))]), (.bool true), (.bool true)])) (fun b60 b68 => [⟨b60, 39, [some (.int .u64 ((nb bs 0 : Nat) : Int)), some (.int .u64 (((bN bs 1 2) &&& 7 : Nat) : Int)), some (.int .u64 ((((bN bs 1 2) / 8) &&& 1 : Nat) : Int)), some (.int .u64 ((((bN bs 1 2) / 16) &&& 3 : Nat) : Int)), some (.int .u64 ((((bN bs 1 2) / 64) &&& 1 : Nat) : Int)), some (.int .u64 ((((bN bs 1 2) / 128) &&& 1 : Nat) : Int)), some (.int .u64 ((((bN bs 1 2) / 256) &&& 1 : Nat) : Int)), some (.int .u64 ((((bN bs 1 2) / 512) &&& 1 : Nat) : Int)), some (.int .u64 ((((bN bs 1 2) / 1024) &&& 1 : Nat) : Int)), some (.int .u64 ((((bN bs 1 2) / 2048) &&& 1 : Nat) : Int)), some (.int .u64 ((((bN bs 1 2) / 4096) &&& 1 : Nat) : Int)), some (.int .u64 ((((bN bs 1 2) / 8192) &&& 1 : Nat) : Int)), some (.int .u64 ((bN bs 3 2 : Nat) : Int)), some (.int .u64 ((bN bs 5 8 : Nat) : Int)), some (.int .u64 ((bN bs 61 8 : Nat) : Int)), some (.int .u64 ((bN bs 69 8 : Nat) : Int)), some (.int .u64 ((bN bs 93 2 : Nat) : Int))], true⟩, ⟨b68, 22, [some (.slice (cutA A c 13) (45 - 13) (c - 13)), some (.slice (cutA A c 45) (61 - 45) (c - 45)), some (.slice (cutA A c 77) (93 - 77) (c - 77)), some (.slice none 0 0)], true⟩]) (fun b60 b68 => [])) := by
  have hnc00 : n ≤ c := (hst.fact (j := 0) rfl).2.1
  refine enter (vs := [(.slice A n c)]) Tryz.func37 rfl rfl rfl hst ?_
  refine HT.seq ?_
  refine HT.plain ?_
  refine sl_ (l_alloc (by decide) zero_29 fun b2 => ?_)
  refine sq (St.closed _ _ _ _) (q_assign rfl) rfl ?_
  refine sq (St.closed _ _ _ _) (q_assign rfl) rfl ?_
  refine send ?_
  refine eseq ?_
  refine HT.seq ?_
  refine HT.drawnS mixed (St.closed _ _ _ _) ?_
  refine dtake (f := 3) [0, 1, 2, 3, 4, 5, 6] (by kernel_rfl) (St.closed _ _ _ _) (fun _ h => h) (by kernel_rfl) ?_
  refine dq rfl (q_move rfl) ?_
  refine dq rfl (q_slice (lo := 1) (hi := 3) rfl Tryz.underlying22 nagg_5 (.inr ⟨_, _, rfl, rfl⟩) (.inr ⟨_, _, rfl, rfl⟩) (by omega) (by omega)) ?_
  refine dq rfl (q_call (vs := [(.slice (cutA A c 1) (3 - 1) (c - 1))]) (v := (.int .u64 ((bN bs 1 2 : Nat) : Int))) rfl ca_34 (fun w h => NumberC w A n c bs (lo := 1) (hi := 3) (h.fact (j := 0) rfl) (k := 2) rfl (by decide) (by omega) (by omega))) ?_
  refine dq rfl (q_move rfl) ?_
  refine dq rfl (q_slice (lo := 93) (hi := 95) rfl Tryz.underlying22 nagg_5 (.inr ⟨_, _, rfl, rfl⟩) (.inr ⟨_, _, rfl, rfl⟩) (by omega) (by omega)) ?_
  refine dq rfl (q_call (vs := [(.slice (cutA A c 93) (95 - 93) (c - 93))]) (v := (.int .u64 ((bN bs 93 2 : Nat) : Int))) rfl ca_34 (fun w h => NumberC w A n c bs (lo := 93) (hi := 95) (h.fact (j := 0) rfl) (k := 2) rfl (by decide) (by omega) (by omega))) ?_
  refine dq rfl (q_convn (p := bN bs 93 2) rfl Tryz.underlying39 Tryz.underlying3 (show bN bs 93 2 < 9223372036854775808 by have := bN_lt bs 93 2 65536 rfl; omega)) ?_
  refine QL.nil ?_
  refine RG.step1 7 (by kernel_rfl) ?_
  refine dop rfl (l_alloc (by decide) zero_39 fun b5 => ⟨(fun _ h => (h.wk [(0, [])] rfl)), ?_⟩)
  refine RG.step1 8 (by kernel_rfl) ?_
  refine dop rfl (l_store (b := b5) (off := 0) (j := 1) rfl rfl nagg_39 rfl rfl rfl rfl (dlt rfl) ⟨(fun _ h => (h.wk [(0, [])] rfl)), ?_⟩)
  refine dtake (f := 0) [9] (by kernel_rfl) (St.closed _ _ _ _) (fun _ h => (h.wk [(0, [])] rfl)) (by kernel_rfl) ?_
  refine dq rfl (q_assign rfl) ?_
  refine QL.nil ?_
  refine dend (by kernel_rfl) ?_
  refine eseq ?_
  refine HT.seq ?_
  refine HT.plain ?_
  refine sq (St.closed _ _ _ _) (q_func (vs := [(.pointer (some ⟨b5, 0, none⟩))]) rfl) rfl ?_
  refine sq (St.closed _ _ _ _) (q_assign rfl) rfl ?_
  refine send ?_
  refine eseq ?_
  refine HT.seq ?_
  refine HT.drawnS mixed (St.closed _ _ _ _) ?_
  refine dtake (f := 17) [0, 1, 2, 3, 4, 5, 6, 7, 8, 10, 11, 12, 13, 15, 17, 19, 21, 23, 25, 27, 29, 30, 32, 33, 35, 36, 38, 39, 41, 42] (by kernel_rfl) (St.closed _ _ _ _) (fun _ h => h) (by kernel_rfl) ?_
  refine dq rfl (q_move rfl) ?_
  refine dq rfl (q_slice (lo := 95) (hi := n) rfl Tryz.underlying22 nagg_5 (.inr ⟨_, _, rfl, rfl⟩) (.inl ⟨rfl, rfl⟩) (by omega) (by omega)) ?_
  refine dq rfl (q_move rfl) ?_
  refine dq rfl (q_index (i := 0) (j := 0) rfl rfl Tryz.underlying22 nagg_5 (fun _ h => h) rfl (by omega)) ?_
  refine dq rfl (q_byte (i := 0) (j := 0) rfl nagg_5 (fun _ h => h) rfl (by omega)) ?_
  refine dq rfl (q_convn (p := nb bs 0) rfl Tryz.underlying5 Tryz.underlying39 (show nb bs 0 < 18446744073709551616 by have := nb_lt bs 0; omega)) ?_
  refine dq rfl (q_load (b := b5) (off := 0) (j := 1) rfl nagg_39 (fun _ h => h) rfl rfl rfl) ?_
  refine dq rfl (q_and (p := bN bs 1 2) (q := 7) rfl rfl rfl (show bN bs 1 2 < 18446744073709551616 by have := bN_lt bs 1 2 65536 rfl; omega) (by decide)) ?_
  refine dq rfl (q_move rfl) ?_
  refine dq rfl (q_load (b := b5) (off := 0) (j := 1) rfl nagg_39 (fun _ h => h) rfl rfl rfl) ?_
  refine dq rfl (q_shr (p := bN bs 1 2) (e := 4) (N := 16) rfl rfl (by decide) rfl) ?_
  refine dq rfl (q_and (p := (bN bs 1 2) / 16) (q := 3) rfl rfl rfl (show (bN bs 1 2) / 16 < 18446744073709551616 by have := bN_lt bs 1 2 65536 rfl; omega) (by decide)) ?_
  refine dq rfl (q_move rfl) ?_
  refine dq rfl (q_move rfl) ?_
  refine dq rfl (q_move rfl) ?_
  refine dq rfl (q_move rfl) ?_
  refine dq rfl (q_move rfl) ?_
  refine dq rfl (q_move rfl) ?_
  refine dq rfl (q_move rfl) ?_
  refine dq rfl (q_move rfl) ?_
  refine dq rfl (q_move rfl) ?_
  refine dq rfl (q_slice (lo := 3) (hi := 5) rfl Tryz.underlying22 nagg_5 (.inr ⟨_, _, rfl, rfl⟩) (.inr ⟨_, _, rfl, rfl⟩) (by omega) (by omega)) ?_
  refine dq rfl (q_move rfl) ?_
  refine dq rfl (q_slice (lo := 5) (hi := 13) rfl Tryz.underlying22 nagg_5 (.inr ⟨_, _, rfl, rfl⟩) (.inr ⟨_, _, rfl, rfl⟩) (by omega) (by omega)) ?_
  refine dq rfl (q_move rfl) ?_
  refine dq rfl (q_slice (lo := 61) (hi := 69) rfl Tryz.underlying22 nagg_5 (.inr ⟨_, _, rfl, rfl⟩) (.inr ⟨_, _, rfl, rfl⟩) (by omega) (by omega)) ?_
  refine dq rfl (q_move rfl) ?_
  refine dq rfl (q_slice (lo := 69) (hi := 77) rfl Tryz.underlying22 nagg_5 (.inr ⟨_, _, rfl, rfl⟩) (.inr ⟨_, _, rfl, rfl⟩) (by omega) (by omega)) ?_
  refine dq rfl (q_move rfl) ?_
  refine dq rfl (q_convn (p := bN bs 93 2) rfl Tryz.underlying3 Tryz.underlying39 (show bN bs 93 2 < 18446744073709551616 by have := bN_lt bs 93 2 65536 rfl; omega)) ?_
  refine QL.nil ?_
  refine dtake (f := 4) [9, 14, 16, 18, 20, 22, 24, 26, 28, 31, 34, 37, 40] (by kernel_rfl) (St.closed _ _ _ _) (fun _ h => h) (by kernel_rfl) ?_
  refine dq rfl (q_callC (vs := [(.int .i64 ((3 : Nat) : Int))]) (v := (.int .u64 ((((bN bs 1 2) / 8) &&& 1 : Nat) : Int))) rfl rfl ca_53 (fun w h => keyBit w 3 8 b5 (bN bs 1 2) (by have := bN_lt bs 1 2 65536 rfl; omega) (by have := bN_lt bs 1 2 65536 rfl; omega) (by have := bN_lt bs 1 2 65536 rfl; omega) (by have := bN_lt bs 1 2 65536 rfl; omega) (h.ro (j := 1) rfl))) ?_
  refine dq rfl (q_callC (vs := [(.int .i64 ((6 : Nat) : Int))]) (v := (.int .u64 ((((bN bs 1 2) / 64) &&& 1 : Nat) : Int))) rfl rfl ca_53 (fun w h => keyBit w 6 64 b5 (bN bs 1 2) (by have := bN_lt bs 1 2 65536 rfl; omega) (by have := bN_lt bs 1 2 65536 rfl; omega) (by have := bN_lt bs 1 2 65536 rfl; omega) (by have := bN_lt bs 1 2 65536 rfl; omega) (h.ro (j := 1) rfl))) ?_
  refine dq rfl (q_callC (vs := [(.int .i64 ((7 : Nat) : Int))]) (v := (.int .u64 ((((bN bs 1 2) / 128) &&& 1 : Nat) : Int))) rfl rfl ca_53 (fun w h => keyBit w 7 128 b5 (bN bs 1 2) (by have := bN_lt bs 1 2 65536 rfl; omega) (by have := bN_lt bs 1 2 65536 rfl; omega) (by have := bN_lt bs 1 2 65536 rfl; omega) (by have := bN_lt bs 1 2 65536 rfl; omega) (h.ro (j := 1) rfl))) ?_
  refine dq rfl (q_callC (vs := [(.int .i64 ((8 : Nat) : Int))]) (v := (.int .u64 ((((bN bs 1 2) / 256) &&& 1 : Nat) : Int))) rfl rfl ca_53 (fun w h => keyBit w 8 256 b5 (bN bs 1 2) (by have := bN_lt bs 1 2 65536 rfl; omega) (by have := bN_lt bs 1 2 65536 rfl; omega) (by have := bN_lt bs 1 2 65536 rfl; omega) (by have := bN_lt bs 1 2 65536 rfl; omega) (h.ro (j := 1) rfl))) ?_
  refine dq rfl (q_callC (vs := [(.int .i64 ((9 : Nat) : Int))]) (v := (.int .u64 ((((bN bs 1 2) / 512) &&& 1 : Nat) : Int))) rfl rfl ca_53 (fun w h => keyBit w 9 512 b5 (bN bs 1 2) (by have := bN_lt bs 1 2 65536 rfl; omega) (by have := bN_lt bs 1 2 65536 rfl; omega) (by have := bN_lt bs 1 2 65536 rfl; omega) (by have := bN_lt bs 1 2 65536 rfl; omega) (h.ro (j := 1) rfl))) ?_
  refine dq rfl (q_callC (vs := [(.int .i64 ((10 : Nat) : Int))]) (v := (.int .u64 ((((bN bs 1 2) / 1024) &&& 1 : Nat) : Int))) rfl rfl ca_53 (fun w h => keyBit w 10 1024 b5 (bN bs 1 2) (by have := bN_lt bs 1 2 65536 rfl; omega) (by have := bN_lt bs 1 2 65536 rfl; omega) (by have := bN_lt bs 1 2 65536 rfl; omega) (by have := bN_lt bs 1 2 65536 rfl; omega) (h.ro (j := 1) rfl))) ?_
  refine dq rfl (q_callC (vs := [(.int .i64 ((11 : Nat) : Int))]) (v := (.int .u64 ((((bN bs 1 2) / 2048) &&& 1 : Nat) : Int))) rfl rfl ca_53 (fun w h => keyBit w 11 2048 b5 (bN bs 1 2) (by have := bN_lt bs 1 2 65536 rfl; omega) (by have := bN_lt bs 1 2 65536 rfl; omega) (by have := bN_lt bs 1 2 65536 rfl; omega) (by have := bN_lt bs 1 2 65536 rfl; omega) (h.ro (j := 1) rfl))) ?_
  refine dq rfl (q_callC (vs := [(.int .i64 ((12 : Nat) : Int))]) (v := (.int .u64 ((((bN bs 1 2) / 4096) &&& 1 : Nat) : Int))) rfl rfl ca_53 (fun w h => keyBit w 12 4096 b5 (bN bs 1 2) (by have := bN_lt bs 1 2 65536 rfl; omega) (by have := bN_lt bs 1 2 65536 rfl; omega) (by have := bN_lt bs 1 2 65536 rfl; omega) (by have := bN_lt bs 1 2 65536 rfl; omega) (h.ro (j := 1) rfl))) ?_
  refine dq rfl (q_callC (vs := [(.int .i64 ((13 : Nat) : Int))]) (v := (.int .u64 ((((bN bs 1 2) / 8192) &&& 1 : Nat) : Int))) rfl rfl ca_53 (fun w h => keyBit w 13 8192 b5 (bN bs 1 2) (by have := bN_lt bs 1 2 65536 rfl; omega) (by have := bN_lt bs 1 2 65536 rfl; omega) (by have := bN_lt bs 1 2 65536 rfl; omega) (by have := bN_lt bs 1 2 65536 rfl; omega) (h.ro (j := 1) rfl))) ?_
  refine dq rfl (q_call (vs := [(.slice (cutA A c 3) (5 - 3) (c - 3))]) (v := (.int .u64 ((bN bs 3 2 : Nat) : Int))) rfl ca_34 (fun w h => NumberC w A n c bs (lo := 3) (hi := 5) (h.fact (j := 0) rfl) (k := 2) rfl (by decide) (by omega) (by omega))) ?_
  refine dq rfl (q_call (vs := [(.slice (cutA A c 5) (13 - 5) (c - 5))]) (v := (.int .u64 ((bN bs 5 8 : Nat) : Int))) rfl ca_34 (fun w h => NumberC w A n c bs (lo := 5) (hi := 13) (h.fact (j := 0) rfl) (k := 8) rfl (by decide) (by omega) (by omega))) ?_
  refine dq rfl (q_call (vs := [(.slice (cutA A c 61) (69 - 61) (c - 61))]) (v := (.int .u64 ((bN bs 61 8 : Nat) : Int))) rfl ca_34 (fun w h => NumberC w A n c bs (lo := 61) (hi := 69) (h.fact (j := 0) rfl) (k := 8) rfl (by decide) (by omega) (by omega))) ?_
  refine dq rfl (q_call (vs := [(.slice (cutA A c 69) (77 - 69) (c - 69))]) (v := (.int .u64 ((bN bs 69 8 : Nat) : Int))) rfl ca_34 (fun w h => NumberC w A n c bs (lo := 69) (hi := 77) (h.fact (j := 0) rfl) (k := 8) rfl (by decide) (by omega) (by omega))) ?_
  refine QL.nil ?_
  refine RG.step2 43 45 (by kernel_rfl) ?_ ?_
  · refine dop rfl (l_buildSlice (e := 39) (vs := [(0, (.int .u64 ((nb bs 0 : Nat) : Int))), (1, (.int .u64 (((bN bs 1 2) &&& 7 : Nat) : Int))), (2, (.int .u64 ((((bN bs 1 2) / 8) &&& 1 : Nat) : Int))), (3, (.int .u64 ((((bN bs 1 2) / 16) &&& 3 : Nat) : Int))), (4, (.int .u64 ((((bN bs 1 2) / 64) &&& 1 : Nat) : Int))), (5, (.int .u64 ((((bN bs 1 2) / 128) &&& 1 : Nat) : Int))), (6, (.int .u64 ((((bN bs 1 2) / 256) &&& 1 : Nat) : Int))), (7, (.int .u64 ((((bN bs 1 2) / 512) &&& 1 : Nat) : Int))), (8, (.int .u64 ((((bN bs 1 2) / 1024) &&& 1 : Nat) : Int))), (9, (.int .u64 ((((bN bs 1 2) / 2048) &&& 1 : Nat) : Int))), (10, (.int .u64 ((((bN bs 1 2) / 4096) &&& 1 : Nat) : Int))), (11, (.int .u64 ((((bN bs 1 2) / 8192) &&& 1 : Nat) : Int))), (12, (.int .u64 ((bN bs 3 2 : Nat) : Int))), (13, (.int .u64 ((bN bs 5 8 : Nat) : Int))), (14, (.int .u64 ((bN bs 61 8 : Nat) : Int))), (15, (.int .u64 ((bN bs 69 8 : Nat) : Int))), (16, (.int .u64 ((bN bs 93 2 : Nat) : Int)))]) (cs := [(.int .u64 ((nb bs 0 : Nat) : Int)), (.int .u64 (((bN bs 1 2) &&& 7 : Nat) : Int)), (.int .u64 ((((bN bs 1 2) / 8) &&& 1 : Nat) : Int)), (.int .u64 ((((bN bs 1 2) / 16) &&& 3 : Nat) : Int)), (.int .u64 ((((bN bs 1 2) / 64) &&& 1 : Nat) : Int)), (.int .u64 ((((bN bs 1 2) / 128) &&& 1 : Nat) : Int)), (.int .u64 ((((bN bs 1 2) / 256) &&& 1 : Nat) : Int)), (.int .u64 ((((bN bs 1 2) / 512) &&& 1 : Nat) : Int)), (.int .u64 ((((bN bs 1 2) / 1024) &&& 1 : Nat) : Int)), (.int .u64 ((((bN bs 1 2) / 2048) &&& 1 : Nat) : Int)), (.int .u64 ((((bN bs 1 2) / 4096) &&& 1 : Nat) : Int)), (.int .u64 ((((bN bs 1 2) / 8192) &&& 1 : Nat) : Int)), (.int .u64 ((bN bs 3 2 : Nat) : Int)), (.int .u64 ((bN bs 5 8 : Nat) : Int)), (.int .u64 ((bN bs 61 8 : Nat) : Int)), (.int .u64 ((bN bs 69 8 : Nat) : Int)), (.int .u64 ((bN bs 93 2 : Nat) : Int))]) (by decide) rfl (fun _ => by kernel_rfl) fun b60 => ⟨(fun _ h => (h.wk [(0, []), (1, [])] rfl)), ?_⟩)
    refine dtake (f := 2) [44] (by kernel_rfl) (St.closed _ _ _ _) (fun _ h => (h.wk [(0, []), (1, [])] rfl)) (by kernel_rfl) ?_
    refine dq rfl (q_call (vs := [(.slice (cutA A c 95) (n - 95) (c - 95)), (.slice (some ⟨b60, 0, none⟩) 17 17)]) (v := (.agg #[(.slice (some ⟨b60, 0, none⟩) 17 17), (.slice none 0 0), (.slice none 0 0), (.slice (cutA A c 95) (n - 95) (c - 95))])) rfl ca_33 (fun w h => layerC w (cutA A c 95) (n - 95) (c - 95) (some ⟨b60, 0, none⟩) 17 17  (St.enter (sp := []) (Kc := []) (bi := []) h rfl rfl rfl))) ?_
    refine QL.nil ?_
    refine RG.step1 45 (by kernel_rfl) ?_
    refine dop rfl (l_alloc (by decide) zero_29 fun b8 => ⟨(fun _ h => (h.wk [(0, []), (1, [])] rfl)), ?_⟩)
    refine RG.step1 46 (by kernel_rfl) ?_
    refine dop rfl (l_storeAgg (b := b8) (off := 0) (j := 3) (vs := [(.slice (some ⟨b60, 0, none⟩) 17 17), (.slice none 0 0), (.slice none 0 0), (.slice (cutA A c 95) (n - 95) (c - 95))]) rfl rfl aggs_29 (by simp [Value.one1]) rfl rfl rfl (Nat.le_of_ble_eq_true rfl) ⟨(fun _ h => (h.wk [(0, []), (1, [])] rfl)), ?_⟩)
    refine dend (by kernel_rfl) ?_
    refine eseq ?_
    refine HT.seq ?_
    refine HT.drawn mixed (St.closed _ _ _ _) (St w [] [⟨b2, 29, [some (.slice none 0 0), some (.slice none 0 0), some (.slice none 0 0), some (.slice none 0 0)], true⟩, ⟨b5, 39, [some (.int .u64 ((bN bs 1 2 : Nat) : Int))], true⟩, ⟨b60, 39, [some (.int .u64 ((nb bs 0 : Nat) : Int)), none, some (.int .u64 ((((bN bs 1 2) / 8) &&& 1 : Nat) : Int)), some (.int .u64 ((((bN bs 1 2) / 16) &&& 3 : Nat) : Int)), some (.int .u64 ((((bN bs 1 2) / 64) &&& 1 : Nat) : Int)), some (.int .u64 ((((bN bs 1 2) / 128) &&& 1 : Nat) : Int)), some (.int .u64 ((((bN bs 1 2) / 256) &&& 1 : Nat) : Int)), some (.int .u64 ((((bN bs 1 2) / 512) &&& 1 : Nat) : Int)), some (.int .u64 ((((bN bs 1 2) / 1024) &&& 1 : Nat) : Int)), some (.int .u64 ((((bN bs 1 2) / 2048) &&& 1 : Nat) : Int)), some (.int .u64 ((((bN bs 1 2) / 4096) &&& 1 : Nat) : Int)), some (.int .u64 ((((bN bs 1 2) / 8192) &&& 1 : Nat) : Int)), some (.int .u64 ((bN bs 3 2 : Nat) : Int)), some (.int .u64 ((bN bs 5 8 : Nat) : Int)), some (.int .u64 ((bN bs 61 8 : Nat) : Int)), some (.int .u64 ((bN bs 69 8 : Nat) : Int)), some (.int .u64 ((bN bs 93 2 : Nat) : Int))], true⟩, ⟨b8, 29, [some (.slice (some ⟨b60, 0, none⟩) 17 17), none, some (.slice none 0 0), some (.slice (cutA A c 95) (n - 95) (c - 95))], true⟩] [Byt A n c bs]) ?_
    refine dtake (f := 3) [0, 1, 2, 3, 4, 5] (by kernel_rfl) (St.closed _ _ _ _) (fun _ h => (h.wk [(0, []), (1, []), (2, [1]), (3, [1])] rfl)) (by kernel_rfl) ?_
    refine dq rfl (q_move rfl) ?_
    refine dq rfl (q_slice (lo := 13) (hi := 45) rfl Tryz.underlying22 nagg_5 (.inr ⟨_, _, rfl, rfl⟩) (.inr ⟨_, _, rfl, rfl⟩) (by omega) (by omega)) ?_
    refine dq rfl (q_move rfl) ?_
    refine dq rfl (q_slice (lo := 45) (hi := 61) rfl Tryz.underlying22 nagg_5 (.inr ⟨_, _, rfl, rfl⟩) (.inr ⟨_, _, rfl, rfl⟩) (by omega) (by omega)) ?_
    refine dq rfl (q_move rfl) ?_
    refine dq rfl (q_slice (lo := 77) (hi := 93) rfl Tryz.underlying22 nagg_5 (.inr ⟨_, _, rfl, rfl⟩) (.inr ⟨_, _, rfl, rfl⟩) (by omega) (by omega)) ?_
    refine QL.nil ?_
    refine RG.step1 6 (by kernel_rfl) ?_
    refine dop rfl (l_buildSlice (e := 22) (vs := [(0, (.slice (cutA A c 13) (45 - 13) (c - 13))), (1, (.slice (cutA A c 45) (61 - 45) (c - 45))), (2, (.slice (cutA A c 77) (93 - 77) (c - 77))), (3, (.slice none 0 0))]) (cs := [(.slice (cutA A c 13) (45 - 13) (c - 13)), (.slice (cutA A c 45) (61 - 45) (c - 45)), (.slice (cutA A c 77) (93 - 77) (c - 77)), (.slice none 0 0)]) (by decide) rfl (fun _ => by kernel_rfl) fun b68 => ⟨(fun _ h => (h.wk [(0, []), (1, []), (2, [1]), (3, [1])] rfl)), ?_⟩)
    refine dtake (f := 1) [7] (by kernel_rfl) (St.closed _ _ _ _) (fun _ h => (h.wk [(0, []), (1, []), (2, [1]), (3, [1])] rfl)) (by kernel_rfl) ?_
    refine dq rfl (q_field (b := b8) (off := 0) rfl fo_29_1) ?_
    refine QL.nil ?_
    refine RG.step1 8 (by kernel_rfl) ?_
    refine dop rfl (l_store (b := b8) (off := 1) (j := 3) rfl rfl nagg_26 rfl rfl rfl rfl (dlt rfl) ⟨(fun _ h => (h.wk [(0, []), (1, []), (2, [1]), (3, [1])] rfl)), ?_⟩)
    refine dend (by kernel_rfl) ?_
    refine eseq ?_
    refine HT.seq ?_
    refine HT.seq ?_
    refine HT.plain ?_
    refine sq (St.closed _ _ _ _) (q_move rfl) rfl ?_
    refine sq (St.closed _ _ _ _) (q_move rfl) rfl ?_
    refine sq (St.closed _ _ _ _) (q_len (len := n) rfl Tryz.underlying22) rfl ?_
    refine sq (St.closed _ _ _ _) (q_sub (p := n) (q := 95) rfl rfl (by omega) (show n < 9223372036854775808 by omega)) rfl ?_
    refine sq (St.closed _ _ _ _) (q_F (q_gt (p := bN bs 93 2) (q := n - 95) rfl rfl) (by have := bN_lt bs 93 2 65536 rfl; omega)) rfl ?_
    refine send ?_
    refine eseq ?_
    refine HT.no rfl ?_
    refine HT.skip ?_
    refine eseq ?_
    refine HT.seq ?_
    refine HT.seq ?_
    refine HT.plain ?_
    refine sq (St.closed _ _ _ _) (q_move rfl) rfl ?_
    refine sq (St.closed _ _ _ _) (q_callC (vs := [(.int .i64 ((12 : Nat) : Int))]) (v := (.int .u64 ((((bN bs 1 2) / 4096) &&& 1 : Nat) : Int))) rfl rfl ca_53 (fun w h => keyBit w 12 4096 b5 (bN bs 1 2) (by have := bN_lt bs 1 2 65536 rfl; omega) (by have := bN_lt bs 1 2 65536 rfl; omega) (by have := bN_lt bs 1 2 65536 rfl; omega) (by have := bN_lt bs 1 2 65536 rfl; omega) (h.ro (j := 1) rfl))) rfl ?_
    refine sq (St.closed _ _ _ _) (q_F (q_eq (p := ((bN bs 1 2) / 4096) &&& 1) (q := 1) rfl rfl) (by have := Nat.div_le_self (bN bs 1 2) 4096; have := zm1 ((bN bs 1 2) / 4096); have := Nat.and_le_left (n := (bN bs 1 2) / 4096) (m := 1); have := Nat.and_le_right (n := (bN bs 1 2) / 4096) (m := 1); omega)) rfl ?_
    refine send ?_
    refine eseq ?_
    refine HT.no rfl ?_
    refine HT.skip ?_
    refine eseq ?_
    refine HT.seq ?_
    refine HT.plain ?_
    refine sq (St.closed _ _ _ _) (q_loadAgg (b := b8) (off := 0) (j := 3) (vs := [(.slice (some ⟨b60, 0, none⟩) 17 17), (.slice (some ⟨b68, 0, none⟩) 4 4), (.slice none 0 0), (.slice (cutA A c 95) (n - 95) (c - 95))]) rfl aggs_29 (fun _ h => h) rfl rfl rfl) rfl ?_
    refine sl_ (l_storeAgg (b := b2) (off := 0) (j := 0) (vs := [(.slice (some ⟨b60, 0, none⟩) 17 17), (.slice (some ⟨b68, 0, none⟩) 4 4), (.slice none 0 0), (.slice (cutA A c 95) (n - 95) (c - 95))]) rfl rfl aggs_29 (by simp [Value.one1]) rfl rfl rfl (Nat.le_of_ble_eq_true rfl) ?_)
    refine sq (St.closed _ _ _ _) (q_assign rfl) rfl ?_
    refine sq (St.closed _ _ _ _) (q_assign rfl) rfl ?_
    refine send ?_
    refine eseq ?_
    refine HT.ret ?_
    exact fun a ha w' hw => fin_ ha (resc3 ha Tryz.results37 rfl (ld_ aggs_29 hw (j := 0) rfl rfl (vs := [(.slice (some ⟨b60, 0, none⟩) 17 17), (.slice (some ⟨b68, 0, none⟩) 4 4), (.slice none 0 0), (.slice (cutA A c 95) (n - 95) (c - 95))]) rfl) rfl rfl) ⟨b60, b68, rfl, (hw.wk [(2, []), (4, [])] rfl), fr0⟩
  · refine dop rfl (l_alloc (by decide) zero_29 fun b8 => ⟨(fun _ h => (h.wk [(0, []), (1, [])] rfl)), ?_⟩)
    refine RG.step1 43 (by kernel_rfl) ?_
    refine dop rfl (l_buildSlice (e := 39) (vs := [(0, (.int .u64 ((nb bs 0 : Nat) : Int))), (1, (.int .u64 (((bN bs 1 2) &&& 7 : Nat) : Int))), (2, (.int .u64 ((((bN bs 1 2) / 8) &&& 1 : Nat) : Int))), (3, (.int .u64 ((((bN bs 1 2) / 16) &&& 3 : Nat) : Int))), (4, (.int .u64 ((((bN bs 1 2) / 64) &&& 1 : Nat) : Int))), (5, (.int .u64 ((((bN bs 1 2) / 128) &&& 1 : Nat) : Int))), (6, (.int .u64 ((((bN bs 1 2) / 256) &&& 1 : Nat) : Int))), (7, (.int .u64 ((((bN bs 1 2) / 512) &&& 1 : Nat) : Int))), (8, (.int .u64 ((((bN bs 1 2) / 1024) &&& 1 : Nat) : Int))), (9, (.int .u64 ((((bN bs 1 2) / 2048) &&& 1 : Nat) : Int))), (10, (.int .u64 ((((bN bs 1 2) / 4096) &&& 1 : Nat) : Int))), (11, (.int .u64 ((((bN bs 1 2) / 8192) &&& 1 : Nat) : Int))), (12, (.int .u64 ((bN bs 3 2 : Nat) : Int))), (13, (.int .u64 ((bN bs 5 8 : Nat) : Int))), (14, (.int .u64 ((bN bs 61 8 : Nat) : Int))), (15, (.int .u64 ((bN bs 69 8 : Nat) : Int))), (16, (.int .u64 ((bN bs 93 2 : Nat) : Int)))]) (cs := [(.int .u64 ((nb bs 0 : Nat) : Int)), (.int .u64 (((bN bs 1 2) &&& 7 : Nat) : Int)), (.int .u64 ((((bN bs 1 2) / 8) &&& 1 : Nat) : Int)), (.int .u64 ((((bN bs 1 2) / 16) &&& 3 : Nat) : Int)), (.int .u64 ((((bN bs 1 2) / 64) &&& 1 : Nat) : Int)), (.int .u64 ((((bN bs 1 2) / 128) &&& 1 : Nat) : Int)), (.int .u64 ((((bN bs 1 2) / 256) &&& 1 : Nat) : Int)), (.int .u64 ((((bN bs 1 2) / 512) &&& 1 : Nat) : Int)), (.int .u64 ((((bN bs 1 2) / 1024) &&& 1 : Nat) : Int)), (.int .u64 ((((bN bs 1 2) / 2048) &&& 1 : Nat) : Int)), (.int .u64 ((((bN bs 1 2) / 4096) &&& 1 : Nat) : Int)), (.int .u64 ((((bN bs 1 2) / 8192) &&& 1 : Nat) : Int)), (.int .u64 ((bN bs 3 2 : Nat) : Int)), (.int .u64 ((bN bs 5 8 : Nat) : Int)), (.int .u64 ((bN bs 61 8 : Nat) : Int)), (.int .u64 ((bN bs 69 8 : Nat) : Int)), (.int .u64 ((bN bs 93 2 : Nat) : Int))]) (by decide) rfl (fun _ => by kernel_rfl) fun b60 => ⟨(fun _ h => (h.wk [(0, []), (1, [])] rfl)), ?_⟩)
    refine dtake (f := 1) [44] (by kernel_rfl) (St.closed _ _ _ _) (fun _ h => (h.wk [(0, []), (1, [])] rfl)) (by kernel_rfl) ?_
    refine dq rfl (q_call (vs := [(.slice (cutA A c 95) (n - 95) (c - 95)), (.slice (some ⟨b60, 0, none⟩) 17 17)]) (v := (.agg #[(.slice (some ⟨b60, 0, none⟩) 17 17), (.slice none 0 0), (.slice none 0 0), (.slice (cutA A c 95) (n - 95) (c - 95))])) rfl ca_33 (fun w h => layerC w (cutA A c 95) (n - 95) (c - 95) (some ⟨b60, 0, none⟩) 17 17  (St.enter (sp := []) (Kc := []) (bi := []) h rfl rfl rfl))) ?_
    refine QL.nil ?_
    refine RG.step1 46 (by kernel_rfl) ?_
    refine dop rfl (l_storeAgg (b := b8) (off := 0) (j := 2) (vs := [(.slice (some ⟨b60, 0, none⟩) 17 17), (.slice none 0 0), (.slice none 0 0), (.slice (cutA A c 95) (n - 95) (c - 95))]) rfl rfl aggs_29 (by simp [Value.one1]) rfl rfl rfl (Nat.le_of_ble_eq_true rfl) ⟨(fun _ h => (h.wk [(0, []), (1, [])] rfl)), ?_⟩)
    refine dend (by kernel_rfl) ?_
    refine eseq ?_
    refine HT.seq ?_
    refine HT.drawn mixed (St.closed _ _ _ _) (St w [] [⟨b2, 29, [some (.slice none 0 0), some (.slice none 0 0), some (.slice none 0 0), some (.slice none 0 0)], true⟩, ⟨b5, 39, [some (.int .u64 ((bN bs 1 2 : Nat) : Int))], true⟩, ⟨b8, 29, [some (.slice (some ⟨b60, 0, none⟩) 17 17), none, some (.slice none 0 0), some (.slice (cutA A c 95) (n - 95) (c - 95))], true⟩, ⟨b60, 39, [some (.int .u64 ((nb bs 0 : Nat) : Int)), none, some (.int .u64 ((((bN bs 1 2) / 8) &&& 1 : Nat) : Int)), some (.int .u64 ((((bN bs 1 2) / 16) &&& 3 : Nat) : Int)), some (.int .u64 ((((bN bs 1 2) / 64) &&& 1 : Nat) : Int)), some (.int .u64 ((((bN bs 1 2) / 128) &&& 1 : Nat) : Int)), some (.int .u64 ((((bN bs 1 2) / 256) &&& 1 : Nat) : Int)), some (.int .u64 ((((bN bs 1 2) / 512) &&& 1 : Nat) : Int)), some (.int .u64 ((((bN bs 1 2) / 1024) &&& 1 : Nat) : Int)), some (.int .u64 ((((bN bs 1 2) / 2048) &&& 1 : Nat) : Int)), some (.int .u64 ((((bN bs 1 2) / 4096) &&& 1 : Nat) : Int)), some (.int .u64 ((((bN bs 1 2) / 8192) &&& 1 : Nat) : Int)), some (.int .u64 ((bN bs 3 2 : Nat) : Int)), some (.int .u64 ((bN bs 5 8 : Nat) : Int)), some (.int .u64 ((bN bs 61 8 : Nat) : Int)), some (.int .u64 ((bN bs 69 8 : Nat) : Int)), some (.int .u64 ((bN bs 93 2 : Nat) : Int))], true⟩] [Byt A n c bs]) ?_
    refine dtake (f := 3) [0, 1, 2, 3, 4, 5] (by kernel_rfl) (St.closed _ _ _ _) (fun _ h => (h.wk [(0, []), (1, []), (2, [1]), (3, [1])] rfl)) (by kernel_rfl) ?_
    refine dq rfl (q_move rfl) ?_
    refine dq rfl (q_slice (lo := 13) (hi := 45) rfl Tryz.underlying22 nagg_5 (.inr ⟨_, _, rfl, rfl⟩) (.inr ⟨_, _, rfl, rfl⟩) (by omega) (by omega)) ?_
    refine dq rfl (q_move rfl) ?_
    refine dq rfl (q_slice (lo := 45) (hi := 61) rfl Tryz.underlying22 nagg_5 (.inr ⟨_, _, rfl, rfl⟩) (.inr ⟨_, _, rfl, rfl⟩) (by omega) (by omega)) ?_
    refine dq rfl (q_move rfl) ?_
    refine dq rfl (q_slice (lo := 77) (hi := 93) rfl Tryz.underlying22 nagg_5 (.inr ⟨_, _, rfl, rfl⟩) (.inr ⟨_, _, rfl, rfl⟩) (by omega) (by omega)) ?_
    refine QL.nil ?_
    refine RG.step1 6 (by kernel_rfl) ?_
    refine dop rfl (l_buildSlice (e := 22) (vs := [(0, (.slice (cutA A c 13) (45 - 13) (c - 13))), (1, (.slice (cutA A c 45) (61 - 45) (c - 45))), (2, (.slice (cutA A c 77) (93 - 77) (c - 77))), (3, (.slice none 0 0))]) (cs := [(.slice (cutA A c 13) (45 - 13) (c - 13)), (.slice (cutA A c 45) (61 - 45) (c - 45)), (.slice (cutA A c 77) (93 - 77) (c - 77)), (.slice none 0 0)]) (by decide) rfl (fun _ => by kernel_rfl) fun b68 => ⟨(fun _ h => (h.wk [(0, []), (1, []), (2, [1]), (3, [1])] rfl)), ?_⟩)
    refine dtake (f := 1) [7] (by kernel_rfl) (St.closed _ _ _ _) (fun _ h => (h.wk [(0, []), (1, []), (2, [1]), (3, [1])] rfl)) (by kernel_rfl) ?_
    refine dq rfl (q_field (b := b8) (off := 0) rfl fo_29_1) ?_
    refine QL.nil ?_
    refine RG.step1 8 (by kernel_rfl) ?_
    refine dop rfl (l_store (b := b8) (off := 1) (j := 2) rfl rfl nagg_26 rfl rfl rfl rfl (dlt rfl) ⟨(fun _ h => (h.wk [(0, []), (1, []), (2, [1]), (3, [1])] rfl)), ?_⟩)
    refine dend (by kernel_rfl) ?_
    refine eseq ?_
    refine HT.seq ?_
    refine HT.seq ?_
    refine HT.plain ?_
    refine sq (St.closed _ _ _ _) (q_move rfl) rfl ?_
    refine sq (St.closed _ _ _ _) (q_move rfl) rfl ?_
    refine sq (St.closed _ _ _ _) (q_len (len := n) rfl Tryz.underlying22) rfl ?_
    refine sq (St.closed _ _ _ _) (q_sub (p := n) (q := 95) rfl rfl (by omega) (show n < 9223372036854775808 by omega)) rfl ?_
    refine sq (St.closed _ _ _ _) (q_F (q_gt (p := bN bs 93 2) (q := n - 95) rfl rfl) (by have := bN_lt bs 93 2 65536 rfl; omega)) rfl ?_
    refine send ?_
    refine eseq ?_
    refine HT.no rfl ?_
    refine HT.skip ?_
    refine eseq ?_
    refine HT.seq ?_
    refine HT.seq ?_
    refine HT.plain ?_
    refine sq (St.closed _ _ _ _) (q_move rfl) rfl ?_
    refine sq (St.closed _ _ _ _) (q_callC (vs := [(.int .i64 ((12 : Nat) : Int))]) (v := (.int .u64 ((((bN bs 1 2) / 4096) &&& 1 : Nat) : Int))) rfl rfl ca_53 (fun w h => keyBit w 12 4096 b5 (bN bs 1 2) (by have := bN_lt bs 1 2 65536 rfl; omega) (by have := bN_lt bs 1 2 65536 rfl; omega) (by have := bN_lt bs 1 2 65536 rfl; omega) (by have := bN_lt bs 1 2 65536 rfl; omega) (h.ro (j := 1) rfl))) rfl ?_
    refine sq (St.closed _ _ _ _) (q_F (q_eq (p := ((bN bs 1 2) / 4096) &&& 1) (q := 1) rfl rfl) (by have := Nat.div_le_self (bN bs 1 2) 4096; have := zm1 ((bN bs 1 2) / 4096); have := Nat.and_le_left (n := (bN bs 1 2) / 4096) (m := 1); have := Nat.and_le_right (n := (bN bs 1 2) / 4096) (m := 1); omega)) rfl ?_
    refine send ?_
    refine eseq ?_
    refine HT.no rfl ?_
    refine HT.skip ?_
    refine eseq ?_
    refine HT.seq ?_
    refine HT.plain ?_
    refine sq (St.closed _ _ _ _) (q_loadAgg (b := b8) (off := 0) (j := 2) (vs := [(.slice (some ⟨b60, 0, none⟩) 17 17), (.slice (some ⟨b68, 0, none⟩) 4 4), (.slice none 0 0), (.slice (cutA A c 95) (n - 95) (c - 95))]) rfl aggs_29 (fun _ h => h) rfl rfl rfl) rfl ?_
    refine sl_ (l_storeAgg (b := b2) (off := 0) (j := 0) (vs := [(.slice (some ⟨b60, 0, none⟩) 17 17), (.slice (some ⟨b68, 0, none⟩) 4 4), (.slice none 0 0), (.slice (cutA A c 95) (n - 95) (c - 95))]) rfl rfl aggs_29 (by simp [Value.one1]) rfl rfl rfl (Nat.le_of_ble_eq_true rfl) ?_)
    refine sq (St.closed _ _ _ _) (q_assign rfl) rfl ?_
    refine sq (St.closed _ _ _ _) (q_assign rfl) rfl ?_
    refine send ?_
    refine eseq ?_
    refine HT.ret ?_
    exact fun a ha w' hw => fin_ ha (resc3 ha Tryz.results37 rfl (ld_ aggs_29 hw (j := 0) rfl rfl (vs := [(.slice (some ⟨b60, 0, none⟩) 17 17), (.slice (some ⟨b68, 0, none⟩) 4 4), (.slice none 0 0), (.slice (cutA A c 95) (n - 95) (c - 95))]) rfl) rfl rfl) ⟨b60, b68, rfl, (hw.wk [(3, []), (4, [])] rfl), fr0⟩

theorem eapolkey_S3 (w : World) (A : Option Addr) (n : Nat) (c : Nat) (bs : List UInt8) (hn : n ≤ 2147483647) (ha : 95 ≤ n) (hb : bN bs 93 2 ≤ n - 95) (hc : bN bs 1 2 / 4096 % 2 = 0) (hst : St w [] [] [Byt A n c bs] w) : Calls Tryz.prog 26 #[(.string ⟨#[101, 97, 112, 111, 108, 107, 101, 121]⟩), (.slice A n c)] w (SP w (Byt A n c bs) (some (some ⟨[nb bs 0, (bN bs 1 2) &&& 7, ((bN bs 1 2) / 8) &&& 1, ((bN bs 1 2) / 16) &&& 3, ((bN bs 1 2) / 64) &&& 1, ((bN bs 1 2) / 128) &&& 1, ((bN bs 1 2) / 256) &&& 1, ((bN bs 1 2) / 512) &&& 1, ((bN bs 1 2) / 1024) &&& 1, ((bN bs 1 2) / 2048) &&& 1, ((bN bs 1 2) / 4096) &&& 1, ((bN bs 1 2) / 8192) &&& 1, bN bs 3 2, bN bs 5 8, bN bs 61 8, bN bs 69 8, bN bs 93 2], [sl bs 13 45, sl bs 45 61, sl bs 77 93, []], [], sl bs 95 n⟩))) := by
  have hnc00 : n ≤ c := (hst.fact (j := 0) rfl).2.1
  refine enter (vs := [(.string ⟨#[101, 97, 112, 111, 108, 107, 101, 121]⟩), (.slice A n c)]) Tryz.func26 rfl rfl rfl hst ?_
  refine HT.seq ?_
  refine HT.plain ?_
  refine sl_ (l_alloc (by decide) zero_29 fun b4 => ?_)
  refine sq (St.closed _ _ _ _) (q_assign rfl) rfl ?_
  refine sq (St.closed _ _ _ _) (q_assign rfl) rfl ?_
  refine send ?_
  refine eseq ?_
  refine HT.seq ?_
  refine HT.plain ?_
  refine sl_ (l_makeMap (by decide) fun b13 => ?_)
  refine sl_ (l_insert (es := es0) (ck := 0) rfl rfl rfl Tryz.underlying36 Tryz.underlying9 fi0 ?_)
  refine sl_ (l_insert (es := es1) (ck := 1) rfl rfl rfl Tryz.underlying36 Tryz.underlying9 fi1 ?_)
  refine sl_ (l_insert (es := es2) (ck := 2) rfl rfl rfl Tryz.underlying36 Tryz.underlying9 fi2 ?_)
  refine sl_ (l_insert (es := es3) (ck := 3) rfl rfl rfl Tryz.underlying36 Tryz.underlying9 fi3 ?_)
  refine sl_ (l_insert (es := es4) (ck := 4) rfl rfl rfl Tryz.underlying36 Tryz.underlying9 fi4 ?_)
  refine sl_ (l_insert (es := es5) (ck := 5) rfl rfl rfl Tryz.underlying36 Tryz.underlying9 fi5 ?_)
  refine sl_ (l_insert (es := es6) (ck := 6) rfl rfl rfl Tryz.underlying36 Tryz.underlying9 fi6 ?_)
  refine sl_ (l_insert (es := es7) (ck := 7) rfl rfl rfl Tryz.underlying36 Tryz.underlying9 fi7 ?_)
  refine sl_ (l_insert (es := es8) (ck := 8) rfl rfl rfl Tryz.underlying36 Tryz.underlying9 fi8 ?_)
  refine sl_ (l_insert (es := es9) (ck := 9) rfl rfl rfl Tryz.underlying36 Tryz.underlying9 fi9 ?_)
  refine sl_ (l_insert (es := es10) (ck := 10) rfl rfl rfl Tryz.underlying36 Tryz.underlying9 fi10 ?_)
  refine sl_ (l_insert (es := es11) (ck := 11) rfl rfl rfl Tryz.underlying36 Tryz.underlying9 fi11 ?_)
  refine sl_ (l_insert (es := es12) (ck := 12) rfl rfl rfl Tryz.underlying36 Tryz.underlying9 fi12 ?_)
  refine sl_ (l_insert (es := es13) (ck := 13) rfl rfl rfl Tryz.underlying36 Tryz.underlying9 fi13 ?_)
  refine sl_ (l_insert (es := es14) (ck := 14) rfl rfl rfl Tryz.underlying36 Tryz.underlying9 fi14 ?_)
  refine sl_ (l_insert (es := es15) (ck := 15) rfl rfl rfl Tryz.underlying36 Tryz.underlying9 fi15 ?_)
  refine sl_ (l_insert (es := es16) (ck := 16) rfl rfl rfl Tryz.underlying36 Tryz.underlying9 fi16 ?_)
  refine sl_ (l_insert (es := es17) (ck := 17) rfl rfl rfl Tryz.underlying36 Tryz.underlying9 fi17 ?_)
  refine sl_ (l_insert (es := es18) (ck := 18) rfl rfl rfl Tryz.underlying36 Tryz.underlying9 fi18 ?_)
  refine sl_ (l_insert (es := es19) (ck := 19) rfl rfl rfl Tryz.underlying36 Tryz.underlying9 fi19 ?_)
  refine sl_ (l_insert (es := es20) (ck := 20) rfl rfl rfl Tryz.underlying36 Tryz.underlying9 fi20 ?_)
  refine sq (SM.closed) (q_move rfl) rfl ?_
  refine sq (SM.closed) (q_move rfl) rfl ?_
  refine sq (SM.closed) (q_lookup (es := es21) (i := 7) (v := (.int .i64 ((95 : Nat) : Int))) (fun _ h => h) rfl rfl Tryz.underlying36 Tryz.underlying9 (by kernel_rfl)) rfl ?_
  refine sq (SM.closed) (q_assign rfl) rfl ?_
  refine send ?_
  refine eseq ?_
  refine HT.unmap ?_
  refine HT.seq ?_
  refine HT.seq ?_
  refine HT.plain ?_
  refine sq (St.closed _ _ _ _) (q_move rfl) rfl ?_
  refine sq (St.closed _ _ _ _) (q_len (len := n) rfl Tryz.underlying22) rfl ?_
  refine sq (St.closed _ _ _ _) (q_move rfl) rfl ?_
  refine sq (St.closed _ _ _ _) (q_F (q_lt (p := n) (q := 95) rfl rfl) (by omega)) rfl ?_
  refine send ?_
  refine eseq ?_
  refine HT.no rfl ?_
  refine HT.skip ?_
  refine eseq ?_
  refine HT.seq ?_
  refine HT.seq ?_
  refine HT.plain ?_
  refine sq (St.closed _ _ _ _) (q_move rfl) rfl ?_
  refine send ?_
  refine eseq ?_
  refine HT.block ?_
  refine HT.seq ?_
  refine HT.plain ?_
  refine sq (St.closed _ _ _ _) (q_eqs rfl rfl (r := false) (by kernel_rfl)) rfl ?_
  refine sq (St.closed _ _ _ _) (q_assign rfl) rfl ?_
  refine send ?_
  refine eseq ?_
  refine HT.no rfl ?_
  refine HT.seq ?_
  refine HT.plain ?_
  refine sq (St.closed _ _ _ _) (q_eqs rfl rfl (r := false) (by kernel_rfl)) rfl ?_
  refine sq (St.closed _ _ _ _) (q_assign rfl) rfl ?_
  refine send ?_
  refine eseq ?_
  refine HT.no rfl ?_
  refine HT.seq ?_
  refine HT.plain ?_
  refine sq (St.closed _ _ _ _) (q_eqs rfl rfl (r := false) (by kernel_rfl)) rfl ?_
  refine sq (St.closed _ _ _ _) (q_assign rfl) rfl ?_
  refine send ?_
  refine eseq ?_
  refine HT.no rfl ?_
  refine HT.seq ?_
  refine HT.plain ?_
  refine sq (St.closed _ _ _ _) (q_eqs rfl rfl (r := false) (by kernel_rfl)) rfl ?_
  refine sq (St.closed _ _ _ _) (q_assign rfl) rfl ?_
  refine send ?_
  refine eseq ?_
  refine HT.no rfl ?_
  refine HT.seq ?_
  refine HT.plain ?_
  refine sq (St.closed _ _ _ _) (q_eqs rfl rfl (r := false) (by kernel_rfl)) rfl ?_
  refine sq (St.closed _ _ _ _) (q_assign rfl) rfl ?_
  refine send ?_
  refine eseq ?_
  refine HT.no rfl ?_
  refine HT.seq ?_
  refine HT.plain ?_
  refine sq (St.closed _ _ _ _) (q_eqs rfl rfl (r := false) (by kernel_rfl)) rfl ?_
  refine sq (St.closed _ _ _ _) (q_assign rfl) rfl ?_
  refine send ?_
  refine eseq ?_
  refine HT.no rfl ?_
  refine HT.seq ?_
  refine HT.plain ?_
  refine sq (St.closed _ _ _ _) (q_eqs rfl rfl (r := false) (by kernel_rfl)) rfl ?_
  refine sq (St.closed _ _ _ _) (q_assign rfl) rfl ?_
  refine send ?_
  refine eseq ?_
  refine HT.no rfl ?_
  refine HT.seq ?_
  refine HT.plain ?_
  refine sq (St.closed _ _ _ _) (q_eqs rfl rfl (r := true) (by kernel_rfl)) rfl ?_
  refine sq (St.closed _ _ _ _) (q_assign rfl) rfl ?_
  refine send ?_
  refine eseq ?_
  refine HT.yes rfl ?_
  refine HT.seq ?_
  refine HT.plain ?_
  refine sq (St.closed _ _ _ _) (q_move rfl) rfl ?_
  refine sl_ (l_callX2 (vs := [(.slice A n c)]) (Kc := []) (Bc := [Byt A n c bs]) [] [0] [Byt A n c bs] (fun b60 b68 => [⟨b4, 29, [some (.slice none 0 0), some (.slice none 0 0), some (.slice none 0 0), some (.slice none 0 0)], true⟩, ⟨b60, 39, [some (.int .u64 ((nb bs 0 : Nat) : Int)), some (.int .u64 (((bN bs 1 2) &&& 7 : Nat) : Int)), some (.int .u64 ((((bN bs 1 2) / 8) &&& 1 : Nat) : Int)), some (.int .u64 ((((bN bs 1 2) / 16) &&& 3 : Nat) : Int)), some (.int .u64 ((((bN bs 1 2) / 64) &&& 1 : Nat) : Int)), some (.int .u64 ((((bN bs 1 2) / 128) &&& 1 : Nat) : Int)), some (.int .u64 ((((bN bs 1 2) / 256) &&& 1 : Nat) : Int)), some (.int .u64 ((((bN bs 1 2) / 512) &&& 1 : Nat) : Int)), some (.int .u64 ((((bN bs 1 2) / 1024) &&& 1 : Nat) : Int)), some (.int .u64 ((((bN bs 1 2) / 2048) &&& 1 : Nat) : Int)), some (.int .u64 ((((bN bs 1 2) / 4096) &&& 1 : Nat) : Int)), some (.int .u64 ((((bN bs 1 2) / 8192) &&& 1 : Nat) : Int)), some (.int .u64 ((bN bs 3 2 : Nat) : Int)), some (.int .u64 ((bN bs 5 8 : Nat) : Int)), some (.int .u64 ((bN bs 61 8 : Nat) : Int)), some (.int .u64 ((bN bs 69 8 : Nat) : Int)), some (.int .u64 ((bN bs 93 2 : Nat) : Int))], true⟩, ⟨b68, 22, [some (.slice (cutA A c 13) (45 - 13) (c - 13)), some (.slice (cutA A c 45) (61 - 45) (c - 45)), some (.slice (cutA A c 77) (93 - 77) (c - 77)), some (.slice none 0 0)], true⟩]) (fun b60 b68 => [Byt A n c bs]) (by decide) rfl ca_37 (fun _ h => h) rfl rfl rfl rfl (fun w h => eapolkey_s3 w A n c bs (by omega) (by omega) (by omega) (by omega) h) (fun _ _ => rfl) (fun _ _ => rfl) (fun _ _ => rfl) (fun _ _ => rfl) fun b60 b68 hf1 he2 => ?_)
  refine sq (St.closed _ _ _ _) (q_extract (vs := [(.agg #[(.slice (some ⟨b60, 0, none⟩) 17 17), (.slice (some ⟨b68, 0, none⟩) 4 4), (.slice none 0 0), (.slice (cutA A c 95) (n - 95) (c - 95))]), (.bool true), (.bool true)]) (i := 0) rfl rfl) rfl ?_
  refine sq (St.closed _ _ _ _) (q_extract (vs := [(.agg #[(.slice (some ⟨b60, 0, none⟩) 17 17), (.slice (some ⟨b68, 0, none⟩) 4 4), (.slice none 0 0), (.slice (cutA A c 95) (n - 95) (c - 95))]), (.bool true), (.bool true)]) (i := 1) rfl rfl) rfl ?_
  refine sq (St.closed _ _ _ _) (q_extract (vs := [(.agg #[(.slice (some ⟨b60, 0, none⟩) 17 17), (.slice (some ⟨b68, 0, none⟩) 4 4), (.slice none 0 0), (.slice (cutA A c 95) (n - 95) (c - 95))]), (.bool true), (.bool true)]) (i := 2) rfl rfl) rfl ?_
  refine sl_ (l_storeAgg (b := b4) (off := 0) (j := 0) (vs := [(.slice (some ⟨b60, 0, none⟩) 17 17), (.slice (some ⟨b68, 0, none⟩) 4 4), (.slice none 0 0), (.slice (cutA A c 95) (n - 95) (c - 95))]) rfl rfl aggs_29 (by simp [Value.one1]) rfl rfl rfl (Nat.le_of_ble_eq_true rfl) ?_)
  refine sq (St.closed _ _ _ _) (q_assign rfl) rfl ?_
  refine sq (St.closed _ _ _ _) (q_assign rfl) rfl ?_
  refine send ?_
  refine eseq ?_
  refine HT.ret ?_
  refine rt_in ?_
  refine rt_then ?_
  exact fun a ha w' hw => fin_ ha (resc3 ha Tryz.results26 rfl (ld_ aggs_29 hw (j := 0) rfl rfl (vs := [(.slice (some ⟨b60, 0, none⟩) 17 17), (.slice (some ⟨b68, 0, none⟩) 4 4), (.slice none 0 0), (.slice (cutA A c 95) (n - 95) (c - 95))]) rfl) rfl rfl) ⟨⟨⟨some ⟨b60, 0, none⟩, 17, 17, [nb bs 0, (bN bs 1 2) &&& 7, ((bN bs 1 2) / 8) &&& 1, ((bN bs 1 2) / 16) &&& 3, ((bN bs 1 2) / 64) &&& 1, ((bN bs 1 2) / 128) &&& 1, ((bN bs 1 2) / 256) &&& 1, ((bN bs 1 2) / 512) &&& 1, ((bN bs 1 2) / 1024) &&& 1, ((bN bs 1 2) / 2048) &&& 1, ((bN bs 1 2) / 4096) &&& 1, ((bN bs 1 2) / 8192) &&& 1, bN bs 3 2, bN bs 5 8, bN bs 61 8, bN bs 69 8, bN bs 93 2]⟩, some ⟨b68, 0, none⟩, 4, 4, [⟨cutA A c 13, 45 - 13, c - 13, sl bs 13 45⟩, ⟨cutA A c 45, 61 - 45, c - 45, sl bs 45 61⟩, ⟨cutA A c 77, 93 - 77, c - 77, sl bs 77 93⟩, ⟨none, 0, 0, []⟩], none, 0, 0, [], ⟨cutA A c 95, n - 95, c - 95, sl bs 95 n⟩⟩, rfl, hw.pres, Own.lay (all1 (Own.cel hw (j := 1) (sz := 1) (r := []) rfl rfl rfl rfl (Nat.le_refl _)) (all1 (Own.cel hw (j := 2) (sz := 1) (r := []) rfl rfl rfl rfl (Nat.le_refl _)) (all1 (Own.nilCel 2) (all1 (Own.cut hw (j := 0) (lo := 95) (hi := n) rfl (fun _ h => .inr h) (by omega) (by omega)) (all1 (Own.cut hw (j := 0) (lo := 13) (hi := 45) rfl (fun _ h => .inr h) (by omega) (by omega)) (all1 (Own.cut hw (j := 0) (lo := 45) (hi := 61) rfl (fun _ h => .inr h) (by omega) (by omega)) (all1 (Own.cut hw (j := 0) (lo := 77) (hi := 93) rfl (fun _ h => .inr h) (by omega) (by omega)) (all1 Own.nilByt all0)))))))), rfl⟩
end Go.Proofs.YtfkaafbeeegenaaGreat.Zed
