/- linuxsll: the reference -/
import Derived.Test.YtfkaafbeeegenaaGreatRead
import Derived.KernelRfl
namespace Go.Proofs.YtfkaafbeeegenaaGreat.Zed
set_option linter.unusedVariables false
set_option linter.unusedSimpArgs false
set_option maxRecDepth 100000
set_option maxHeartbeats 4000000
theorem ca_36 : callable Tryz.prog 36 = true := by kernel_rfl
theorem ca_95 : callable Tryz.prog 95 = true := by kernel_rfl
theorem ca_73 : callable Tryz.prog 73 = true := by kernel_rfl
theorem ca_62 : callable Tryz.prog 62 = true := by kernel_rfl
theorem ca_91 : callable Tryz.prog 91 = true := by kernel_rfl
theorem fo_93_1 : foff Tryz.prog 93 1 = some 2 := by kernel_rfl
theorem nagg_90 : nagg Tryz.prog 90 = true := by kernel_rfl
theorem fo_93_5 : foff Tryz.prog 93 5 = some 6 := by kernel_rfl
theorem nagg_70 : nagg Tryz.prog 70 = true := by kernel_rfl
theorem fo_93_2 : foff Tryz.prog 93 2 = some 3 := by kernel_rfl
theorem fo_93_3 : foff Tryz.prog 93 3 = some 4 := by kernel_rfl
theorem nagg_91 : nagg Tryz.prog 91 = true := by kernel_rfl
theorem fo_93_4 : foff Tryz.prog 93 4 = some 5 := by kernel_rfl
theorem nagg_82 : nagg Tryz.prog 82 = true := by kernel_rfl
theorem fo_93_0 : foff Tryz.prog 93 0 = some 0 := by kernel_rfl
theorem aggs_68 : aggs Tryz.prog 68 = some 2 := by kernel_rfl
theorem me_89_LayerPayload : ∀ (b : Nat) (w : World), (method (Tryz.prog.types.size + Made.depth) 89 (.pointer (some ⟨b, 0, none⟩)) "LayerPayload").run Tryz.prog w = .ok (120, .pointer (some ⟨b, 0, none⟩)) w := fun b w => by kernel_rfl

theorem linuxsll_S0 (w : World) (A : Option Addr) (n : Nat) (c : Nat) (bs : List UInt8) (hn : n ≤ 2147483647) (ha : n < 16) (hst : St w [] [] [Byt A n c bs] w) : Calls Tryz.prog 26 #[(.string ⟨#[108, 105, 110, 117, 120, 115, 108, 108]⟩), (.slice A n c)] w (SP w (Byt A n c bs) (some none)) := by
  have hnc00 : n ≤ c := (hst.fact (j := 0) rfl).2.1
  refine enter (vs := [(.string ⟨#[108, 105, 110, 117, 120, 115, 108, 108]⟩), (.slice A n c)]) Tryz.func26 rfl rfl rfl hst ?_
  refine HT.seq ?_
  refine HT.plain ?_
  refine sl_ (l_alloc (by decide) zero_29 fun b4 => ?_)
  refine sq (St.closed _ _ _ _) (q_assign rfl) rfl ?_
  refine sq (St.closed _ _ _ _) (q_assign rfl) rfl ?_
  refine send ?_
  refine eseq ?_
  refine HT.seq ?_
  refine HT.plain ?_
  refine sl_ (l_makeMap (by decide) fun b13 => ?_)
  refine sl_ (l_insert (es := es0) (ck := 0) rfl rfl rfl Tryz.underlying36 Tryz.underlying9 fi0 ?_)
  refine sl_ (l_insert (es := es1) (ck := 1) rfl rfl rfl Tryz.underlying36 Tryz.underlying9 fi1 ?_)
  refine sl_ (l_insert (es := es2) (ck := 2) rfl rfl rfl Tryz.underlying36 Tryz.underlying9 fi2 ?_)
  refine sl_ (l_insert (es := es3) (ck := 3) rfl rfl rfl Tryz.underlying36 Tryz.underlying9 fi3 ?_)
  refine sl_ (l_insert (es := es4) (ck := 4) rfl rfl rfl Tryz.underlying36 Tryz.underlying9 fi4 ?_)
  refine sl_ (l_insert (es := es5) (ck := 5) rfl rfl rfl Tryz.underlying36 Tryz.underlying9 fi5 ?_)
  refine sl_ (l_insert (es := es6) (ck := 6) rfl rfl rfl Tryz.underlying36 Tryz.underlying9 fi6 ?_)
  refine sl_ (l_insert (es := es7) (ck := 7) rfl rfl rfl Tryz.underlying36 Tryz.underlying9 fi7 ?_)
  refine sl_ (l_insert (es := es8) (ck := 8) rfl rfl rfl Tryz.underlying36 Tryz.underlying9 fi8 ?_)
  refine sl_ (l_insert (es := es9) (ck := 9) rfl rfl rfl Tryz.underlying36 Tryz.underlying9 fi9 ?_)
  refine sl_ (l_insert (es := es10) (ck := 10) rfl rfl rfl Tryz.underlying36 Tryz.underlying9 fi10 ?_)
  refine sl_ (l_insert (es := es11) (ck := 11) rfl rfl rfl Tryz.underlying36 Tryz.underlying9 fi11 ?_)
  refine sl_ (l_insert (es := es12) (ck := 12) rfl rfl rfl Tryz.underlying36 Tryz.underlying9 fi12 ?_)
  refine sl_ (l_insert (es := es13) (ck := 13) rfl rfl rfl Tryz.underlying36 Tryz.underlying9 fi13 ?_)
  refine sl_ (l_insert (es := es14) (ck := 14) rfl rfl rfl Tryz.underlying36 Tryz.underlying9 fi14 ?_)
  refine sl_ (l_insert (es := es15) (ck := 15) rfl rfl rfl Tryz.underlying36 Tryz.underlying9 fi15 ?_)
  refine sl_ (l_insert (es := es16) (ck := 16) rfl rfl rfl Tryz.underlying36 Tryz.underlying9 fi16 ?_)
  refine sl_ (l_insert (es := es17) (ck := 17) rfl rfl rfl Tryz.underlying36 Tryz.underlying9 fi17 ?_)
  refine sl_ (l_insert (es := es18) (ck := 18) rfl rfl rfl Tryz.underlying36 Tryz.underlying9 fi18 ?_)
  refine sl_ (l_insert (es := es19) (ck := 19) rfl rfl rfl Tryz.underlying36 Tryz.underlying9 fi19 ?_)
  refine sl_ (l_insert (es := es20) (ck := 20) rfl rfl rfl Tryz.underlying36 Tryz.underlying9 fi20 ?_)
  refine sq (SM.closed) (q_move rfl) rfl ?_
  refine sq (SM.closed) (q_move rfl) rfl ?_
  refine sq (SM.closed) (q_lookup (es := es21) (i := 5) (v := (.int .i64 ((16 : Nat) : Int))) (fun _ h => h) rfl rfl Tryz.underlying36 Tryz.underlying9 (by kernel_rfl)) rfl ?_
  refine sq (SM.closed) (q_assign rfl) rfl ?_
  refine send ?_
  refine eseq ?_
  refine HT.unmap ?_
  refine HT.seq ?_
  refine HT.seq ?_
  refine HT.plain ?_
  refine sq (St.closed _ _ _ _) (q_move rfl) rfl ?_
  refine sq (St.closed _ _ _ _) (q_len (len := n) rfl Tryz.underlying22) rfl ?_
  refine sq (St.closed _ _ _ _) (q_move rfl) rfl ?_
  refine sq (St.closed _ _ _ _) (q_T (q_lt (p := n) (q := 16) rfl rfl) (by omega)) rfl ?_
  refine send ?_
  refine eseq ?_
  refine HT.yes rfl ?_
  refine HT.seq ?_
  refine HT.plain ?_
  refine sq (St.closed _ _ _ _) (q_build (vs := []) (v := (.agg #[(.slice none 0 0), (.slice none 0 0), (.slice none 0 0), (.slice none 0 0)])) rfl (fun _ => by kernel_rfl)) rfl ?_
  refine sl_ (l_storeAgg (b := b4) (off := 0) (j := 0) (vs := [(.slice none 0 0), (.slice none 0 0), (.slice none 0 0), (.slice none 0 0)]) rfl rfl aggs_29 (by simp [Value.one1]) rfl rfl rfl (Nat.le_of_ble_eq_true rfl) ?_)
  refine sq (St.closed _ _ _ _) (q_assign rfl) rfl ?_
  refine sq (St.closed _ _ _ _) (q_assign rfl) rfl ?_
  refine send ?_
  refine eseq ?_
  refine HT.ret ?_
  refine rt_then ?_
  exact fun a ha w' hw => fin_ ha (resc3 ha Tryz.results26 rfl (ld_ aggs_29 hw (j := 0) rfl rfl (vs := [(.slice none 0 0), (.slice none 0 0), (.slice none 0 0), (.slice none 0 0)]) rfl) rfl rfl) ⟨rfl, hw.pres⟩

theorem linuxsll_s1 (w : World) (A : Option Addr) (n : Nat) (c : Nat) (bs : List UInt8) (hn : n ≤ 2147483647) (ha : 16 ≤ n) (hb : 8 < bN bs 4 2) (hst : St w [] [] [Byt A n c bs] w) : Calls Tryz.prog 36 #[(.slice A n c)] w (CP1 w [] [Byt A n c bs] (fun b24 => (.tuple #[(.agg #[(.slice (some ⟨b24, 0, none⟩) 4 4), (.slice none 0 0), (.slice none 0 0), (.slice (cutA A c 16) (n - 16) (c - 16))]), (.bool false), (.bool false)])) (fun b24 => [⟨b24, 39, [some (.int .u64 ((bN bs 0 2 : Nat) : Int)), some (.int .u64 ((bN bs 4 2 : Nat) : Int)), some (.int .u64 ((bN bs 14 2 : Nat) : Int)), some (.int .u64 ((bN bs 2 2 : Nat) : Int))], true⟩]) (fun b24 => [])) := by
  have hnc00 : n ≤ c := (hst.fact (j := 0) rfl).2.1
  refine enter (vs := [(.slice A n c)]) Tryz.func36 rfl rfl rfl hst ?_
  refine HT.seq ?_
  refine HT.plain ?_
  refine sl_ (l_alloc (by decide) zero_29 fun b2 => ?_)
  refine sq (St.closed _ _ _ _) (q_assign rfl) rfl ?_
  refine sq (St.closed _ _ _ _) (q_assign rfl) rfl ?_
  refine send ?_
  refine eseq ?_
  refine HT.seq ?_
  refine HT.plain ?_
  refine sq (St.closed _ _ _ _) (q_move rfl) rfl ?_
  refine sq (St.closed _ _ _ _) (q_slice (lo := 4) (hi := 6) rfl Tryz.underlying22 nagg_5 (.inr ⟨_, _, rfl, rfl⟩) (.inr ⟨_, _, rfl, rfl⟩) (by omega) (by omega)) rfl ?_
  refine sq (St.closed _ _ _ _) (q_call (vs := [(.slice (cutA A c 4) (6 - 4) (c - 4))]) (v := (.int .u64 ((bN bs 4 2 : Nat) : Int))) rfl ca_34 (fun w h => NumberC w A n c bs (lo := 4) (hi := 6) (h.fact (j := 0) rfl) (k := 2) rfl (by decide) (by omega) (by omega))) rfl ?_
  refine sq (St.closed _ _ _ _) (q_convn (p := bN bs 4 2) rfl Tryz.underlying39 Tryz.underlying3 (show bN bs 4 2 < 9223372036854775808 by have := bN_lt bs 4 2 65536 rfl; omega)) rfl ?_
  refine sq (St.closed _ _ _ _) (q_assign rfl) rfl ?_
  refine send ?_
  refine eseq ?_
  refine HT.seq ?_
  refine HT.drawnS mixed (St.closed _ _ _ _) ?_
  refine dtake (f := 4) [0, 1, 2, 3, 4, 5, 6, 7, 8, 9, 10, 11, 12] (by kernel_rfl) (St.closed _ _ _ _) (fun _ h => h) (by kernel_rfl) ?_
  refine dq rfl (q_move rfl) ?_
  refine dq rfl (q_slice (lo := 16) (hi := n) rfl Tryz.underlying22 nagg_5 (.inr ⟨_, _, rfl, rfl⟩) (.inl ⟨rfl, rfl⟩) (by omega) (by omega)) ?_
  refine dq rfl (q_move rfl) ?_
  refine dq rfl (q_slice (lo := 0) (hi := 2) rfl Tryz.underlying22 nagg_5 (.inl ⟨rfl, rfl⟩) (.inr ⟨_, _, rfl, rfl⟩) (by omega) (by omega)) ?_
  refine dq rfl (q_call (vs := [(.slice (cutA A c 0) (2 - 0) (c - 0))]) (v := (.int .u64 ((bN bs 0 2 : Nat) : Int))) rfl ca_34 (fun w h => NumberC w A n c bs (lo := 0) (hi := 2) (h.fact (j := 0) rfl) (k := 2) rfl (by decide) (by omega) (by omega))) ?_
  refine dq rfl (q_move rfl) ?_
  refine dq rfl (q_convn (p := bN bs 4 2) rfl Tryz.underlying3 Tryz.underlying39 (show bN bs 4 2 < 18446744073709551616 by have := bN_lt bs 4 2 65536 rfl; omega)) ?_
  refine dq rfl (q_move rfl) ?_
  refine dq rfl (q_slice (lo := 14) (hi := 16) rfl Tryz.underlying22 nagg_5 (.inr ⟨_, _, rfl, rfl⟩) (.inr ⟨_, _, rfl, rfl⟩) (by omega) (by omega)) ?_
  refine dq rfl (q_call (vs := [(.slice (cutA A c 14) (16 - 14) (c - 14))]) (v := (.int .u64 ((bN bs 14 2 : Nat) : Int))) rfl ca_34 (fun w h => NumberC w A n c bs (lo := 14) (hi := 16) (h.fact (j := 0) rfl) (k := 2) rfl (by decide) (by omega) (by omega))) ?_
  refine dq rfl (q_move rfl) ?_
  refine dq rfl (q_slice (lo := 2) (hi := 4) rfl Tryz.underlying22 nagg_5 (.inr ⟨_, _, rfl, rfl⟩) (.inr ⟨_, _, rfl, rfl⟩) (by omega) (by omega)) ?_
  refine dq rfl (q_call (vs := [(.slice (cutA A c 2) (4 - 2) (c - 2))]) (v := (.int .u64 ((bN bs 2 2 : Nat) : Int))) rfl ca_34 (fun w h => NumberC w A n c bs (lo := 2) (hi := 4) (h.fact (j := 0) rfl) (k := 2) rfl (by decide) (by omega) (by omega))) ?_
  refine QL.nil ?_
  refine RG.step2 13 15 (by kernel_rfl) ?_ ?_
  · refine dop rfl (l_buildSlice (e := 39) (vs := [(0, (.int .u64 ((bN bs 0 2 : Nat) : Int))), (1, (.int .u64 ((bN bs 4 2 : Nat) : Int))), (2, (.int .u64 ((bN bs 14 2 : Nat) : Int))), (3, (.int .u64 ((bN bs 2 2 : Nat) : Int)))]) (cs := [(.int .u64 ((bN bs 0 2 : Nat) : Int)), (.int .u64 ((bN bs 4 2 : Nat) : Int)), (.int .u64 ((bN bs 14 2 : Nat) : Int)), (.int .u64 ((bN bs 2 2 : Nat) : Int))]) (by decide) rfl (fun _ => by kernel_rfl) fun b24 => ⟨(fun _ h => (h.wk [(0, [])] rfl)), ?_⟩)
    refine dtake (f := 2) [14] (by kernel_rfl) (St.closed _ _ _ _) (fun _ h => (h.wk [(0, [])] rfl)) (by kernel_rfl) ?_
    refine dq rfl (q_call (vs := [(.slice (cutA A c 16) (n - 16) (c - 16)), (.slice (some ⟨b24, 0, none⟩) 4 4)]) (v := (.agg #[(.slice (some ⟨b24, 0, none⟩) 4 4), (.slice none 0 0), (.slice none 0 0), (.slice (cutA A c 16) (n - 16) (c - 16))])) rfl ca_33 (fun w h => layerC w (cutA A c 16) (n - 16) (c - 16) (some ⟨b24, 0, none⟩) 4 4  (St.enter (sp := []) (Kc := []) (bi := []) h rfl rfl rfl))) ?_
    refine QL.nil ?_
    refine RG.step1 15 (by kernel_rfl) ?_
    refine dop rfl (l_alloc (by decide) zero_29 fun b6 => ⟨(fun _ h => (h.wk [(0, [])] rfl)), ?_⟩)
    refine RG.step1 16 (by kernel_rfl) ?_
    refine dop rfl (l_storeAgg (b := b6) (off := 0) (j := 2) (vs := [(.slice (some ⟨b24, 0, none⟩) 4 4), (.slice none 0 0), (.slice none 0 0), (.slice (cutA A c 16) (n - 16) (c - 16))]) rfl rfl aggs_29 (by simp [Value.one1]) rfl rfl rfl (Nat.le_of_ble_eq_true rfl) ⟨(fun _ h => (h.wk [(0, [])] rfl)), ?_⟩)
    refine dend (by kernel_rfl) ?_
    refine eseq ?_
    refine HT.seq ?_
    refine HT.seq ?_
    refine HT.plain ?_
    refine sq (St.closed _ _ _ _) (q_move rfl) rfl ?_
    refine sq (St.closed _ _ _ _) (q_T (q_gt (p := bN bs 4 2) (q := 8) rfl rfl) (by have := bN_lt bs 4 2 65536 rfl; omega)) rfl ?_
    refine send ?_
    refine eseq ?_
    refine HT.yes rfl ?_
    refine HT.seq ?_
    refine HT.plain ?_
    refine sq (St.closed _ _ _ _) (q_loadAgg (b := b6) (off := 0) (j := 2) (vs := [(.slice (some ⟨b24, 0, none⟩) 4 4), (.slice none 0 0), (.slice none 0 0), (.slice (cutA A c 16) (n - 16) (c - 16))]) rfl aggs_29 (fun _ h => h) rfl rfl rfl) rfl ?_
    refine sl_ (l_storeAgg (b := b2) (off := 0) (j := 0) (vs := [(.slice (some ⟨b24, 0, none⟩) 4 4), (.slice none 0 0), (.slice none 0 0), (.slice (cutA A c 16) (n - 16) (c - 16))]) rfl rfl aggs_29 (by simp [Value.one1]) rfl rfl rfl (Nat.le_of_ble_eq_true rfl) ?_)
    refine sq (St.closed _ _ _ _) (q_assign rfl) rfl ?_
    refine sq (St.closed _ _ _ _) (q_assign rfl) rfl ?_
    refine send ?_
    refine eseq ?_
    refine HT.ret ?_
    refine rt_then ?_
    exact fun a ha w' hw => fin_ ha (resc3 ha Tryz.results36 rfl (ld_ aggs_29 hw (j := 0) rfl rfl (vs := [(.slice (some ⟨b24, 0, none⟩) 4 4), (.slice none 0 0), (.slice none 0 0), (.slice (cutA A c 16) (n - 16) (c - 16))]) rfl) rfl rfl) ⟨b24, rfl, (hw.wk [(1, [])] rfl), fr0⟩
  · refine dop rfl (l_alloc (by decide) zero_29 fun b6 => ⟨(fun _ h => (h.wk [(0, [])] rfl)), ?_⟩)
    refine RG.step1 13 (by kernel_rfl) ?_
    refine dop rfl (l_buildSlice (e := 39) (vs := [(0, (.int .u64 ((bN bs 0 2 : Nat) : Int))), (1, (.int .u64 ((bN bs 4 2 : Nat) : Int))), (2, (.int .u64 ((bN bs 14 2 : Nat) : Int))), (3, (.int .u64 ((bN bs 2 2 : Nat) : Int)))]) (cs := [(.int .u64 ((bN bs 0 2 : Nat) : Int)), (.int .u64 ((bN bs 4 2 : Nat) : Int)), (.int .u64 ((bN bs 14 2 : Nat) : Int)), (.int .u64 ((bN bs 2 2 : Nat) : Int))]) (by decide) rfl (fun _ => by kernel_rfl) fun b24 => ⟨(fun _ h => (h.wk [(0, [])] rfl)), ?_⟩)
    refine dtake (f := 1) [14] (by kernel_rfl) (St.closed _ _ _ _) (fun _ h => (h.wk [(0, [])] rfl)) (by kernel_rfl) ?_
    refine dq rfl (q_call (vs := [(.slice (cutA A c 16) (n - 16) (c - 16)), (.slice (some ⟨b24, 0, none⟩) 4 4)]) (v := (.agg #[(.slice (some ⟨b24, 0, none⟩) 4 4), (.slice none 0 0), (.slice none 0 0), (.slice (cutA A c 16) (n - 16) (c - 16))])) rfl ca_33 (fun w h => layerC w (cutA A c 16) (n - 16) (c - 16) (some ⟨b24, 0, none⟩) 4 4  (St.enter (sp := []) (Kc := []) (bi := []) h rfl rfl rfl))) ?_
    refine QL.nil ?_
    refine RG.step1 16 (by kernel_rfl) ?_
    refine dop rfl (l_storeAgg (b := b6) (off := 0) (j := 1) (vs := [(.slice (some ⟨b24, 0, none⟩) 4 4), (.slice none 0 0), (.slice none 0 0), (.slice (cutA A c 16) (n - 16) (c - 16))]) rfl rfl aggs_29 (by simp [Value.one1]) rfl rfl rfl (Nat.le_of_ble_eq_true rfl) ⟨(fun _ h => (h.wk [(0, [])] rfl)), ?_⟩)
    refine dend (by kernel_rfl) ?_
    refine eseq ?_
    refine HT.seq ?_
    refine HT.seq ?_
    refine HT.plain ?_
    refine sq (St.closed _ _ _ _) (q_move rfl) rfl ?_
    refine sq (St.closed _ _ _ _) (q_T (q_gt (p := bN bs 4 2) (q := 8) rfl rfl) (by have := bN_lt bs 4 2 65536 rfl; omega)) rfl ?_
    refine send ?_
    refine eseq ?_
    refine HT.yes rfl ?_
    refine HT.seq ?_
    refine HT.plain ?_
    refine sq (St.closed _ _ _ _) (q_loadAgg (b := b6) (off := 0) (j := 1) (vs := [(.slice (some ⟨b24, 0, none⟩) 4 4), (.slice none 0 0), (.slice none 0 0), (.slice (cutA A c 16) (n - 16) (c - 16))]) rfl aggs_29 (fun _ h => h) rfl rfl rfl) rfl ?_
    refine sl_ (l_storeAgg (b := b2) (off := 0) (j := 0) (vs := [(.slice (some ⟨b24, 0, none⟩) 4 4), (.slice none 0 0), (.slice none 0 0), (.slice (cutA A c 16) (n - 16) (c - 16))]) rfl rfl aggs_29 (by simp [Value.one1]) rfl rfl rfl (Nat.le_of_ble_eq_true rfl) ?_)
    refine sq (St.closed _ _ _ _) (q_assign rfl) rfl ?_
    refine sq (St.closed _ _ _ _) (q_assign rfl) rfl ?_
    refine send ?_
    refine eseq ?_
    refine HT.ret ?_
    refine rt_then ?_
    exact fun a ha w' hw => fin_ ha (resc3 ha Tryz.results36 rfl (ld_ aggs_29 hw (j := 0) rfl rfl (vs := [(.slice (some ⟨b24, 0, none⟩) 4 4), (.slice none 0 0), (.slice none 0 0), (.slice (cutA A c 16) (n - 16) (c - 16))]) rfl) rfl rfl) ⟨b24, rfl, (hw.wk [(2, [])] rfl), fr0⟩

theorem linuxsll_S1 (w : World) (A : Option Addr) (n : Nat) (c : Nat) (bs : List UInt8) (hn : n ≤ 2147483647) (ha : 16 ≤ n) (hb : 8 < bN bs 4 2) (hst : St w [] [] [Byt A n c bs] w) : Calls Tryz.prog 26 #[(.string ⟨#[108, 105, 110, 117, 120, 115, 108, 108]⟩), (.slice A n c)] w (SP w (Byt A n c bs) none) := by
  have hnc00 : n ≤ c := (hst.fact (j := 0) rfl).2.1
  refine enter (vs := [(.string ⟨#[108, 105, 110, 117, 120, 115, 108, 108]⟩), (.slice A n c)]) Tryz.func26 rfl rfl rfl hst ?_
  refine HT.seq ?_
  refine HT.plain ?_
  refine sl_ (l_alloc (by decide) zero_29 fun b4 => ?_)
  refine sq (St.closed _ _ _ _) (q_assign rfl) rfl ?_
  refine sq (St.closed _ _ _ _) (q_assign rfl) rfl ?_
  refine send ?_
  refine eseq ?_
  refine HT.seq ?_
  refine HT.plain ?_
  refine sl_ (l_makeMap (by decide) fun b13 => ?_)
  refine sl_ (l_insert (es := es0) (ck := 0) rfl rfl rfl Tryz.underlying36 Tryz.underlying9 fi0 ?_)
  refine sl_ (l_insert (es := es1) (ck := 1) rfl rfl rfl Tryz.underlying36 Tryz.underlying9 fi1 ?_)
  refine sl_ (l_insert (es := es2) (ck := 2) rfl rfl rfl Tryz.underlying36 Tryz.underlying9 fi2 ?_)
  refine sl_ (l_insert (es := es3) (ck := 3) rfl rfl rfl Tryz.underlying36 Tryz.underlying9 fi3 ?_)
  refine sl_ (l_insert (es := es4) (ck := 4) rfl rfl rfl Tryz.underlying36 Tryz.underlying9 fi4 ?_)
  refine sl_ (l_insert (es := es5) (ck := 5) rfl rfl rfl Tryz.underlying36 Tryz.underlying9 fi5 ?_)
  refine sl_ (l_insert (es := es6) (ck := 6) rfl rfl rfl Tryz.underlying36 Tryz.underlying9 fi6 ?_)
  refine sl_ (l_insert (es := es7) (ck := 7) rfl rfl rfl Tryz.underlying36 Tryz.underlying9 fi7 ?_)
  refine sl_ (l_insert (es := es8) (ck := 8) rfl rfl rfl Tryz.underlying36 Tryz.underlying9 fi8 ?_)
  refine sl_ (l_insert (es := es9) (ck := 9) rfl rfl rfl Tryz.underlying36 Tryz.underlying9 fi9 ?_)
  refine sl_ (l_insert (es := es10) (ck := 10) rfl rfl rfl Tryz.underlying36 Tryz.underlying9 fi10 ?_)
  refine sl_ (l_insert (es := es11) (ck := 11) rfl rfl rfl Tryz.underlying36 Tryz.underlying9 fi11 ?_)
  refine sl_ (l_insert (es := es12) (ck := 12) rfl rfl rfl Tryz.underlying36 Tryz.underlying9 fi12 ?_)
  refine sl_ (l_insert (es := es13) (ck := 13) rfl rfl rfl Tryz.underlying36 Tryz.underlying9 fi13 ?_)
  refine sl_ (l_insert (es := es14) (ck := 14) rfl rfl rfl Tryz.underlying36 Tryz.underlying9 fi14 ?_)
  refine sl_ (l_insert (es := es15) (ck := 15) rfl rfl rfl Tryz.underlying36 Tryz.underlying9 fi15 ?_)
  refine sl_ (l_insert (es := es16) (ck := 16) rfl rfl rfl Tryz.underlying36 Tryz.underlying9 fi16 ?_)
  refine sl_ (l_insert (es := es17) (ck := 17) rfl rfl rfl Tryz.underlying36 Tryz.underlying9 fi17 ?_)
  refine sl_ (l_insert (es := es18) (ck := 18) rfl rfl rfl Tryz.underlying36 Tryz.underlying9 fi18 ?_)
  refine sl_ (l_insert (es := es19) (ck := 19) rfl rfl rfl Tryz.underlying36 Tryz.underlying9 fi19 ?_)
  refine sl_ (l_insert (es := es20) (ck := 20) rfl rfl rfl Tryz.underlying36 Tryz.underlying9 fi20 ?_)
  refine sq (SM.closed) (q_move rfl) rfl ?_
  refine sq (SM.closed) (q_move rfl) rfl ?_
  refine sq (SM.closed) (q_lookup (es := es21) (i := 5) (v := (.int .i64 ((16 : Nat) : Int))) (fun _ h => h) rfl rfl Tryz.underlying36 Tryz.underlying9 (by kernel_rfl)) rfl ?_
  refine sq (SM.closed) (q_assign rfl) rfl ?_
  refine send ?_
  refine eseq ?_
  refine HT.unmap ?_
  refine HT.seq ?_
  refine HT.seq ?_
  refine HT.plain ?_
  refine sq (St.closed _ _ _ _) (q_move rfl) rfl ?_
  refine sq (St.closed _ _ _ _) (q_len (len := n) rfl Tryz.underlying22) rfl ?_
  refine sq (St.closed _ _ _ _) (q_move rfl) rfl ?_
  refine sq (St.closed _ _ _ _) (q_F (q_lt (p := n) (q := 16) rfl rfl) (by omega)) rfl ?_
  refine send ?_
  refine eseq ?_
  refine HT.no rfl ?_
  refine HT.skip ?_
  refine eseq ?_
  refine HT.seq ?_
  refine HT.seq ?_
  refine HT.plain ?_
  refine sq (St.closed _ _ _ _) (q_move rfl) rfl ?_
  refine send ?_
  refine eseq ?_
  refine HT.block ?_
  refine HT.seq ?_
  refine HT.plain ?_
  refine sq (St.closed _ _ _ _) (q_eqs rfl rfl (r := false) (by kernel_rfl)) rfl ?_
  refine sq (St.closed _ _ _ _) (q_assign rfl) rfl ?_
  refine send ?_
  refine eseq ?_
  refine HT.no rfl ?_
  refine HT.seq ?_
  refine HT.plain ?_
  refine sq (St.closed _ _ _ _) (q_eqs rfl rfl (r := false) (by kernel_rfl)) rfl ?_
  refine sq (St.closed _ _ _ _) (q_assign rfl) rfl ?_
  refine send ?_
  refine eseq ?_
  refine HT.no rfl ?_
  refine HT.seq ?_
  refine HT.plain ?_
  refine sq (St.closed _ _ _ _) (q_eqs rfl rfl (r := false) (by kernel_rfl)) rfl ?_
  refine sq (St.closed _ _ _ _) (q_assign rfl) rfl ?_
  refine send ?_
  refine eseq ?_
  refine HT.no rfl ?_
  refine HT.seq ?_
  refine HT.plain ?_
  refine sq (St.closed _ _ _ _) (q_eqs rfl rfl (r := false) (by kernel_rfl)) rfl ?_
  refine sq (St.closed _ _ _ _) (q_assign rfl) rfl ?_
  refine send ?_
  refine eseq ?_
  refine HT.no rfl ?_
  refine HT.seq ?_
  refine HT.plain ?_
  refine sq (St.closed _ _ _ _) (q_eqs rfl rfl (r := false) (by kernel_rfl)) rfl ?_
  refine sq (St.closed _ _ _ _) (q_assign rfl) rfl ?_
  refine send ?_
  refine eseq ?_
  refine HT.no rfl ?_
  refine HT.seq ?_
  refine HT.plain ?_
  refine sq (St.closed _ _ _ _) (q_eqs rfl rfl (r := true) (by kernel_rfl)) rfl ?_
  refine sq (St.closed _ _ _ _) (q_assign rfl) rfl ?_
  refine send ?_
  refine eseq ?_
  refine HT.yes rfl ?_
  refine HT.seq ?_
  refine HT.plain ?_
  refine sq (St.closed _ _ _ _) (q_move rfl) rfl ?_
  refine sl_ (l_callX1 (vs := [(.slice A n c)]) (Kc := []) (Bc := [Byt A n c bs]) [] [0] [Byt A n c bs] (fun b24 => [⟨b4, 29, [some (.slice none 0 0), some (.slice none 0 0), some (.slice none 0 0), some (.slice none 0 0)], true⟩, ⟨b24, 39, [some (.int .u64 ((bN bs 0 2 : Nat) : Int)), some (.int .u64 ((bN bs 4 2 : Nat) : Int)), some (.int .u64 ((bN bs 14 2 : Nat) : Int)), some (.int .u64 ((bN bs 2 2 : Nat) : Int))], true⟩]) (fun b24 => [Byt A n c bs]) (by decide) rfl ca_36 (fun _ h => h) rfl rfl rfl rfl (fun w h => linuxsll_s1 w A n c bs (by omega) (by omega) (by omega) h) (fun _ => rfl) (fun _ => rfl) (fun _ => rfl) (fun _ => rfl) fun b24 hf1 he2 => ?_)
  refine sq (St.closed _ _ _ _) (q_extract (vs := [(.agg #[(.slice (some ⟨b24, 0, none⟩) 4 4), (.slice none 0 0), (.slice none 0 0), (.slice (cutA A c 16) (n - 16) (c - 16))]), (.bool false), (.bool false)]) (i := 0) rfl rfl) rfl ?_
  refine sq (St.closed _ _ _ _) (q_extract (vs := [(.agg #[(.slice (some ⟨b24, 0, none⟩) 4 4), (.slice none 0 0), (.slice none 0 0), (.slice (cutA A c 16) (n - 16) (c - 16))]), (.bool false), (.bool false)]) (i := 1) rfl rfl) rfl ?_
  refine sq (St.closed _ _ _ _) (q_extract (vs := [(.agg #[(.slice (some ⟨b24, 0, none⟩) 4 4), (.slice none 0 0), (.slice none 0 0), (.slice (cutA A c 16) (n - 16) (c - 16))]), (.bool false), (.bool false)]) (i := 2) rfl rfl) rfl ?_
  refine sl_ (l_storeAgg (b := b4) (off := 0) (j := 0) (vs := [(.slice (some ⟨b24, 0, none⟩) 4 4), (.slice none 0 0), (.slice none 0 0), (.slice (cutA A c 16) (n - 16) (c - 16))]) rfl rfl aggs_29 (by simp [Value.one1]) rfl rfl rfl (Nat.le_of_ble_eq_true rfl) ?_)
  refine sq (St.closed _ _ _ _) (q_assign rfl) rfl ?_
  refine sq (St.closed _ _ _ _) (q_assign rfl) rfl ?_
  refine send ?_
  refine eseq ?_
  refine HT.ret ?_
  refine rt_in ?_
  refine rt_then ?_
  exact fun a ha w' hw => fin_ ha (resc3 ha Tryz.results26 rfl (ld_ aggs_29 hw (j := 0) rfl rfl (vs := [(.slice (some ⟨b24, 0, none⟩) 4 4), (.slice none 0 0), (.slice none 0 0), (.slice (cutA A c 16) (n - 16) (c - 16))]) rfl) rfl rfl) ⟨⟨(some ⟨b24, 0, none⟩), 4, 4, []⟩, ⟨none, 0, 0, []⟩, ⟨none, 0, 0, []⟩, ⟨cutA A c 16, n - 16, c - 16, []⟩, false, rfl, hw.pres⟩

theorem linuxsll_s2 (w : World) (A : Option Addr) (n : Nat) (c : Nat) (bs : List UInt8) (hn : n ≤ 2147483647) (ha : 16 ≤ n) (hb : bN bs 4 2 ≤ 8) (hst : St w [] [] [Byt A n c bs] w) : Calls Tryz.prog 36 #[(.slice A n c)] w (CP2 w [] [Byt A n c bs] (fun b24 b33 => (.tuple #[(.agg #[(.slice (some ⟨b24, 0, none⟩) 4 4), (.slice (some ⟨b33, 0, none⟩) 1 1), (.slice none 0 0), (.slice (cutA A c 16) (n - 16) (c - 16))]), (.bool true), (.bool true)])) (fun b24 b33 => [⟨b24, 39, [some (.int .u64 ((bN bs 0 2 : Nat) : Int)), some (.int .u64 ((bN bs 4 2 : Nat) : Int)), some (.int .u64 ((bN bs 14 2 : Nat) : Int)), some (.int .u64 ((bN bs 2 2 : Nat) : Int))], true⟩, ⟨b33, 22, [some (.slice (cutA A c 6) ((6 + (bN bs 4 2)) - 6) (c - 6))], true⟩]) (fun b24 b33 => [])) := by
  have hnc00 : n ≤ c := (hst.fact (j := 0) rfl).2.1
  refine enter (vs := [(.slice A n c)]) Tryz.func36 rfl rfl rfl hst ?_
  refine HT.seq ?_
  refine HT.plain ?_
  refine sl_ (l_alloc (by decide) zero_29 fun b2 => ?_)
  refine sq (St.closed _ _ _ _) (q_assign rfl) rfl ?_
  refine sq (St.closed _ _ _ _) (q_assign rfl) rfl ?_
  refine send ?_
  refine eseq ?_
  refine HT.seq ?_
  refine HT.plain ?_
  refine sq (St.closed _ _ _ _) (q_move rfl) rfl ?_
  refine sq (St.closed _ _ _ _) (q_slice (lo := 4) (hi := 6) rfl Tryz.underlying22 nagg_5 (.inr ⟨_, _, rfl, rfl⟩) (.inr ⟨_, _, rfl, rfl⟩) (by omega) (by omega)) rfl ?_
  refine sq (St.closed _ _ _ _) (q_call (vs := [(.slice (cutA A c 4) (6 - 4) (c - 4))]) (v := (.int .u64 ((bN bs 4 2 : Nat) : Int))) rfl ca_34 (fun w h => NumberC w A n c bs (lo := 4) (hi := 6) (h.fact (j := 0) rfl) (k := 2) rfl (by decide) (by omega) (by omega))) rfl ?_
  refine sq (St.closed _ _ _ _) (q_convn (p := bN bs 4 2) rfl Tryz.underlying39 Tryz.underlying3 (show bN bs 4 2 < 9223372036854775808 by have := bN_lt bs 4 2 65536 rfl; omega)) rfl ?_
  refine sq (St.closed _ _ _ _) (q_assign rfl) rfl ?_
  refine send ?_
  refine eseq ?_
  refine HT.seq ?_
  refine HT.drawnS mixed (St.closed _ _ _ _) ?_
  refine dtake (f := 4) [0, 1, 2, 3, 4, 5, 6, 7, 8, 9, 10, 11, 12] (by kernel_rfl) (St.closed _ _ _ _) (fun _ h => h) (by kernel_rfl) ?_
  refine dq rfl (q_move rfl) ?_
  refine dq rfl (q_slice (lo := 16) (hi := n) rfl Tryz.underlying22 nagg_5 (.inr ⟨_, _, rfl, rfl⟩) (.inl ⟨rfl, rfl⟩) (by omega) (by omega)) ?_
  refine dq rfl (q_move rfl) ?_
  refine dq rfl (q_slice (lo := 0) (hi := 2) rfl Tryz.underlying22 nagg_5 (.inl ⟨rfl, rfl⟩) (.inr ⟨_, _, rfl, rfl⟩) (by omega) (by omega)) ?_
  refine dq rfl (q_call (vs := [(.slice (cutA A c 0) (2 - 0) (c - 0))]) (v := (.int .u64 ((bN bs 0 2 : Nat) : Int))) rfl ca_34 (fun w h => NumberC w A n c bs (lo := 0) (hi := 2) (h.fact (j := 0) rfl) (k := 2) rfl (by decide) (by omega) (by omega))) ?_
  refine dq rfl (q_move rfl) ?_
  refine dq rfl (q_convn (p := bN bs 4 2) rfl Tryz.underlying3 Tryz.underlying39 (show bN bs 4 2 < 18446744073709551616 by have := bN_lt bs 4 2 65536 rfl; omega)) ?_
  refine dq rfl (q_move rfl) ?_
  refine dq rfl (q_slice (lo := 14) (hi := 16) rfl Tryz.underlying22 nagg_5 (.inr ⟨_, _, rfl, rfl⟩) (.inr ⟨_, _, rfl, rfl⟩) (by omega) (by omega)) ?_
  refine dq rfl (q_call (vs := [(.slice (cutA A c 14) (16 - 14) (c - 14))]) (v := (.int .u64 ((bN bs 14 2 : Nat) : Int))) rfl ca_34 (fun w h => NumberC w A n c bs (lo := 14) (hi := 16) (h.fact (j := 0) rfl) (k := 2) rfl (by decide) (by omega) (by omega))) ?_
  refine dq rfl (q_move rfl) ?_
  refine dq rfl (q_slice (lo := 2) (hi := 4) rfl Tryz.underlying22 nagg_5 (.inr ⟨_, _, rfl, rfl⟩) (.inr ⟨_, _, rfl, rfl⟩) (by omega) (by omega)) ?_
  refine dq rfl (q_call (vs := [(.slice (cutA A c 2) (4 - 2) (c - 2))]) (v := (.int .u64 ((bN bs 2 2 : Nat) : Int))) rfl ca_34 (fun w h => NumberC w A n c bs (lo := 2) (hi := 4) (h.fact (j := 0) rfl) (k := 2) rfl (by decide) (by omega) (by omega))) ?_
  refine QL.nil ?_
  refine RG.step2 13 15 (by kernel_rfl) ?_ ?_
  · refine dop rfl (l_buildSlice (e := 39) (vs := [(0, (.int .u64 ((bN bs 0 2 : Nat) : Int))), (1, (.int .u64 ((bN bs 4 2 : Nat) : Int))), (2, (.int .u64 ((bN bs 14 2 : Nat) : Int))), (3, (.int .u64 ((bN bs 2 2 : Nat) : Int)))]) (cs := [(.int .u64 ((bN bs 0 2 : Nat) : Int)), (.int .u64 ((bN bs 4 2 : Nat) : Int)), (.int .u64 ((bN bs 14 2 : Nat) : Int)), (.int .u64 ((bN bs 2 2 : Nat) : Int))]) (by decide) rfl (fun _ => by kernel_rfl) fun b24 => ⟨(fun _ h => (h.wk [(0, [])] rfl)), ?_⟩)
    refine dtake (f := 2) [14] (by kernel_rfl) (St.closed _ _ _ _) (fun _ h => (h.wk [(0, [])] rfl)) (by kernel_rfl) ?_
    refine dq rfl (q_call (vs := [(.slice (cutA A c 16) (n - 16) (c - 16)), (.slice (some ⟨b24, 0, none⟩) 4 4)]) (v := (.agg #[(.slice (some ⟨b24, 0, none⟩) 4 4), (.slice none 0 0), (.slice none 0 0), (.slice (cutA A c 16) (n - 16) (c - 16))])) rfl ca_33 (fun w h => layerC w (cutA A c 16) (n - 16) (c - 16) (some ⟨b24, 0, none⟩) 4 4  (St.enter (sp := []) (Kc := []) (bi := []) h rfl rfl rfl))) ?_
    refine QL.nil ?_
    refine RG.step1 15 (by kernel_rfl) ?_
    refine dop rfl (l_alloc (by decide) zero_29 fun b6 => ⟨(fun _ h => (h.wk [(0, [])] rfl)), ?_⟩)
    refine RG.step1 16 (by kernel_rfl) ?_
    refine dop rfl (l_storeAgg (b := b6) (off := 0) (j := 2) (vs := [(.slice (some ⟨b24, 0, none⟩) 4 4), (.slice none 0 0), (.slice none 0 0), (.slice (cutA A c 16) (n - 16) (c - 16))]) rfl rfl aggs_29 (by simp [Value.one1]) rfl rfl rfl (Nat.le_of_ble_eq_true rfl) ⟨(fun _ h => (h.wk [(0, [])] rfl)), ?_⟩)
    refine dend (by kernel_rfl) ?_
    refine eseq ?_
    refine HT.seq ?_
    refine HT.seq ?_
    refine HT.plain ?_
    refine sq (St.closed _ _ _ _) (q_move rfl) rfl ?_
    refine sq (St.closed _ _ _ _) (q_F (q_gt (p := bN bs 4 2) (q := 8) rfl rfl) (by have := bN_lt bs 4 2 65536 rfl; omega)) rfl ?_
    refine send ?_
    refine eseq ?_
    refine HT.no rfl ?_
    refine HT.skip ?_
    refine eseq ?_
    refine HT.seq ?_
    refine HT.plain ?_
    refine sq (St.closed _ _ _ _) (q_move rfl) rfl ?_
    refine sq (St.closed _ _ _ _) (q_move rfl) rfl ?_
    refine sq (St.closed _ _ _ _) (q_add (p := 6) (q := bN bs 4 2) rfl rfl (show 6 + (bN bs 4 2) < 9223372036854775808 by have := bN_lt bs 4 2 65536 rfl; omega)) rfl ?_
    refine sq (St.closed _ _ _ _) (q_slice (lo := 6) (hi := 6 + (bN bs 4 2)) rfl Tryz.underlying22 nagg_5 (.inr ⟨_, _, rfl, rfl⟩) (.inr ⟨_, _, rfl, rfl⟩) (by have := bN_lt bs 4 2 65536 rfl; omega) (by have := bN_lt bs 4 2 65536 rfl; omega)) rfl ?_
    refine sl_ (l_buildSlice (e := 22) (vs := [(0, (.slice (cutA A c 6) ((6 + (bN bs 4 2)) - 6) (c - 6)))]) (cs := [(.slice (cutA A c 6) ((6 + (bN bs 4 2)) - 6) (c - 6))]) (by decide) rfl (fun _ => by kernel_rfl) fun b33 => ?_)
    refine sq (St.closed _ _ _ _) (q_field (b := b6) (off := 0) rfl fo_29_1) rfl ?_
    refine sl_ (l_store (b := b6) (off := 1) (j := 2) rfl rfl nagg_26 rfl rfl rfl rfl (dlt rfl) ?_)
    refine send ?_
    refine eseq ?_
    refine HT.seq ?_
    refine HT.plain ?_
    refine sq (St.closed _ _ _ _) (q_loadAgg (b := b6) (off := 0) (j := 2) (vs := [(.slice (some ⟨b24, 0, none⟩) 4 4), (.slice (some ⟨b33, 0, none⟩) 1 1), (.slice none 0 0), (.slice (cutA A c 16) (n - 16) (c - 16))]) rfl aggs_29 (fun _ h => h) rfl rfl rfl) rfl ?_
    refine sl_ (l_storeAgg (b := b2) (off := 0) (j := 0) (vs := [(.slice (some ⟨b24, 0, none⟩) 4 4), (.slice (some ⟨b33, 0, none⟩) 1 1), (.slice none 0 0), (.slice (cutA A c 16) (n - 16) (c - 16))]) rfl rfl aggs_29 (by simp [Value.one1]) rfl rfl rfl (Nat.le_of_ble_eq_true rfl) ?_)
    refine sq (St.closed _ _ _ _) (q_assign rfl) rfl ?_
    refine sq (St.closed _ _ _ _) (q_assign rfl) rfl ?_
    refine send ?_
    refine eseq ?_
    refine HT.ret ?_
    exact fun a ha w' hw => fin_ ha (resc3 ha Tryz.results36 rfl (ld_ aggs_29 hw (j := 0) rfl rfl (vs := [(.slice (some ⟨b24, 0, none⟩) 4 4), (.slice (some ⟨b33, 0, none⟩) 1 1), (.slice none 0 0), (.slice (cutA A c 16) (n - 16) (c - 16))]) rfl) rfl rfl) ⟨b24, b33, rfl, (hw.wk [(1, []), (3, [])] rfl), fr0⟩
  · refine dop rfl (l_alloc (by decide) zero_29 fun b6 => ⟨(fun _ h => (h.wk [(0, [])] rfl)), ?_⟩)
    refine RG.step1 13 (by kernel_rfl) ?_
    refine dop rfl (l_buildSlice (e := 39) (vs := [(0, (.int .u64 ((bN bs 0 2 : Nat) : Int))), (1, (.int .u64 ((bN bs 4 2 : Nat) : Int))), (2, (.int .u64 ((bN bs 14 2 : Nat) : Int))), (3, (.int .u64 ((bN bs 2 2 : Nat) : Int)))]) (cs := [(.int .u64 ((bN bs 0 2 : Nat) : Int)), (.int .u64 ((bN bs 4 2 : Nat) : Int)), (.int .u64 ((bN bs 14 2 : Nat) : Int)), (.int .u64 ((bN bs 2 2 : Nat) : Int))]) (by decide) rfl (fun _ => by kernel_rfl) fun b24 => ⟨(fun _ h => (h.wk [(0, [])] rfl)), ?_⟩)
    refine dtake (f := 1) [14] (by kernel_rfl) (St.closed _ _ _ _) (fun _ h => (h.wk [(0, [])] rfl)) (by kernel_rfl) ?_
    refine dq rfl (q_call (vs := [(.slice (cutA A c 16) (n - 16) (c - 16)), (.slice (some ⟨b24, 0, none⟩) 4 4)]) (v := (.agg #[(.slice (some ⟨b24, 0, none⟩) 4 4), (.slice none 0 0), (.slice none 0 0), (.slice (cutA A c 16) (n - 16) (c - 16))])) rfl ca_33 (fun w h => layerC w (cutA A c 16) (n - 16) (c - 16) (some ⟨b24, 0, none⟩) 4 4  (St.enter (sp := []) (Kc := []) (bi := []) h rfl rfl rfl))) ?_
    refine QL.nil ?_
    refine RG.step1 16 (by kernel_rfl) ?_
    refine dop rfl (l_storeAgg (b := b6) (off := 0) (j := 1) (vs := [(.slice (some ⟨b24, 0, none⟩) 4 4), (.slice none 0 0), (.slice none 0 0), (.slice (cutA A c 16) (n - 16) (c - 16))]) rfl rfl aggs_29 (by simp [Value.one1]) rfl rfl rfl (Nat.le_of_ble_eq_true rfl) ⟨(fun _ h => (h.wk [(0, [])] rfl)), ?_⟩)
    refine dend (by kernel_rfl) ?_
    refine eseq ?_
    refine HT.seq ?_
    refine HT.seq ?_
    refine HT.plain ?_
    refine sq (St.closed _ _ _ _) (q_move rfl) rfl ?_
    refine sq (St.closed _ _ _ _) (q_F (q_gt (p := bN bs 4 2) (q := 8) rfl rfl) (by have := bN_lt bs 4 2 65536 rfl; omega)) rfl ?_
    refine send ?_
    refine eseq ?_
    refine HT.no rfl ?_
    refine HT.skip ?_
    refine eseq ?_
    refine HT.seq ?_
    refine HT.plain ?_
    refine sq (St.closed _ _ _ _) (q_move rfl) rfl ?_
    refine sq (St.closed _ _ _ _) (q_move rfl) rfl ?_
    refine sq (St.closed _ _ _ _) (q_add (p := 6) (q := bN bs 4 2) rfl rfl (show 6 + (bN bs 4 2) < 9223372036854775808 by have := bN_lt bs 4 2 65536 rfl; omega)) rfl ?_
    refine sq (St.closed _ _ _ _) (q_slice (lo := 6) (hi := 6 + (bN bs 4 2)) rfl Tryz.underlying22 nagg_5 (.inr ⟨_, _, rfl, rfl⟩) (.inr ⟨_, _, rfl, rfl⟩) (by have := bN_lt bs 4 2 65536 rfl; omega) (by have := bN_lt bs 4 2 65536 rfl; omega)) rfl ?_
    refine sl_ (l_buildSlice (e := 22) (vs := [(0, (.slice (cutA A c 6) ((6 + (bN bs 4 2)) - 6) (c - 6)))]) (cs := [(.slice (cutA A c 6) ((6 + (bN bs 4 2)) - 6) (c - 6))]) (by decide) rfl (fun _ => by kernel_rfl) fun b33 => ?_)
    refine sq (St.closed _ _ _ _) (q_field (b := b6) (off := 0) rfl fo_29_1) rfl ?_
    refine sl_ (l_store (b := b6) (off := 1) (j := 1) rfl rfl nagg_26 rfl rfl rfl rfl (dlt rfl) ?_)
    refine send ?_
    refine eseq ?_
    refine HT.seq ?_
    refine HT.plain ?_
    refine sq (St.closed _ _ _ _) (q_loadAgg (b := b6) (off := 0) (j := 1) (vs := [(.slice (some ⟨b24, 0, none⟩) 4 4), (.slice (some ⟨b33, 0, none⟩) 1 1), (.slice none 0 0), (.slice (cutA A c 16) (n - 16) (c - 16))]) rfl aggs_29 (fun _ h => h) rfl rfl rfl) rfl ?_
    refine sl_ (l_storeAgg (b := b2) (off := 0) (j := 0) (vs := [(.slice (some ⟨b24, 0, none⟩) 4 4), (.slice (some ⟨b33, 0, none⟩) 1 1), (.slice none 0 0), (.slice (cutA A c 16) (n - 16) (c - 16))]) rfl rfl aggs_29 (by simp [Value.one1]) rfl rfl rfl (Nat.le_of_ble_eq_true rfl) ?_)
    refine sq (St.closed _ _ _ _) (q_assign rfl) rfl ?_
    refine sq (St.closed _ _ _ _) (q_assign rfl) rfl ?_
    refine send ?_
    refine eseq ?_
    refine HT.ret ?_
    exact fun a ha w' hw => fin_ ha (resc3 ha Tryz.results36 rfl (ld_ aggs_29 hw (j := 0) rfl rfl (vs := [(.slice (some ⟨b24, 0, none⟩) 4 4), (.slice (some ⟨b33, 0, none⟩) 1 1), (.slice none 0 0), (.slice (cutA A c 16) (n - 16) (c - 16))]) rfl) rfl rfl) ⟨b24, b33, rfl, (hw.wk [(2, []), (3, [])] rfl), fr0⟩

theorem linuxsll_S2 (w : World) (A : Option Addr) (n : Nat) (c : Nat) (bs : List UInt8) (hn : n ≤ 2147483647) (ha : 16 ≤ n) (hb : bN bs 4 2 ≤ 8) (hst : St w [] [] [Byt A n c bs] w) : Calls Tryz.prog 26 #[(.string ⟨#[108, 105, 110, 117, 120, 115, 108, 108]⟩), (.slice A n c)] w (SP w (Byt A n c bs) (some (some ⟨[bN bs 0 2, bN bs 4 2, bN bs 14 2, bN bs 2 2], [sl bs 6 (6 + (bN bs 4 2))], [], sl bs 16 n⟩))) := by
  have hnc00 : n ≤ c := (hst.fact (j := 0) rfl).2.1
  refine enter (vs := [(.string ⟨#[108, 105, 110, 117, 120, 115, 108, 108]⟩), (.slice A n c)]) Tryz.func26 rfl rfl rfl hst ?_
  refine HT.seq ?_
  refine HT.plain ?_
  refine sl_ (l_alloc (by decide) zero_29 fun b4 => ?_)
  refine sq (St.closed _ _ _ _) (q_assign rfl) rfl ?_
  refine sq (St.closed _ _ _ _) (q_assign rfl) rfl ?_
  refine send ?_
  refine eseq ?_
  refine HT.seq ?_
  refine HT.plain ?_
  refine sl_ (l_makeMap (by decide) fun b13 => ?_)
  refine sl_ (l_insert (es := es0) (ck := 0) rfl rfl rfl Tryz.underlying36 Tryz.underlying9 fi0 ?_)
  refine sl_ (l_insert (es := es1) (ck := 1) rfl rfl rfl Tryz.underlying36 Tryz.underlying9 fi1 ?_)
  refine sl_ (l_insert (es := es2) (ck := 2) rfl rfl rfl Tryz.underlying36 Tryz.underlying9 fi2 ?_)
  refine sl_ (l_insert (es := es3) (ck := 3) rfl rfl rfl Tryz.underlying36 Tryz.underlying9 fi3 ?_)
  refine sl_ (l_insert (es := es4) (ck := 4) rfl rfl rfl Tryz.underlying36 Tryz.underlying9 fi4 ?_)
  refine sl_ (l_insert (es := es5) (ck := 5) rfl rfl rfl Tryz.underlying36 Tryz.underlying9 fi5 ?_)
  refine sl_ (l_insert (es := es6) (ck := 6) rfl rfl rfl Tryz.underlying36 Tryz.underlying9 fi6 ?_)
  refine sl_ (l_insert (es := es7) (ck := 7) rfl rfl rfl Tryz.underlying36 Tryz.underlying9 fi7 ?_)
  refine sl_ (l_insert (es := es8) (ck := 8) rfl rfl rfl Tryz.underlying36 Tryz.underlying9 fi8 ?_)
  refine sl_ (l_insert (es := es9) (ck := 9) rfl rfl rfl Tryz.underlying36 Tryz.underlying9 fi9 ?_)
  refine sl_ (l_insert (es := es10) (ck := 10) rfl rfl rfl Tryz.underlying36 Tryz.underlying9 fi10 ?_)
  refine sl_ (l_insert (es := es11) (ck := 11) rfl rfl rfl Tryz.underlying36 Tryz.underlying9 fi11 ?_)
  refine sl_ (l_insert (es := es12) (ck := 12) rfl rfl rfl Tryz.underlying36 Tryz.underlying9 fi12 ?_)
  refine sl_ (l_insert (es := es13) (ck := 13) rfl rfl rfl Tryz.underlying36 Tryz.underlying9 fi13 ?_)
  refine sl_ (l_insert (es := es14) (ck := 14) rfl rfl rfl Tryz.underlying36 Tryz.underlying9 fi14 ?_)
  refine sl_ (l_insert (es := es15) (ck := 15) rfl rfl rfl Tryz.underlying36 Tryz.underlying9 fi15 ?_)
  refine sl_ (l_insert (es := es16) (ck := 16) rfl rfl rfl Tryz.underlying36 Tryz.underlying9 fi16 ?_)
  refine sl_ (l_insert (es := es17) (ck := 17) rfl rfl rfl Tryz.underlying36 Tryz.underlying9 fi17 ?_)
  refine sl_ (l_insert (es := es18) (ck := 18) rfl rfl rfl Tryz.underlying36 Tryz.underlying9 fi18 ?_)
  refine sl_ (l_insert (es := es19) (ck := 19) rfl rfl rfl Tryz.underlying36 Tryz.underlying9 fi19 ?_)
  refine sl_ (l_insert (es := es20) (ck := 20) rfl rfl rfl Tryz.underlying36 Tryz.underlying9 fi20 ?_)
  refine sq (SM.closed) (q_move rfl) rfl ?_
  refine sq (SM.closed) (q_move rfl) rfl ?_
  refine sq (SM.closed) (q_lookup (es := es21) (i := 5) (v := (.int .i64 ((16 : Nat) : Int))) (fun _ h => h) rfl rfl Tryz.underlying36 Tryz.underlying9 (by kernel_rfl)) rfl ?_
  refine sq (SM.closed) (q_assign rfl) rfl ?_
  refine send ?_
  refine eseq ?_
  refine HT.unmap ?_
  refine HT.seq ?_
  refine HT.seq ?_
  refine HT.plain ?_
  refine sq (St.closed _ _ _ _) (q_move rfl) rfl ?_
  refine sq (St.closed _ _ _ _) (q_len (len := n) rfl Tryz.underlying22) rfl ?_
  refine sq (St.closed _ _ _ _) (q_move rfl) rfl ?_
  refine sq (St.closed _ _ _ _) (q_F (q_lt (p := n) (q := 16) rfl rfl) (by omega)) rfl ?_
  refine send ?_
  refine eseq ?_
  refine HT.no rfl ?_
  refine HT.skip ?_
  refine eseq ?_
  refine HT.seq ?_
  refine HT.seq ?_
  refine HT.plain ?_
  refine sq (St.closed _ _ _ _) (q_move rfl) rfl ?_
  refine send ?_
  refine eseq ?_
  refine HT.block ?_
  refine HT.seq ?_
  refine HT.plain ?_
  refine sq (St.closed _ _ _ _) (q_eqs rfl rfl (r := false) (by kernel_rfl)) rfl ?_
  refine sq (St.closed _ _ _ _) (q_assign rfl) rfl ?_
  refine send ?_
  refine eseq ?_
  refine HT.no rfl ?_
  refine HT.seq ?_
  refine HT.plain ?_
  refine sq (St.closed _ _ _ _) (q_eqs rfl rfl (r := false) (by kernel_rfl)) rfl ?_
  refine sq (St.closed _ _ _ _) (q_assign rfl) rfl ?_
  refine send ?_
  refine eseq ?_
  refine HT.no rfl ?_
  refine HT.seq ?_
  refine HT.plain ?_
  refine sq (St.closed _ _ _ _) (q_eqs rfl rfl (r := false) (by kernel_rfl)) rfl ?_
  refine sq (St.closed _ _ _ _) (q_assign rfl) rfl ?_
  refine send ?_
  refine eseq ?_
  refine HT.no rfl ?_
  refine HT.seq ?_
  refine HT.plain ?_
  refine sq (St.closed _ _ _ _) (q_eqs rfl rfl (r := false) (by kernel_rfl)) rfl ?_
  refine sq (St.closed _ _ _ _) (q_assign rfl) rfl ?_
  refine send ?_
  refine eseq ?_
  refine HT.no rfl ?_
  refine HT.seq ?_
  refine HT.plain ?_
  refine sq (St.closed _ _ _ _) (q_eqs rfl rfl (r := false) (by kernel_rfl)) rfl ?_
  refine sq (St.closed _ _ _ _) (q_assign rfl) rfl ?_
  refine send ?_
  refine eseq ?_
  refine HT.no rfl ?_
  refine HT.seq ?_
  refine HT.plain ?_
  refine sq (St.closed _ _ _ _) (q_eqs rfl rfl (r := true) (by kernel_rfl)) rfl ?_
  refine sq (St.closed _ _ _ _) (q_assign rfl) rfl ?_
  refine send ?_
  refine eseq ?_
  refine HT.yes rfl ?_
  refine HT.seq ?_
  refine HT.plain ?_
  refine sq (St.closed _ _ _ _) (q_move rfl) rfl ?_
  refine sl_ (l_callX2 (vs := [(.slice A n c)]) (Kc := []) (Bc := [Byt A n c bs]) [] [0] [Byt A n c bs] (fun b24 b33 => [⟨b4, 29, [some (.slice none 0 0), some (.slice none 0 0), some (.slice none 0 0), some (.slice none 0 0)], true⟩, ⟨b24, 39, [some (.int .u64 ((bN bs 0 2 : Nat) : Int)), some (.int .u64 ((bN bs 4 2 : Nat) : Int)), some (.int .u64 ((bN bs 14 2 : Nat) : Int)), some (.int .u64 ((bN bs 2 2 : Nat) : Int))], true⟩, ⟨b33, 22, [some (.slice (cutA A c 6) ((6 + (bN bs 4 2)) - 6) (c - 6))], true⟩]) (fun b24 b33 => [Byt A n c bs]) (by decide) rfl ca_36 (fun _ h => h) rfl rfl rfl rfl (fun w h => linuxsll_s2 w A n c bs (by omega) (by omega) (by omega) h) (fun _ _ => rfl) (fun _ _ => rfl) (fun _ _ => rfl) (fun _ _ => rfl) fun b24 b33 hf1 he2 => ?_)
  refine sq (St.closed _ _ _ _) (q_extract (vs := [(.agg #[(.slice (some ⟨b24, 0, none⟩) 4 4), (.slice (some ⟨b33, 0, none⟩) 1 1), (.slice none 0 0), (.slice (cutA A c 16) (n - 16) (c - 16))]), (.bool true), (.bool true)]) (i := 0) rfl rfl) rfl ?_
  refine sq (St.closed _ _ _ _) (q_extract (vs := [(.agg #[(.slice (some ⟨b24, 0, none⟩) 4 4), (.slice (some ⟨b33, 0, none⟩) 1 1), (.slice none 0 0), (.slice (cutA A c 16) (n - 16) (c - 16))]), (.bool true), (.bool true)]) (i := 1) rfl rfl) rfl ?_
  refine sq (St.closed _ _ _ _) (q_extract (vs := [(.agg #[(.slice (some ⟨b24, 0, none⟩) 4 4), (.slice (some ⟨b33, 0, none⟩) 1 1), (.slice none 0 0), (.slice (cutA A c 16) (n - 16) (c - 16))]), (.bool true), (.bool true)]) (i := 2) rfl rfl) rfl ?_
  refine sl_ (l_storeAgg (b := b4) (off := 0) (j := 0) (vs := [(.slice (some ⟨b24, 0, none⟩) 4 4), (.slice (some ⟨b33, 0, none⟩) 1 1), (.slice none 0 0), (.slice (cutA A c 16) (n - 16) (c - 16))]) rfl rfl aggs_29 (by simp [Value.one1]) rfl rfl rfl (Nat.le_of_ble_eq_true rfl) ?_)
  refine sq (St.closed _ _ _ _) (q_assign rfl) rfl ?_
  refine sq (St.closed _ _ _ _) (q_assign rfl) rfl ?_
  refine send ?_
  refine eseq ?_
  refine HT.ret ?_
  refine rt_in ?_
  refine rt_then ?_
  exact fun a ha w' hw => fin_ ha (resc3 ha Tryz.results26 rfl (ld_ aggs_29 hw (j := 0) rfl rfl (vs := [(.slice (some ⟨b24, 0, none⟩) 4 4), (.slice (some ⟨b33, 0, none⟩) 1 1), (.slice none 0 0), (.slice (cutA A c 16) (n - 16) (c - 16))]) rfl) rfl rfl) ⟨⟨⟨some ⟨b24, 0, none⟩, 4, 4, [bN bs 0 2, bN bs 4 2, bN bs 14 2, bN bs 2 2]⟩, some ⟨b33, 0, none⟩, 1, 1, [⟨cutA A c 6, (6 + (bN bs 4 2)) - 6, c - 6, sl bs 6 (6 + (bN bs 4 2))⟩], none, 0, 0, [], ⟨cutA A c 16, n - 16, c - 16, sl bs 16 n⟩⟩, rfl, hw.pres, Own.lay (all1 (Own.cel hw (j := 1) (sz := 1) (r := []) rfl rfl rfl rfl (Nat.le_refl _)) (all1 (Own.cel hw (j := 2) (sz := 1) (r := []) rfl rfl rfl rfl (Nat.le_refl _)) (all1 (Own.nilCel 2) (all1 (Own.cut hw (j := 0) (lo := 16) (hi := n) rfl (fun _ h => .inr h) (by omega) (by omega)) (all1 (Own.cut hw (j := 0) (lo := 6) (hi := 6 + (bN bs 4 2)) rfl (fun _ h => .inr h) (by have := bN_lt bs 4 2 65536 rfl; omega) (by have := bN_lt bs 4 2 65536 rfl; omega)) all0))))), rfl⟩
end Go.Proofs.YtfkaafbeeegenaaGreat.Zed
