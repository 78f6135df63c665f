/- udplite: the reference -/
import Derived.Test.YtfkaafbeeegenaaGreatRead
import Derived.KernelRfl
namespace Go.Proofs.YtfkaafbeeegenaaGreat.Zed
set_option linter.unusedVariables false
set_option linter.unusedSimpArgs false
set_option maxRecDepth 100000
set_option maxHeartbeats 4000000
theorem ca_91 : callable Tryz.prog 91 = true := by kernel_rfl
theorem ca_83 : callable Tryz.prog 83 = true := by kernel_rfl
theorem zero_110 : (Tryz.prog.info? 110).bind (·.zero) = some (.pointer none) := by kernel_rfl
theorem zero_114 : (Tryz.prog.info? 114).bind (·.zero) = some (.pointer none) := by kernel_rfl
theorem zero_121 : (Tryz.prog.info? 121).bind (·.zero) = some (.pointer none) := by kernel_rfl
theorem zero_127 : (Tryz.prog.info? 127).bind (·.zero) = some (.pointer none) := by kernel_rfl
theorem zero_130 : (Tryz.prog.info? 130).bind (·.zero) = some (.pointer none) := by kernel_rfl
theorem fo_136_1 : foff Tryz.prog 136 1 = some 2 := by kernel_rfl
theorem nagg_134 : nagg Tryz.prog 134 = true := by kernel_rfl
theorem fo_136_2 : foff Tryz.prog 136 2 = some 3 := by kernel_rfl
theorem fo_136_3 : foff Tryz.prog 136 3 = some 4 := by kernel_rfl
theorem nagg_70 : nagg Tryz.prog 70 = true := by kernel_rfl
theorem fo_136_4 : foff Tryz.prog 136 4 = some 5 := by kernel_rfl
theorem me_133_LayerPayload : ∀ (b : Nat) (w : World), (method (Tryz.prog.types.size + Made.depth) 133 (.pointer (some ⟨b, 0, none⟩)) "LayerPayload").run Tryz.prog w = .ok (120, .pointer (some ⟨b, 0, none⟩)) w := fun b w => by kernel_rfl

theorem udplite_S0 (w : World) (A : Option Addr) (n : Nat) (c : Nat) (bs : List UInt8) (hn : n ≤ 2147483647) (ha : n < 8) (hst : St w [] [] [Byt A n c bs] w) : Calls Tryz.prog 26 #[(.string ⟨#[117, 100, 112, 108, 105, 116, 101]⟩), (.slice A n c)] w (SP w (Byt A n c bs) (some none)) := by
  have hnc00 : n ≤ c := (hst.fact (j := 0) rfl).2.1
  refine enter (vs := [(.string ⟨#[117, 100, 112, 108, 105, 116, 101]⟩), (.slice A n c)]) Tryz.func26 rfl rfl rfl hst ?_
  refine HT.seq ?_
  refine HT.plain ?_
  refine sl_ (l_alloc (by decide) zero_29 fun b4 => ?_)
  refine sq (St.closed _ _ _ _) (q_assign rfl) rfl ?_
  refine sq (St.closed _ _ _ _) (q_assign rfl) rfl ?_
  refine send ?_
  refine eseq ?_
  refine HT.seq ?_
  refine HT.plain ?_
  refine sl_ (l_makeMap (by decide) fun b13 => ?_)
  refine sl_ (l_insert (es := es0) (ck := 0) rfl rfl rfl Tryz.underlying36 Tryz.underlying9 fi0 ?_)
  refine sl_ (l_insert (es := es1) (ck := 1) rfl rfl rfl Tryz.underlying36 Tryz.underlying9 fi1 ?_)
  refine sl_ (l_insert (es := es2) (ck := 2) rfl rfl rfl Tryz.underlying36 Tryz.underlying9 fi2 ?_)
  refine sl_ (l_insert (es := es3) (ck := 3) rfl rfl rfl Tryz.underlying36 Tryz.underlying9 fi3 ?_)
  refine sl_ (l_insert (es := es4) (ck := 4) rfl rfl rfl Tryz.underlying36 Tryz.underlying9 fi4 ?_)
  refine sl_ (l_insert (es := es5) (ck := 5) rfl rfl rfl Tryz.underlying36 Tryz.underlying9 fi5 ?_)
  refine sl_ (l_insert (es := es6) (ck := 6) rfl rfl rfl Tryz.underlying36 Tryz.underlying9 fi6 ?_)
  refine sl_ (l_insert (es := es7) (ck := 7) rfl rfl rfl Tryz.underlying36 Tryz.underlying9 fi7 ?_)
  refine sl_ (l_insert (es := es8) (ck := 8) rfl rfl rfl Tryz.underlying36 Tryz.underlying9 fi8 ?_)
  refine sl_ (l_insert (es := es9) (ck := 9) rfl rfl rfl Tryz.underlying36 Tryz.underlying9 fi9 ?_)
  refine sl_ (l_insert (es := es10) (ck := 10) rfl rfl rfl Tryz.underlying36 Tryz.underlying9 fi10 ?_)
  refine sl_ (l_insert (es := es11) (ck := 11) rfl rfl rfl Tryz.underlying36 Tryz.underlying9 fi11 ?_)
  refine sl_ (l_insert (es := es12) (ck := 12) rfl rfl rfl Tryz.underlying36 Tryz.underlying9 fi12 ?_)
  refine sl_ (l_insert (es := es13) (ck := 13) rfl rfl rfl Tryz.underlying36 Tryz.underlying9 fi13 ?_)
  refine sl_ (l_insert (es := es14) (ck := 14) rfl rfl rfl Tryz.underlying36 Tryz.underlying9 fi14 ?_)
  refine sl_ (l_insert (es := es15) (ck := 15) rfl rfl rfl Tryz.underlying36 Tryz.underlying9 fi15 ?_)
  refine sl_ (l_insert (es := es16) (ck := 16) rfl rfl rfl Tryz.underlying36 Tryz.underlying9 fi16 ?_)
  refine sl_ (l_insert (es := es17) (ck := 17) rfl rfl rfl Tryz.underlying36 Tryz.underlying9 fi17 ?_)
  refine sl_ (l_insert (es := es18) (ck := 18) rfl rfl rfl Tryz.underlying36 Tryz.underlying9 fi18 ?_)
  refine sl_ (l_insert (es := es19) (ck := 19) rfl rfl rfl Tryz.underlying36 Tryz.underlying9 fi19 ?_)
  refine sl_ (l_insert (es := es20) (ck := 20) rfl rfl rfl Tryz.underlying36 Tryz.underlying9 fi20 ?_)
  refine sq (SM.closed) (q_move rfl) rfl ?_
  refine sq (SM.closed) (q_move rfl) rfl ?_
  refine sq (SM.closed) (q_lookup (es := es21) (i := 14) (v := (.int .i64 ((8 : Nat) : Int))) (fun _ h => h) rfl rfl Tryz.underlying36 Tryz.underlying9 (by kernel_rfl)) rfl ?_
  refine sq (SM.closed) (q_assign rfl) rfl ?_
  refine send ?_
  refine eseq ?_
  refine HT.unmap ?_
  refine HT.seq ?_
  refine HT.seq ?_
  refine HT.plain ?_
  refine sq (St.closed _ _ _ _) (q_move rfl) rfl ?_
  refine sq (St.closed _ _ _ _) (q_len (len := n) rfl Tryz.underlying22) rfl ?_
  refine sq (St.closed _ _ _ _) (q_move rfl) rfl ?_
  refine sq (St.closed _ _ _ _) (q_T (q_lt (p := n) (q := 8) rfl rfl) (by omega)) rfl ?_
  refine send ?_
  refine eseq ?_
  refine HT.yes rfl ?_
  refine HT.seq ?_
  refine HT.plain ?_
  refine sq (St.closed _ _ _ _) (q_build (vs := []) (v := (.agg #[(.slice none 0 0), (.slice none 0 0), (.slice none 0 0), (.slice none 0 0)])) rfl (fun _ => by kernel_rfl)) rfl ?_
  refine sl_ (l_storeAgg (b := b4) (off := 0) (j := 0) (vs := [(.slice none 0 0), (.slice none 0 0), (.slice none 0 0), (.slice none 0 0)]) rfl rfl aggs_29 (by simp [Value.one1]) rfl rfl rfl (Nat.le_of_ble_eq_true rfl) ?_)
  refine sq (St.closed _ _ _ _) (q_assign rfl) rfl ?_
  refine sq (St.closed _ _ _ _) (q_assign rfl) rfl ?_
  refine send ?_
  refine eseq ?_
  refine HT.ret ?_
  refine rt_then ?_
  exact fun a ha w' hw => fin_ ha (resc3 ha Tryz.results26 rfl (ld_ aggs_29 hw (j := 0) rfl rfl (vs := [(.slice none 0 0), (.slice none 0 0), (.slice none 0 0), (.slice none 0 0)]) rfl) rfl rfl) ⟨rfl, hw.pres⟩

theorem udplite_S1 (w : World) (A : Option Addr) (n : Nat) (c : Nat) (bs : List UInt8) (hn : n ≤ 2147483647) (ha : 8 ≤ n) (hst : St w [] [] [Byt A n c bs] w) : Calls Tryz.prog 26 #[(.string ⟨#[117, 100, 112, 108, 105, 116, 101]⟩), (.slice A n c)] w (SP w (Byt A n c bs) (some (some ⟨[bN bs 0 2, bN bs 2 2, bN bs 4 2, bN bs 6 2], [], [], sl bs 8 n⟩))) := by
  have hnc00 : n ≤ c := (hst.fact (j := 0) rfl).2.1
  refine enter (vs := [(.string ⟨#[117, 100, 112, 108, 105, 116, 101]⟩), (.slice A n c)]) Tryz.func26 rfl rfl rfl hst ?_
  refine HT.seq ?_
  refine HT.plain ?_
  refine sl_ (l_alloc (by decide) zero_29 fun b4 => ?_)
  refine sq (St.closed _ _ _ _) (q_assign rfl) rfl ?_
  refine sq (St.closed _ _ _ _) (q_assign rfl) rfl ?_
  refine send ?_
  refine eseq ?_
  refine HT.seq ?_
  refine HT.plain ?_
  refine sl_ (l_makeMap (by decide) fun b13 => ?_)
  refine sl_ (l_insert (es := es0) (ck := 0) rfl rfl rfl Tryz.underlying36 Tryz.underlying9 fi0 ?_)
  refine sl_ (l_insert (es := es1) (ck := 1) rfl rfl rfl Tryz.underlying36 Tryz.underlying9 fi1 ?_)
  refine sl_ (l_insert (es := es2) (ck := 2) rfl rfl rfl Tryz.underlying36 Tryz.underlying9 fi2 ?_)
  refine sl_ (l_insert (es := es3) (ck := 3) rfl rfl rfl Tryz.underlying36 Tryz.underlying9 fi3 ?_)
  refine sl_ (l_insert (es := es4) (ck := 4) rfl rfl rfl Tryz.underlying36 Tryz.underlying9 fi4 ?_)
  refine sl_ (l_insert (es := es5) (ck := 5) rfl rfl rfl Tryz.underlying36 Tryz.underlying9 fi5 ?_)
  refine sl_ (l_insert (es := es6) (ck := 6) rfl rfl rfl Tryz.underlying36 Tryz.underlying9 fi6 ?_)
  refine sl_ (l_insert (es := es7) (ck := 7) rfl rfl rfl Tryz.underlying36 Tryz.underlying9 fi7 ?_)
  refine sl_ (l_insert (es := es8) (ck := 8) rfl rfl rfl Tryz.underlying36 Tryz.underlying9 fi8 ?_)
  refine sl_ (l_insert (es := es9) (ck := 9) rfl rfl rfl Tryz.underlying36 Tryz.underlying9 fi9 ?_)
  refine sl_ (l_insert (es := es10) (ck := 10) rfl rfl rfl Tryz.underlying36 Tryz.underlying9 fi10 ?_)
  refine sl_ (l_insert (es := es11) (ck := 11) rfl rfl rfl Tryz.underlying36 Tryz.underlying9 fi11 ?_)
  refine sl_ (l_insert (es := es12) (ck := 12) rfl rfl rfl Tryz.underlying36 Tryz.underlying9 fi12 ?_)
  refine sl_ (l_insert (es := es13) (ck := 13) rfl rfl rfl Tryz.underlying36 Tryz.underlying9 fi13 ?_)
  refine sl_ (l_insert (es := es14) (ck := 14) rfl rfl rfl Tryz.underlying36 Tryz.underlying9 fi14 ?_)
  refine sl_ (l_insert (es := es15) (ck := 15) rfl rfl rfl Tryz.underlying36 Tryz.underlying9 fi15 ?_)
  refine sl_ (l_insert (es := es16) (ck := 16) rfl rfl rfl Tryz.underlying36 Tryz.underlying9 fi16 ?_)
  refine sl_ (l_insert (es := es17) (ck := 17) rfl rfl rfl Tryz.underlying36 Tryz.underlying9 fi17 ?_)
  refine sl_ (l_insert (es := es18) (ck := 18) rfl rfl rfl Tryz.underlying36 Tryz.underlying9 fi18 ?_)
  refine sl_ (l_insert (es := es19) (ck := 19) rfl rfl rfl Tryz.underlying36 Tryz.underlying9 fi19 ?_)
  refine sl_ (l_insert (es := es20) (ck := 20) rfl rfl rfl Tryz.underlying36 Tryz.underlying9 fi20 ?_)
  refine sq (SM.closed) (q_move rfl) rfl ?_
  refine sq (SM.closed) (q_move rfl) rfl ?_
  refine sq (SM.closed) (q_lookup (es := es21) (i := 14) (v := (.int .i64 ((8 : Nat) : Int))) (fun _ h => h) rfl rfl Tryz.underlying36 Tryz.underlying9 (by kernel_rfl)) rfl ?_
  refine sq (SM.closed) (q_assign rfl) rfl ?_
  refine send ?_
  refine eseq ?_
  refine HT.unmap ?_
  refine HT.seq ?_
  refine HT.seq ?_
  refine HT.plain ?_
  refine sq (St.closed _ _ _ _) (q_move rfl) rfl ?_
  refine sq (St.closed _ _ _ _) (q_len (len := n) rfl Tryz.underlying22) rfl ?_
  refine sq (St.closed _ _ _ _) (q_move rfl) rfl ?_
  refine sq (St.closed _ _ _ _) (q_F (q_lt (p := n) (q := 8) rfl rfl) (by omega)) rfl ?_
  refine send ?_
  refine eseq ?_
  refine HT.no rfl ?_
  refine HT.skip ?_
  refine eseq ?_
  refine HT.seq ?_
  refine HT.seq ?_
  refine HT.plain ?_
  refine sq (St.closed _ _ _ _) (q_move rfl) rfl ?_
  refine send ?_
  refine eseq ?_
  refine HT.block ?_
  refine HT.seq ?_
  refine HT.plain ?_
  refine sq (St.closed _ _ _ _) (q_eqs rfl rfl (r := false) (by kernel_rfl)) rfl ?_
  refine sq (St.closed _ _ _ _) (q_assign rfl) rfl ?_
  refine send ?_
  refine eseq ?_
  refine HT.no rfl ?_
  refine HT.seq ?_
  refine HT.plain ?_
  refine sq (St.closed _ _ _ _) (q_eqs rfl rfl (r := false) (by kernel_rfl)) rfl ?_
  refine sq (St.closed _ _ _ _) (q_assign rfl) rfl ?_
  refine send ?_
  refine eseq ?_
  refine HT.no rfl ?_
  refine HT.seq ?_
  refine HT.plain ?_
  refine sq (St.closed _ _ _ _) (q_eqs rfl rfl (r := false) (by kernel_rfl)) rfl ?_
  refine sq (St.closed _ _ _ _) (q_assign rfl) rfl ?_
  refine send ?_
  refine eseq ?_
  refine HT.no rfl ?_
  refine HT.seq ?_
  refine HT.plain ?_
  refine sq (St.closed _ _ _ _) (q_eqs rfl rfl (r := false) (by kernel_rfl)) rfl ?_
  refine sq (St.closed _ _ _ _) (q_assign rfl) rfl ?_
  refine send ?_
  refine eseq ?_
  refine HT.no rfl ?_
  refine HT.seq ?_
  refine HT.plain ?_
  refine sq (St.closed _ _ _ _) (q_eqs rfl rfl (r := false) (by kernel_rfl)) rfl ?_
  refine sq (St.closed _ _ _ _) (q_assign rfl) rfl ?_
  refine send ?_
  refine eseq ?_
  refine HT.no rfl ?_
  refine HT.seq ?_
  refine HT.plain ?_
  refine sq (St.closed _ _ _ _) (q_eqs rfl rfl (r := false) (by kernel_rfl)) rfl ?_
  refine sq (St.closed _ _ _ _) (q_assign rfl) rfl ?_
  refine send ?_
  refine eseq ?_
  refine HT.no rfl ?_
  refine HT.seq ?_
  refine HT.plain ?_
  refine sq (St.closed _ _ _ _) (q_eqs rfl rfl (r := false) (by kernel_rfl)) rfl ?_
  refine sq (St.closed _ _ _ _) (q_assign rfl) rfl ?_
  refine send ?_
  refine eseq ?_
  refine HT.no rfl ?_
  refine HT.seq ?_
  refine HT.plain ?_
  refine sq (St.closed _ _ _ _) (q_eqs rfl rfl (r := false) (by kernel_rfl)) rfl ?_
  refine sq (St.closed _ _ _ _) (q_assign rfl) rfl ?_
  refine send ?_
  refine eseq ?_
  refine HT.no rfl ?_
  refine HT.seq ?_
  refine HT.plain ?_
  refine sq (St.closed _ _ _ _) (q_eqs rfl rfl (r := false) (by kernel_rfl)) rfl ?_
  refine sq (St.closed _ _ _ _) (q_assign rfl) rfl ?_
  refine send ?_
  refine eseq ?_
  refine HT.no rfl ?_
  refine HT.seq ?_
  refine HT.plain ?_
  refine sq (St.closed _ _ _ _) (q_eqs rfl rfl (r := false) (by kernel_rfl)) rfl ?_
  refine sq (St.closed _ _ _ _) (q_assign rfl) rfl ?_
  refine send ?_
  refine eseq ?_
  refine HT.no rfl ?_
  refine HT.seq ?_
  refine HT.plain ?_
  refine sq (St.closed _ _ _ _) (q_eqs rfl rfl (r := false) (by kernel_rfl)) rfl ?_
  refine sq (St.closed _ _ _ _) (q_assign rfl) rfl ?_
  refine send ?_
  refine eseq ?_
  refine HT.no rfl ?_
  refine HT.seq ?_
  refine HT.plain ?_
  refine sq (St.closed _ _ _ _) (q_eqs rfl rfl (r := false) (by kernel_rfl)) rfl ?_
  refine sq (St.closed _ _ _ _) (q_assign rfl) rfl ?_
  refine send ?_
  refine eseq ?_
  refine HT.no rfl ?_
  refine HT.seq ?_
  refine HT.plain ?_
  refine sq (St.closed _ _ _ _) (q_eqs rfl rfl (r := false) (by kernel_rfl)) rfl ?_
  refine sq (St.closed _ _ _ _) (q_assign rfl) rfl ?_
  refine send ?_
  refine eseq ?_
  refine HT.no rfl ?_
  refine HT.seq ?_
  refine HT.plain ?_
  refine sq (St.closed _ _ _ _) (q_eqs rfl rfl (r := false) (by kernel_rfl)) rfl ?_
  refine sq (St.closed _ _ _ _) (q_assign rfl) rfl ?_
  refine send ?_
  refine eseq ?_
  refine HT.no rfl ?_
  refine HT.seq ?_
  refine HT.plain ?_
  refine sq (St.closed _ _ _ _) (q_eqs rfl rfl (r := true) (by kernel_rfl)) rfl ?_
  refine sq (St.closed _ _ _ _) (q_assign rfl) rfl ?_
  refine send ?_
  refine eseq ?_
  refine HT.yes rfl ?_
  refine HT.seq ?_
  refine HT.drawn mixed (St.closed _ _ _ _) (St w [] [⟨b4, 29, [none, some (.slice none 0 0), some (.slice none 0 0), none], true⟩] [Byt A n c bs]) ?_
  refine dtake (f := 5) [0, 1, 2, 3, 4, 5, 6, 7, 8, 9, 10, 11, 12, 13] (by kernel_rfl) (St.closed _ _ _ _) (fun _ h => (h.wk [(0, [0, 3])] rfl)) (by kernel_rfl) ?_
  refine dq rfl (q_move rfl) ?_
  refine dq rfl (q_slice (lo := 8) (hi := n) rfl Tryz.underlying22 nagg_5 (.inr ⟨_, _, rfl, rfl⟩) (.inl ⟨rfl, rfl⟩) (by omega) (by omega)) ?_
  refine dq rfl (q_move rfl) ?_
  refine dq rfl (q_slice (lo := 0) (hi := 2) rfl Tryz.underlying22 nagg_5 (.inl ⟨rfl, rfl⟩) (.inr ⟨_, _, rfl, rfl⟩) (by omega) (by omega)) ?_
  refine dq rfl (q_call (vs := [(.slice (cutA A c 0) (2 - 0) (c - 0))]) (v := (.int .u64 ((bN bs 0 2 : Nat) : Int))) rfl ca_34 (fun w h => NumberC w A n c bs (lo := 0) (hi := 2) (h.fact (j := 0) rfl) (k := 2) rfl (by decide) (by omega) (by omega))) ?_
  refine dq rfl (q_move rfl) ?_
  refine dq rfl (q_slice (lo := 2) (hi := 4) rfl Tryz.underlying22 nagg_5 (.inr ⟨_, _, rfl, rfl⟩) (.inr ⟨_, _, rfl, rfl⟩) (by omega) (by omega)) ?_
  refine dq rfl (q_call (vs := [(.slice (cutA A c 2) (4 - 2) (c - 2))]) (v := (.int .u64 ((bN bs 2 2 : Nat) : Int))) rfl ca_34 (fun w h => NumberC w A n c bs (lo := 2) (hi := 4) (h.fact (j := 0) rfl) (k := 2) rfl (by decide) (by omega) (by omega))) ?_
  refine dq rfl (q_move rfl) ?_
  refine dq rfl (q_slice (lo := 4) (hi := 6) rfl Tryz.underlying22 nagg_5 (.inr ⟨_, _, rfl, rfl⟩) (.inr ⟨_, _, rfl, rfl⟩) (by omega) (by omega)) ?_
  refine dq rfl (q_call (vs := [(.slice (cutA A c 4) (6 - 4) (c - 4))]) (v := (.int .u64 ((bN bs 4 2 : Nat) : Int))) rfl ca_34 (fun w h => NumberC w A n c bs (lo := 4) (hi := 6) (h.fact (j := 0) rfl) (k := 2) rfl (by decide) (by omega) (by omega))) ?_
  refine dq rfl (q_move rfl) ?_
  refine dq rfl (q_slice (lo := 6) (hi := 8) rfl Tryz.underlying22 nagg_5 (.inr ⟨_, _, rfl, rfl⟩) (.inr ⟨_, _, rfl, rfl⟩) (by omega) (by omega)) ?_
  refine dq rfl (q_call (vs := [(.slice (cutA A c 6) (8 - 6) (c - 6))]) (v := (.int .u64 ((bN bs 6 2 : Nat) : Int))) rfl ca_34 (fun w h => NumberC w A n c bs (lo := 6) (hi := 8) (h.fact (j := 0) rfl) (k := 2) rfl (by decide) (by omega) (by omega))) ?_
  refine QL.nil ?_
  refine RG.step1 14 (by kernel_rfl) ?_
  refine dop rfl (l_buildSlice (e := 39) (vs := [(0, (.int .u64 ((bN bs 0 2 : Nat) : Int))), (1, (.int .u64 ((bN bs 2 2 : Nat) : Int))), (2, (.int .u64 ((bN bs 4 2 : Nat) : Int))), (3, (.int .u64 ((bN bs 6 2 : Nat) : Int)))]) (cs := [(.int .u64 ((bN bs 0 2 : Nat) : Int)), (.int .u64 ((bN bs 2 2 : Nat) : Int)), (.int .u64 ((bN bs 4 2 : Nat) : Int)), (.int .u64 ((bN bs 6 2 : Nat) : Int))]) (by decide) rfl (fun _ => by kernel_rfl) fun b198 => ⟨(fun _ h => (h.wk [(0, [0, 3])] rfl)), ?_⟩)
  refine dtake (f := 3) [15] (by kernel_rfl) (St.closed _ _ _ _) (fun _ h => (h.wk [(0, [0, 3])] rfl)) (by kernel_rfl) ?_
  refine dq rfl (q_call (vs := [(.slice (cutA A c 8) (n - 8) (c - 8)), (.slice (some ⟨b198, 0, none⟩) 4 4)]) (v := (.agg #[(.slice (some ⟨b198, 0, none⟩) 4 4), (.slice none 0 0), (.slice none 0 0), (.slice (cutA A c 8) (n - 8) (c - 8))])) rfl ca_33 (fun w h => layerC w (cutA A c 8) (n - 8) (c - 8) (some ⟨b198, 0, none⟩) 4 4  (St.enter (sp := []) (Kc := []) (bi := []) h rfl rfl rfl))) ?_
  refine QL.nil ?_
  refine RG.step1 16 (by kernel_rfl) ?_
  refine dop rfl (l_storeAgg (b := b4) (off := 0) (j := 0) (vs := [(.slice (some ⟨b198, 0, none⟩) 4 4), (.slice none 0 0), (.slice none 0 0), (.slice (cutA A c 8) (n - 8) (c - 8))]) rfl rfl aggs_29 (by simp [Value.one1]) rfl rfl rfl (Nat.le_of_ble_eq_true rfl) ⟨(fun _ h => (h.wk [(0, [0, 3])] rfl)), ?_⟩)
  refine dtake (f := 0) [17, 18] (by kernel_rfl) (St.closed _ _ _ _) (fun _ h => (h.wk [(0, [0, 3])] rfl)) (by kernel_rfl) ?_
  refine dq rfl (q_assign rfl) ?_
  refine dq rfl (q_assign rfl) ?_
  refine QL.nil ?_
  refine dend (by kernel_rfl) ?_
  refine eseq ?_
  refine HT.ret ?_
  refine rt_in ?_
  refine rt_then ?_
  exact fun a ha w' hw => fin_ ha (resc3 ha Tryz.results26 rfl (ld_ aggs_29 hw (j := 0) rfl rfl (vs := [(.slice (some ⟨b198, 0, none⟩) 4 4), (.slice none 0 0), (.slice none 0 0), (.slice (cutA A c 8) (n - 8) (c - 8))]) rfl) rfl rfl) ⟨⟨⟨some ⟨b198, 0, none⟩, 4, 4, [bN bs 0 2, bN bs 2 2, bN bs 4 2, bN bs 6 2]⟩, none, 0, 0, [], none, 0, 0, [], ⟨cutA A c 8, n - 8, c - 8, sl bs 8 n⟩⟩, rfl, hw.pres, Own.lay (all1 (Own.cel hw (j := 1) (sz := 1) (r := []) rfl rfl rfl rfl (Nat.le_refl _)) (all1 (Own.nilCel 1) (all1 (Own.nilCel 2) (all1 (Own.cut hw (j := 0) (lo := 8) (hi := n) rfl (fun _ h => .inr h) (by omega) (by omega)) all0)))), rfl⟩
end Go.Proofs.YtfkaafbeeegenaaGreat.Zed
