/- mpls: the reference -/
import Derived.Test.YtfkaafbeeegenaaGreatBas
import Derived.KernelRfl
namespace Go.Proofs.YtfkaafbeeegenaaGreat.Zed
set_option linter.unusedVariables false
set_option linter.unusedSimpArgs false
set_option maxRecDepth 100000
set_option maxHeartbeats 4000000
theorem ca_34 : callable Tryz.prog 34 = true := by kernel_rfl
theorem ca_33 : callable Tryz.prog 33 = true := by kernel_rfl
theorem ca_57 : callable Tryz.prog 57 = true := by kernel_rfl
theorem ca_46 : callable Tryz.prog 46 = true := by kernel_rfl
theorem aggs_210 : aggs Tryz.prog 210 = some 0 := by kernel_rfl
theorem ca_97 : callable Tryz.prog 97 = true := by kernel_rfl
theorem me_199_AddLayer : ∀ (b : Nat) (w : World), (method (Tryz.prog.types.size + Made.depth) 199 (.pointer (some ⟨b, 0, none⟩)) "AddLayer").run Tryz.prog w = .ok (166, .pointer (some ⟨b, 0, none⟩)) w := fun b w => by kernel_rfl
theorem ca_166 : callable Tryz.prog 166 = true := by kernel_rfl
theorem ca_67 : callable Tryz.prog 67 = true := by kernel_rfl
theorem ca_78 : callable Tryz.prog 78 = true := by kernel_rfl
theorem ca_59 : callable Tryz.prog 59 = true := by kernel_rfl
theorem ca_58 : callable Tryz.prog 58 = true := by kernel_rfl
theorem zero_63 : (Tryz.prog.info? 63).bind (·.zero) = some (.pointer none) := by kernel_rfl
theorem ca_60 : callable Tryz.prog 60 = true := by kernel_rfl
theorem zero_66 : (Tryz.prog.info? 66).bind (·.zero) = some (.pointer none) := by kernel_rfl
theorem zero_73 : (Tryz.prog.info? 73).bind (·.zero) = some (.pointer none) := by kernel_rfl
theorem zero_78 : (Tryz.prog.info? 78).bind (·.zero) = some (.pointer none) := by kernel_rfl
theorem zero_81 : (Tryz.prog.info? 81).bind (·.zero) = some (.pointer none) := by kernel_rfl
theorem zero_85 : (Tryz.prog.info? 85).bind (·.zero) = some (.pointer none) := by kernel_rfl
theorem zero_89 : (Tryz.prog.info? 89).bind (·.zero) = some (.pointer none) := by kernel_rfl
theorem zero_94 : (Tryz.prog.info? 94).bind (·.zero) = some (.pointer none) := by kernel_rfl
theorem zero_95 : (Tryz.prog.info? 95).bind (·.zero) = some (.pointer none) := by kernel_rfl
theorem zero_99 : (Tryz.prog.info? 99).bind (·.zero) = some (.pointer none) := by kernel_rfl
theorem zero_105 : (Tryz.prog.info? 105).bind (·.zero) = some (.pointer none) := by kernel_rfl
theorem fo_113_1 : foff Tryz.prog 113 1 = some 2 := by kernel_rfl
theorem nagg_111 : nagg Tryz.prog 111 = true := by kernel_rfl
theorem fo_113_2 : foff Tryz.prog 113 2 = some 3 := by kernel_rfl
theorem fo_113_3 : foff Tryz.prog 113 3 = some 4 := by kernel_rfl
theorem nagg_4 : nagg Tryz.prog 4 = true := by kernel_rfl
theorem ca_61 : callable Tryz.prog 61 = true := by kernel_rfl
theorem fo_113_4 : foff Tryz.prog 113 4 = some 5 := by kernel_rfl
theorem fo_29_0 : foff Tryz.prog 29 0 = some 0 := by kernel_rfl
theorem nagg_25 : nagg Tryz.prog 25 = true := by kernel_rfl
theorem me_110_LayerPayload : ∀ (b : Nat) (w : World), (method (Tryz.prog.types.size + Made.depth) 110 (.pointer (some ⟨b, 0, none⟩)) "LayerPayload").run Tryz.prog w = .ok (120, .pointer (some ⟨b, 0, none⟩)) w := fun b w => by kernel_rfl
theorem ca_120 : callable Tryz.prog 120 = true := by kernel_rfl
theorem ca_47 : callable Tryz.prog 47 = true := by kernel_rfl

theorem mpls_S0 (w : World) (A : Option Addr) (n : Nat) (c : Nat) (bs : List UInt8) (hn : n ≤ 2147483647) (ha : n < 4) (hst : St w [] [] [Byt A n c bs] w) : Calls Tryz.prog 26 #[(.string ⟨#[109, 112, 108, 115]⟩), (.slice A n c)] w (SP w (Byt A n c bs) (some none)) := by
  have hnc00 : n ≤ c := (hst.fact (j := 0) rfl).2.1
  refine enter (vs := [(.string ⟨#[109, 112, 108, 115]⟩), (.slice A n c)]) Tryz.func26 rfl rfl rfl hst ?_
  refine HT.seq ?_
  refine HT.plain ?_
  refine sl_ (l_alloc (by decide) zero_29 fun b4 => ?_)
  refine sq (St.closed _ _ _ _) (q_assign rfl) rfl ?_
  refine sq (St.closed _ _ _ _) (q_assign rfl) rfl ?_
  refine send ?_
  refine eseq ?_
  refine HT.seq ?_
  refine HT.plain ?_
  refine sl_ (l_makeMap (by decide) fun b13 => ?_)
  refine sl_ (l_insert (es := es0) (ck := 0) rfl rfl rfl Tryz.underlying36 Tryz.underlying9 fi0 ?_)
  refine sl_ (l_insert (es := es1) (ck := 1) rfl rfl rfl Tryz.underlying36 Tryz.underlying9 fi1 ?_)
  refine sl_ (l_insert (es := es2) (ck := 2) rfl rfl rfl Tryz.underlying36 Tryz.underlying9 fi2 ?_)
  refine sl_ (l_insert (es := es3) (ck := 3) rfl rfl rfl Tryz.underlying36 Tryz.underlying9 fi3 ?_)
  refine sl_ (l_insert (es := es4) (ck := 4) rfl rfl rfl Tryz.underlying36 Tryz.underlying9 fi4 ?_)
  refine sl_ (l_insert (es := es5) (ck := 5) rfl rfl rfl Tryz.underlying36 Tryz.underlying9 fi5 ?_)
  refine sl_ (l_insert (es := es6) (ck := 6) rfl rfl rfl Tryz.underlying36 Tryz.underlying9 fi6 ?_)
  refine sl_ (l_insert (es := es7) (ck := 7) rfl rfl rfl Tryz.underlying36 Tryz.underlying9 fi7 ?_)
  refine sl_ (l_insert (es := es8) (ck := 8) rfl rfl rfl Tryz.underlying36 Tryz.underlying9 fi8 ?_)
  refine sl_ (l_insert (es := es9) (ck := 9) rfl rfl rfl Tryz.underlying36 Tryz.underlying9 fi9 ?_)
  refine sl_ (l_insert (es := es10) (ck := 10) rfl rfl rfl Tryz.underlying36 Tryz.underlying9 fi10 ?_)
  refine sl_ (l_insert (es := es11) (ck := 11) rfl rfl rfl Tryz.underlying36 Tryz.underlying9 fi11 ?_)
  refine sl_ (l_insert (es := es12) (ck := 12) rfl rfl rfl Tryz.underlying36 Tryz.underlying9 fi12 ?_)
  refine sl_ (l_insert (es := es13) (ck := 13) rfl rfl rfl Tryz.underlying36 Tryz.underlying9 fi13 ?_)
  refine sl_ (l_insert (es := es14) (ck := 14) rfl rfl rfl Tryz.underlying36 Tryz.underlying9 fi14 ?_)
  refine sl_ (l_insert (es := es15) (ck := 15) rfl rfl rfl Tryz.underlying36 Tryz.underlying9 fi15 ?_)
  refine sl_ (l_insert (es := es16) (ck := 16) rfl rfl rfl Tryz.underlying36 Tryz.underlying9 fi16 ?_)
  refine sl_ (l_insert (es := es17) (ck := 17) rfl rfl rfl Tryz.underlying36 Tryz.underlying9 fi17 ?_)
  refine sl_ (l_insert (es := es18) (ck := 18) rfl rfl rfl Tryz.underlying36 Tryz.underlying9 fi18 ?_)
  refine sl_ (l_insert (es := es19) (ck := 19) rfl rfl rfl Tryz.underlying36 Tryz.underlying9 fi19 ?_)
  refine sl_ (l_insert (es := es20) (ck := 20) rfl rfl rfl Tryz.underlying36 Tryz.underlying9 fi20 ?_)
  refine sq (SM.closed) (q_move rfl) rfl ?_
  refine sq (SM.closed) (q_move rfl) rfl ?_
  refine sq (SM.closed) (q_lookup (es := es21) (i := 9) (v := (.int .i64 ((4 : Nat) : Int))) (fun _ h => h) rfl rfl Tryz.underlying36 Tryz.underlying9 (by kernel_rfl)) rfl ?_
  refine sq (SM.closed) (q_assign rfl) rfl ?_
  refine send ?_
  refine eseq ?_
  refine HT.unmap ?_
  refine HT.seq ?_
  refine HT.seq ?_
  refine HT.plain ?_
  refine sq (St.closed _ _ _ _) (q_move rfl) rfl ?_
  refine sq (St.closed _ _ _ _) (q_len (len := n) rfl Tryz.underlying22) rfl ?_
  refine sq (St.closed _ _ _ _) (q_move rfl) rfl ?_
  refine sq (St.closed _ _ _ _) (q_T (q_lt (p := n) (q := 4) rfl rfl) (by omega)) rfl ?_
  refine send ?_
  refine eseq ?_
  refine HT.yes rfl ?_
  refine HT.seq ?_
  refine HT.plain ?_
  refine sq (St.closed _ _ _ _) (q_build (vs := []) (v := (.agg #[(.slice none 0 0), (.slice none 0 0), (.slice none 0 0), (.slice none 0 0)])) rfl (fun _ => by kernel_rfl)) rfl ?_
  refine sl_ (l_storeAgg (b := b4) (off := 0) (j := 0) (vs := [(.slice none 0 0), (.slice none 0 0), (.slice none 0 0), (.slice none 0 0)]) rfl rfl aggs_29 (by simp [Value.one1]) rfl rfl rfl (Nat.le_of_ble_eq_true rfl) ?_)
  refine sq (St.closed _ _ _ _) (q_assign rfl) rfl ?_
  refine sq (St.closed _ _ _ _) (q_assign rfl) rfl ?_
  refine send ?_
  refine eseq ?_
  refine HT.ret ?_
  refine rt_then ?_
  exact fun a ha w' hw => fin_ ha (resc3 ha Tryz.results26 rfl (ld_ aggs_29 hw (j := 0) rfl rfl (vs := [(.slice none 0 0), (.slice none 0 0), (.slice none 0 0), (.slice none 0 0)]) rfl) rfl rfl) ⟨rfl, hw.pres⟩

theorem mpls_S1 (w : World) (A : Option Addr) (n : Nat) (c : Nat) (bs : List UInt8) (hn : n ≤ 2147483647) (ha : 4 ≤ n) (hst : St w [] [] [Byt A n c bs] w) : Calls Tryz.prog 26 #[(.string ⟨#[109, 112, 108, 115]⟩), (.slice A n c)] w (SP w (Byt A n c bs) (some (some ⟨[(bN bs 0 4) / 4096, ((bN bs 0 4) / 512) &&& 7, ((bN bs 0 4) / 256) &&& 1, (bN bs 0 4) &&& 255], [], [], sl bs 4 n⟩))) := by
  have hnc00 : n ≤ c := (hst.fact (j := 0) rfl).2.1
  refine enter (vs := [(.string ⟨#[109, 112, 108, 115]⟩), (.slice A n c)]) Tryz.func26 rfl rfl rfl hst ?_
  refine HT.seq ?_
  refine HT.plain ?_
  refine sl_ (l_alloc (by decide) zero_29 fun b4 => ?_)
  refine sq (St.closed _ _ _ _) (q_assign rfl) rfl ?_
  refine sq (St.closed _ _ _ _) (q_assign rfl) rfl ?_
  refine send ?_
  refine eseq ?_
  refine HT.seq ?_
  refine HT.plain ?_
  refine sl_ (l_makeMap (by decide) fun b13 => ?_)
  refine sl_ (l_insert (es := es0) (ck := 0) rfl rfl rfl Tryz.underlying36 Tryz.underlying9 fi0 ?_)
  refine sl_ (l_insert (es := es1) (ck := 1) rfl rfl rfl Tryz.underlying36 Tryz.underlying9 fi1 ?_)
  refine sl_ (l_insert (es := es2) (ck := 2) rfl rfl rfl Tryz.underlying36 Tryz.underlying9 fi2 ?_)
  refine sl_ (l_insert (es := es3) (ck := 3) rfl rfl rfl Tryz.underlying36 Tryz.underlying9 fi3 ?_)
  refine sl_ (l_insert (es := es4) (ck := 4) rfl rfl rfl Tryz.underlying36 Tryz.underlying9 fi4 ?_)
  refine sl_ (l_insert (es := es5) (ck := 5) rfl rfl rfl Tryz.underlying36 Tryz.underlying9 fi5 ?_)
  refine sl_ (l_insert (es := es6) (ck := 6) rfl rfl rfl Tryz.underlying36 Tryz.underlying9 fi6 ?_)
  refine sl_ (l_insert (es := es7) (ck := 7) rfl rfl rfl Tryz.underlying36 Tryz.underlying9 fi7 ?_)
  refine sl_ (l_insert (es := es8) (ck := 8) rfl rfl rfl Tryz.underlying36 Tryz.underlying9 fi8 ?_)
  refine sl_ (l_insert (es := es9) (ck := 9) rfl rfl rfl Tryz.underlying36 Tryz.underlying9 fi9 ?_)
  refine sl_ (l_insert (es := es10) (ck := 10) rfl rfl rfl Tryz.underlying36 Tryz.underlying9 fi10 ?_)
  refine sl_ (l_insert (es := es11) (ck := 11) rfl rfl rfl Tryz.underlying36 Tryz.underlying9 fi11 ?_)
  refine sl_ (l_insert (es := es12) (ck := 12) rfl rfl rfl Tryz.underlying36 Tryz.underlying9 fi12 ?_)
  refine sl_ (l_insert (es := es13) (ck := 13) rfl rfl rfl Tryz.underlying36 Tryz.underlying9 fi13 ?_)
  refine sl_ (l_insert (es := es14) (ck := 14) rfl rfl rfl Tryz.underlying36 Tryz.underlying9 fi14 ?_)
  refine sl_ (l_insert (es := es15) (ck := 15) rfl rfl rfl Tryz.underlying36 Tryz.underlying9 fi15 ?_)
  refine sl_ (l_insert (es := es16) (ck := 16) rfl rfl rfl Tryz.underlying36 Tryz.underlying9 fi16 ?_)
  refine sl_ (l_insert (es := es17) (ck := 17) rfl rfl rfl Tryz.underlying36 Tryz.underlying9 fi17 ?_)
  refine sl_ (l_insert (es := es18) (ck := 18) rfl rfl rfl Tryz.underlying36 Tryz.underlying9 fi18 ?_)
  refine sl_ (l_insert (es := es19) (ck := 19) rfl rfl rfl Tryz.underlying36 Tryz.underlying9 fi19 ?_)
  refine sl_ (l_insert (es := es20) (ck := 20) rfl rfl rfl Tryz.underlying36 Tryz.underlying9 fi20 ?_)
  refine sq (SM.closed) (q_move rfl) rfl ?_
  refine sq (SM.closed) (q_move rfl) rfl ?_
  refine sq (SM.closed) (q_lookup (es := es21) (i := 9) (v := (.int .i64 ((4 : Nat) : Int))) (fun _ h => h) rfl rfl Tryz.underlying36 Tryz.underlying9 (by kernel_rfl)) rfl ?_
  refine sq (SM.closed) (q_assign rfl) rfl ?_
  refine send ?_
  refine eseq ?_
  refine HT.unmap ?_
  refine HT.seq ?_
  refine HT.seq ?_
  refine HT.plain ?_
  refine sq (St.closed _ _ _ _) (q_move rfl) rfl ?_
  refine sq (St.closed _ _ _ _) (q_len (len := n) rfl Tryz.underlying22) rfl ?_
  refine sq (St.closed _ _ _ _) (q_move rfl) rfl ?_
  refine sq (St.closed _ _ _ _) (q_F (q_lt (p := n) (q := 4) rfl rfl) (by omega)) rfl ?_
  refine send ?_
  refine eseq ?_
  refine HT.no rfl ?_
  refine HT.skip ?_
  refine eseq ?_
  refine HT.seq ?_
  refine HT.seq ?_
  refine HT.plain ?_
  refine sq (St.closed _ _ _ _) (q_move rfl) rfl ?_
  refine send ?_
  refine eseq ?_
  refine HT.block ?_
  refine HT.seq ?_
  refine HT.plain ?_
  refine sq (St.closed _ _ _ _) (q_eqs rfl rfl (r := false) (by kernel_rfl)) rfl ?_
  refine sq (St.closed _ _ _ _) (q_assign rfl) rfl ?_
  refine send ?_
  refine eseq ?_
  refine HT.no rfl ?_
  refine HT.seq ?_
  refine HT.plain ?_
  refine sq (St.closed _ _ _ _) (q_eqs rfl rfl (r := false) (by kernel_rfl)) rfl ?_
  refine sq (St.closed _ _ _ _) (q_assign rfl) rfl ?_
  refine send ?_
  refine eseq ?_
  refine HT.no rfl ?_
  refine HT.seq ?_
  refine HT.plain ?_
  refine sq (St.closed _ _ _ _) (q_eqs rfl rfl (r := false) (by kernel_rfl)) rfl ?_
  refine sq (St.closed _ _ _ _) (q_assign rfl) rfl ?_
  refine send ?_
  refine eseq ?_
  refine HT.no rfl ?_
  refine HT.seq ?_
  refine HT.plain ?_
  refine sq (St.closed _ _ _ _) (q_eqs rfl rfl (r := false) (by kernel_rfl)) rfl ?_
  refine sq (St.closed _ _ _ _) (q_assign rfl) rfl ?_
  refine send ?_
  refine eseq ?_
  refine HT.no rfl ?_
  refine HT.seq ?_
  refine HT.plain ?_
  refine sq (St.closed _ _ _ _) (q_eqs rfl rfl (r := false) (by kernel_rfl)) rfl ?_
  refine sq (St.closed _ _ _ _) (q_assign rfl) rfl ?_
  refine send ?_
  refine eseq ?_
  refine HT.no rfl ?_
  refine HT.seq ?_
  refine HT.plain ?_
  refine sq (St.closed _ _ _ _) (q_eqs rfl rfl (r := false) (by kernel_rfl)) rfl ?_
  refine sq (St.closed _ _ _ _) (q_assign rfl) rfl ?_
  refine send ?_
  refine eseq ?_
  refine HT.no rfl ?_
  refine HT.seq ?_
  refine HT.plain ?_
  refine sq (St.closed _ _ _ _) (q_eqs rfl rfl (r := false) (by kernel_rfl)) rfl ?_
  refine sq (St.closed _ _ _ _) (q_assign rfl) rfl ?_
  refine send ?_
  refine eseq ?_
  refine HT.no rfl ?_
  refine HT.seq ?_
  refine HT.plain ?_
  refine sq (St.closed _ _ _ _) (q_eqs rfl rfl (r := false) (by kernel_rfl)) rfl ?_
  refine sq (St.closed _ _ _ _) (q_assign rfl) rfl ?_
  refine send ?_
  refine eseq ?_
  refine HT.no rfl ?_
  refine HT.seq ?_
  refine HT.plain ?_
  refine sq (St.closed _ _ _ _) (q_eqs rfl rfl (r := false) (by kernel_rfl)) rfl ?_
  refine sq (St.closed _ _ _ _) (q_assign rfl) rfl ?_
  refine send ?_
  refine eseq ?_
  refine HT.no rfl ?_
  refine HT.seq ?_
  refine HT.plain ?_
  refine sq (St.closed _ _ _ _) (q_eqs rfl rfl (r := true) (by kernel_rfl)) rfl ?_
  refine sq (St.closed _ _ _ _) (q_assign rfl) rfl ?_
  refine send ?_
  refine eseq ?_
  refine HT.yes rfl ?_
  refine HT.seq ?_
  refine HT.plain ?_
  refine sq (St.closed _ _ _ _) (q_move rfl) rfl ?_
  refine sq (St.closed _ _ _ _) (q_slice (lo := 0) (hi := 4) rfl Tryz.underlying22 nagg_5 (.inl ⟨rfl, rfl⟩) (.inr ⟨_, _, rfl, rfl⟩) (by omega) (by omega)) rfl ?_
  refine sq (St.closed _ _ _ _) (q_call (vs := [(.slice (cutA A c 0) (4 - 0) (c - 0))]) (v := (.int .u64 ((bN bs 0 4 : Nat) : Int))) rfl ca_34 (fun w h => NumberC w A n c bs (lo := 0) (hi := 4) (h.fact (j := 0) rfl) (k := 4) rfl (by decide) (by omega) (by omega))) rfl ?_
  refine sq (St.closed _ _ _ _) (q_assign rfl) rfl ?_
  refine send ?_
  refine eseq ?_
  refine HT.seq ?_
  refine HT.plain ?_
  refine sq (St.closed _ _ _ _) (q_move rfl) rfl ?_
  refine sq (St.closed _ _ _ _) (q_slice (lo := 4) (hi := n) rfl Tryz.underlying22 nagg_5 (.inr ⟨_, _, rfl, rfl⟩) (.inl ⟨rfl, rfl⟩) (by omega) (by omega)) rfl ?_
  refine sq (St.closed _ _ _ _) (q_move rfl) rfl ?_
  refine sq (St.closed _ _ _ _) (q_shr (p := bN bs 0 4) (e := 12) (N := 4096) rfl rfl (by decide) rfl) rfl ?_
  refine sq (St.closed _ _ _ _) (q_move rfl) rfl ?_
  refine sq (St.closed _ _ _ _) (q_shr (p := bN bs 0 4) (e := 9) (N := 512) rfl rfl (by decide) rfl) rfl ?_
  refine sq (St.closed _ _ _ _) (q_and (p := (bN bs 0 4) / 512) (q := 7) rfl rfl rfl (show (bN bs 0 4) / 512 < 18446744073709551616 by have := bN_lt bs 0 4 4294967296 rfl; omega) (by decide)) rfl ?_
  refine sq (St.closed _ _ _ _) (q_move rfl) rfl ?_
  refine sq (St.closed _ _ _ _) (q_shr (p := bN bs 0 4) (e := 8) (N := 256) rfl rfl (by decide) rfl) rfl ?_
  refine sq (St.closed _ _ _ _) (q_and (p := (bN bs 0 4) / 256) (q := 1) rfl rfl rfl (show (bN bs 0 4) / 256 < 18446744073709551616 by have := bN_lt bs 0 4 4294967296 rfl; omega) (by decide)) rfl ?_
  refine sq (St.closed _ _ _ _) (q_move rfl) rfl ?_
  refine sq (St.closed _ _ _ _) (q_and (p := bN bs 0 4) (q := 255) rfl rfl rfl (show bN bs 0 4 < 18446744073709551616 by have := bN_lt bs 0 4 4294967296 rfl; omega) (by decide)) rfl ?_
  refine sl_ (l_buildSlice (e := 39) (vs := [(0, (.int .u64 (((bN bs 0 4) / 4096 : Nat) : Int))), (1, (.int .u64 ((((bN bs 0 4) / 512) &&& 7 : Nat) : Int))), (2, (.int .u64 ((((bN bs 0 4) / 256) &&& 1 : Nat) : Int))), (3, (.int .u64 (((bN bs 0 4) &&& 255 : Nat) : Int)))]) (cs := [(.int .u64 (((bN bs 0 4) / 4096 : Nat) : Int)), (.int .u64 ((((bN bs 0 4) / 512) &&& 7 : Nat) : Int)), (.int .u64 ((((bN bs 0 4) / 256) &&& 1 : Nat) : Int)), (.int .u64 (((bN bs 0 4) &&& 255 : Nat) : Int))]) (by decide) rfl (fun _ => by kernel_rfl) fun b120 => ?_)
  refine sq (St.closed _ _ _ _) (q_call (vs := [(.slice (cutA A c 4) (n - 4) (c - 4)), (.slice (some ⟨b120, 0, none⟩) 4 4)]) (v := (.agg #[(.slice (some ⟨b120, 0, none⟩) 4 4), (.slice none 0 0), (.slice none 0 0), (.slice (cutA A c 4) (n - 4) (c - 4))])) rfl ca_33 (fun w h => layerC w (cutA A c 4) (n - 4) (c - 4) (some ⟨b120, 0, none⟩) 4 4  (St.enter (sp := []) (Kc := []) (bi := []) h rfl rfl rfl))) rfl ?_
  refine sl_ (l_storeAgg (b := b4) (off := 0) (j := 0) (vs := [(.slice (some ⟨b120, 0, none⟩) 4 4), (.slice none 0 0), (.slice none 0 0), (.slice (cutA A c 4) (n - 4) (c - 4))]) rfl rfl aggs_29 (by simp [Value.one1]) rfl rfl rfl (Nat.le_of_ble_eq_true rfl) ?_)
  refine sq (St.closed _ _ _ _) (q_assign rfl) rfl ?_
  refine sq (St.closed _ _ _ _) (q_assign rfl) rfl ?_
  refine send ?_
  refine eseq ?_
  refine HT.ret ?_
  refine rt_in ?_
  refine rt_then ?_
  exact fun a ha w' hw => fin_ ha (resc3 ha Tryz.results26 rfl (ld_ aggs_29 hw (j := 0) rfl rfl (vs := [(.slice (some ⟨b120, 0, none⟩) 4 4), (.slice none 0 0), (.slice none 0 0), (.slice (cutA A c 4) (n - 4) (c - 4))]) rfl) rfl rfl) ⟨⟨⟨some ⟨b120, 0, none⟩, 4, 4, [(bN bs 0 4) / 4096, ((bN bs 0 4) / 512) &&& 7, ((bN bs 0 4) / 256) &&& 1, (bN bs 0 4) &&& 255]⟩, none, 0, 0, [], none, 0, 0, [], ⟨cutA A c 4, n - 4, c - 4, sl bs 4 n⟩⟩, rfl, hw.pres, Own.lay (all1 (Own.cel hw (j := 1) (sz := 1) (r := []) rfl rfl rfl rfl (Nat.le_refl _)) (all1 (Own.nilCel 1) (all1 (Own.nilCel 2) (all1 (Own.cut hw (j := 0) (lo := 4) (hi := n) rfl (fun _ h => .inr h) (by omega) (by omega)) all0)))), rfl⟩
end Go.Proofs.YtfkaafbeeegenaaGreat.Zed
