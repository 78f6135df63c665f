/- ntp: the reference -/
import Derived.Test.YtfkaafbeeegenaaGreatRead
import Derived.KernelRfl
namespace Go.Proofs.YtfkaafbeeegenaaGreat.Zed
set_option linter.unusedVariables false
set_option linter.unusedSimpArgs false
set_option maxRecDepth 100000
set_option maxHeartbeats 4000000
theorem me_199_SetTruncated : ∀ (b : Nat) (w : World), (method (Tryz.prog.types.size + Made.depth) 199 (.pointer (some ⟨b, 0, none⟩)) "SetTruncated").run Tryz.prog w = .ok (167, .pointer (some ⟨b, 0, none⟩)) w := fun b w => by kernel_rfl
theorem ca_167 : callable Tryz.prog 167 = true := by kernel_rfl
theorem ca_100 : callable Tryz.prog 100 = true := by kernel_rfl
theorem ca_85 : callable Tryz.prog 85 = true := by kernel_rfl
theorem fo_164_0 : foff Tryz.prog 164 0 = some 0 := by kernel_rfl
theorem aggs_68 : aggs Tryz.prog 68 = some 2 := by kernel_rfl
theorem fo_164_1 : foff Tryz.prog 164 1 = some 2 := by kernel_rfl
theorem nagg_154 : nagg Tryz.prog 154 = true := by kernel_rfl
theorem fo_164_2 : foff Tryz.prog 164 2 = some 3 := by kernel_rfl
theorem nagg_155 : nagg Tryz.prog 155 = true := by kernel_rfl
theorem fo_164_3 : foff Tryz.prog 164 3 = some 4 := by kernel_rfl
theorem nagg_156 : nagg Tryz.prog 156 = true := by kernel_rfl
theorem fo_164_4 : foff Tryz.prog 164 4 = some 5 := by kernel_rfl
theorem nagg_157 : nagg Tryz.prog 157 = true := by kernel_rfl
theorem fo_164_5 : foff Tryz.prog 164 5 = some 6 := by kernel_rfl
theorem nagg_159 : nagg Tryz.prog 159 = true := by kernel_rfl
theorem fo_164_6 : foff Tryz.prog 164 6 = some 7 := by kernel_rfl
theorem fo_164_7 : foff Tryz.prog 164 7 = some 8 := by kernel_rfl
theorem nagg_160 : nagg Tryz.prog 160 = true := by kernel_rfl
theorem fo_164_8 : foff Tryz.prog 164 8 = some 9 := by kernel_rfl
theorem fo_164_9 : foff Tryz.prog 164 9 = some 10 := by kernel_rfl
theorem nagg_161 : nagg Tryz.prog 161 = true := by kernel_rfl
theorem ca_102 : callable Tryz.prog 102 = true := by kernel_rfl
theorem fo_164_10 : foff Tryz.prog 164 10 = some 11 := by kernel_rfl
theorem nagg_162 : nagg Tryz.prog 162 = true := by kernel_rfl
theorem fo_164_11 : foff Tryz.prog 164 11 = some 12 := by kernel_rfl
theorem fo_164_12 : foff Tryz.prog 164 12 = some 13 := by kernel_rfl
theorem fo_164_13 : foff Tryz.prog 164 13 = some 14 := by kernel_rfl
theorem fo_164_14 : foff Tryz.prog 164 14 = some 15 := by kernel_rfl
theorem zero_110 : (Tryz.prog.info? 110).bind (·.zero) = some (.pointer none) := by kernel_rfl
theorem zero_114 : (Tryz.prog.info? 114).bind (·.zero) = some (.pointer none) := by kernel_rfl
theorem zero_121 : (Tryz.prog.info? 121).bind (·.zero) = some (.pointer none) := by kernel_rfl
theorem zero_127 : (Tryz.prog.info? 127).bind (·.zero) = some (.pointer none) := by kernel_rfl
theorem zero_130 : (Tryz.prog.info? 130).bind (·.zero) = some (.pointer none) := by kernel_rfl
theorem zero_133 : (Tryz.prog.info? 133).bind (·.zero) = some (.pointer none) := by kernel_rfl
theorem zero_137 : (Tryz.prog.info? 137).bind (·.zero) = some (.pointer none) := by kernel_rfl
theorem me_153_LayerPayload : ∀ (b : Nat) (w : World), (method (Tryz.prog.types.size + Made.depth) 153 (.pointer (some ⟨b, 0, none⟩)) "LayerPayload").run Tryz.prog w = .ok (120, .pointer (some ⟨b, 0, none⟩)) w := fun b w => by kernel_rfl

theorem ntp_S0 (w : World) (A : Option Addr) (n : Nat) (c : Nat) (bs : List UInt8) (hn : n ≤ 2147483647) (ha : n < 48) (hst : St w [] [] [Byt A n c bs] w) : Calls Tryz.prog 26 #[(.string ⟨#[110, 116, 112]⟩), (.slice A n c)] w (SP w (Byt A n c bs) (some none)) := by
  have hnc00 : n ≤ c := (hst.fact (j := 0) rfl).2.1
  refine enter (vs := [(.string ⟨#[110, 116, 112]⟩), (.slice A n c)]) Tryz.func26 rfl rfl rfl hst ?_
  refine HT.seq ?_
  refine HT.plain ?_
  refine sl_ (l_alloc (by decide) zero_29 fun b4 => ?_)
  refine sq (St.closed _ _ _ _) (q_assign rfl) rfl ?_
  refine sq (St.closed _ _ _ _) (q_assign rfl) rfl ?_
  refine send ?_
  refine eseq ?_
  refine HT.seq ?_
  refine HT.plain ?_
  refine sl_ (l_makeMap (by decide) fun b13 => ?_)
  refine sl_ (l_insert (es := es0) (ck := 0) rfl rfl rfl Tryz.underlying36 Tryz.underlying9 fi0 ?_)
  refine sl_ (l_insert (es := es1) (ck := 1) rfl rfl rfl Tryz.underlying36 Tryz.underlying9 fi1 ?_)
  refine sl_ (l_insert (es := es2) (ck := 2) rfl rfl rfl Tryz.underlying36 Tryz.underlying9 fi2 ?_)
  refine sl_ (l_insert (es := es3) (ck := 3) rfl rfl rfl Tryz.underlying36 Tryz.underlying9 fi3 ?_)
  refine sl_ (l_insert (es := es4) (ck := 4) rfl rfl rfl Tryz.underlying36 Tryz.underlying9 fi4 ?_)
  refine sl_ (l_insert (es := es5) (ck := 5) rfl rfl rfl Tryz.underlying36 Tryz.underlying9 fi5 ?_)
  refine sl_ (l_insert (es := es6) (ck := 6) rfl rfl rfl Tryz.underlying36 Tryz.underlying9 fi6 ?_)
  refine sl_ (l_insert (es := es7) (ck := 7) rfl rfl rfl Tryz.underlying36 Tryz.underlying9 fi7 ?_)
  refine sl_ (l_insert (es := es8) (ck := 8) rfl rfl rfl Tryz.underlying36 Tryz.underlying9 fi8 ?_)
  refine sl_ (l_insert (es := es9) (ck := 9) rfl rfl rfl Tryz.underlying36 Tryz.underlying9 fi9 ?_)
  refine sl_ (l_insert (es := es10) (ck := 10) rfl rfl rfl Tryz.underlying36 Tryz.underlying9 fi10 ?_)
  refine sl_ (l_insert (es := es11) (ck := 11) rfl rfl rfl Tryz.underlying36 Tryz.underlying9 fi11 ?_)
  refine sl_ (l_insert (es := es12) (ck := 12) rfl rfl rfl Tryz.underlying36 Tryz.underlying9 fi12 ?_)
  refine sl_ (l_insert (es := es13) (ck := 13) rfl rfl rfl Tryz.underlying36 Tryz.underlying9 fi13 ?_)
  refine sl_ (l_insert (es := es14) (ck := 14) rfl rfl rfl Tryz.underlying36 Tryz.underlying9 fi14 ?_)
  refine sl_ (l_insert (es := es15) (ck := 15) rfl rfl rfl Tryz.underlying36 Tryz.underlying9 fi15 ?_)
  refine sl_ (l_insert (es := es16) (ck := 16) rfl rfl rfl Tryz.underlying36 Tryz.underlying9 fi16 ?_)
  refine sl_ (l_insert (es := es17) (ck := 17) rfl rfl rfl Tryz.underlying36 Tryz.underlying9 fi17 ?_)
  refine sl_ (l_insert (es := es18) (ck := 18) rfl rfl rfl Tryz.underlying36 Tryz.underlying9 fi18 ?_)
  refine sl_ (l_insert (es := es19) (ck := 19) rfl rfl rfl Tryz.underlying36 Tryz.underlying9 fi19 ?_)
  refine sl_ (l_insert (es := es20) (ck := 20) rfl rfl rfl Tryz.underlying36 Tryz.underlying9 fi20 ?_)
  refine sq (SM.closed) (q_move rfl) rfl ?_
  refine sq (SM.closed) (q_move rfl) rfl ?_
  refine sq (SM.closed) (q_lookup (es := es21) (i := 16) (v := (.int .i64 ((48 : Nat) : Int))) (fun _ h => h) rfl rfl Tryz.underlying36 Tryz.underlying9 (by kernel_rfl)) rfl ?_
  refine sq (SM.closed) (q_assign rfl) rfl ?_
  refine send ?_
  refine eseq ?_
  refine HT.unmap ?_
  refine HT.seq ?_
  refine HT.seq ?_
  refine HT.plain ?_
  refine sq (St.closed _ _ _ _) (q_move rfl) rfl ?_
  refine sq (St.closed _ _ _ _) (q_len (len := n) rfl Tryz.underlying22) rfl ?_
  refine sq (St.closed _ _ _ _) (q_move rfl) rfl ?_
  refine sq (St.closed _ _ _ _) (q_T (q_lt (p := n) (q := 48) rfl rfl) (by omega)) rfl ?_
  refine send ?_
  refine eseq ?_
  refine HT.yes rfl ?_
  refine HT.seq ?_
  refine HT.plain ?_
  refine sq (St.closed _ _ _ _) (q_build (vs := []) (v := (.agg #[(.slice none 0 0), (.slice none 0 0), (.slice none 0 0), (.slice none 0 0)])) rfl (fun _ => by kernel_rfl)) rfl ?_
  refine sl_ (l_storeAgg (b := b4) (off := 0) (j := 0) (vs := [(.slice none 0 0), (.slice none 0 0), (.slice none 0 0), (.slice none 0 0)]) rfl rfl aggs_29 (by simp [Value.one1]) rfl rfl rfl (Nat.le_of_ble_eq_true rfl) ?_)
  refine sq (St.closed _ _ _ _) (q_assign rfl) rfl ?_
  refine sq (St.closed _ _ _ _) (q_assign rfl) rfl ?_
  refine send ?_
  refine eseq ?_
  refine HT.ret ?_
  refine rt_then ?_
  exact fun a ha w' hw => fin_ ha (resc3 ha Tryz.results26 rfl (ld_ aggs_29 hw (j := 0) rfl rfl (vs := [(.slice none 0 0), (.slice none 0 0), (.slice none 0 0), (.slice none 0 0)]) rfl) rfl rfl) ⟨rfl, hw.pres⟩

theorem ntp_S1 (w : World) (A : Option Addr) (n : Nat) (c : Nat) (bs : List UInt8) (hn : n ≤ 2147483647) (ha : 48 ≤ n) (hst : St w [] [] [Byt A n c bs] w) : Calls Tryz.prog 26 #[(.string ⟨#[110, 116, 112]⟩), (.slice A n c)] w (SP w (Byt A n c bs) (some (some ⟨[(nb bs 0) / 64, ((nb bs 0) / 8) &&& 7, (nb bs 0) &&& 7, nb bs 1, nb bs 2, nb bs 3, bN bs 4 4, bN bs 8 4, bN bs 12 4, bN bs 16 8, bN bs 24 8, bN bs 32 8, bN bs 40 8], [sl bs 48 n], [], []⟩))) := by
  have hnc00 : n ≤ c := (hst.fact (j := 0) rfl).2.1
  refine enter (vs := [(.string ⟨#[110, 116, 112]⟩), (.slice A n c)]) Tryz.func26 rfl rfl rfl hst ?_
  refine HT.seq ?_
  refine HT.plain ?_
  refine sl_ (l_alloc (by decide) zero_29 fun b4 => ?_)
  refine sq (St.closed _ _ _ _) (q_assign rfl) rfl ?_
  refine sq (St.closed _ _ _ _) (q_assign rfl) rfl ?_
  refine send ?_
  refine eseq ?_
  refine HT.seq ?_
  refine HT.plain ?_
  refine sl_ (l_makeMap (by decide) fun b13 => ?_)
  refine sl_ (l_insert (es := es0) (ck := 0) rfl rfl rfl Tryz.underlying36 Tryz.underlying9 fi0 ?_)
  refine sl_ (l_insert (es := es1) (ck := 1) rfl rfl rfl Tryz.underlying36 Tryz.underlying9 fi1 ?_)
  refine sl_ (l_insert (es := es2) (ck := 2) rfl rfl rfl Tryz.underlying36 Tryz.underlying9 fi2 ?_)
  refine sl_ (l_insert (es := es3) (ck := 3) rfl rfl rfl Tryz.underlying36 Tryz.underlying9 fi3 ?_)
  refine sl_ (l_insert (es := es4) (ck := 4) rfl rfl rfl Tryz.underlying36 Tryz.underlying9 fi4 ?_)
  refine sl_ (l_insert (es := es5) (ck := 5) rfl rfl rfl Tryz.underlying36 Tryz.underlying9 fi5 ?_)
  refine sl_ (l_insert (es := es6) (ck := 6) rfl rfl rfl Tryz.underlying36 Tryz.underlying9 fi6 ?_)
  refine sl_ (l_insert (es := es7) (ck := 7) rfl rfl rfl Tryz.underlying36 Tryz.underlying9 fi7 ?_)
  refine sl_ (l_insert (es := es8) (ck := 8) rfl rfl rfl Tryz.underlying36 Tryz.underlying9 fi8 ?_)
  refine sl_ (l_insert (es := es9) (ck := 9) rfl rfl rfl Tryz.underlying36 Tryz.underlying9 fi9 ?_)
  refine sl_ (l_insert (es := es10) (ck := 10) rfl rfl rfl Tryz.underlying36 Tryz.underlying9 fi10 ?_)
  refine sl_ (l_insert (es := es11) (ck := 11) rfl rfl rfl Tryz.underlying36 Tryz.underlying9 fi11 ?_)
  refine sl_ (l_insert (es := es12) (ck := 12) rfl rfl rfl Tryz.underlying36 Tryz.underlying9 fi12 ?_)
  refine sl_ (l_insert (es := es13) (ck := 13) rfl rfl rfl Tryz.underlying36 Tryz.underlying9 fi13 ?_)
  refine sl_ (l_insert (es := es14) (ck := 14) rfl rfl rfl Tryz.underlying36 Tryz.underlying9 fi14 ?_)
  refine sl_ (l_insert (es := es15) (ck := 15) rfl rfl rfl Tryz.underlying36 Tryz.underlying9 fi15 ?_)
  refine sl_ (l_insert (es := es16) (ck := 16) rfl rfl rfl Tryz.underlying36 Tryz.underlying9 fi16 ?_)
  refine sl_ (l_insert (es := es17) (ck := 17) rfl rfl rfl Tryz.underlying36 Tryz.underlying9 fi17 ?_)
  refine sl_ (l_insert (es := es18) (ck := 18) rfl rfl rfl Tryz.underlying36 Tryz.underlying9 fi18 ?_)
  refine sl_ (l_insert (es := es19) (ck := 19) rfl rfl rfl Tryz.underlying36 Tryz.underlying9 fi19 ?_)
  refine sl_ (l_insert (es := es20) (ck := 20) rfl rfl rfl Tryz.underlying36 Tryz.underlying9 fi20 ?_)
  refine sq (SM.closed) (q_move rfl) rfl ?_
  refine sq (SM.closed) (q_move rfl) rfl ?_
  refine sq (SM.closed) (q_lookup (es := es21) (i := 16) (v := (.int .i64 ((48 : Nat) : Int))) (fun _ h => h) rfl rfl Tryz.underlying36 Tryz.underlying9 (by kernel_rfl)) rfl ?_
  refine sq (SM.closed) (q_assign rfl) rfl ?_
  refine send ?_
  refine eseq ?_
  refine HT.unmap ?_
  refine HT.seq ?_
  refine HT.seq ?_
  refine HT.plain ?_
  refine sq (St.closed _ _ _ _) (q_move rfl) rfl ?_
  refine sq (St.closed _ _ _ _) (q_len (len := n) rfl Tryz.underlying22) rfl ?_
  refine sq (St.closed _ _ _ _) (q_move rfl) rfl ?_
  refine sq (St.closed _ _ _ _) (q_F (q_lt (p := n) (q := 48) rfl rfl) (by omega)) rfl ?_
  refine send ?_
  refine eseq ?_
  refine HT.no rfl ?_
  refine HT.skip ?_
  refine eseq ?_
  refine HT.seq ?_
  refine HT.seq ?_
  refine HT.plain ?_
  refine sq (St.closed _ _ _ _) (q_move rfl) rfl ?_
  refine send ?_
  refine eseq ?_
  refine HT.block ?_
  refine HT.seq ?_
  refine HT.plain ?_
  refine sq (St.closed _ _ _ _) (q_eqs rfl rfl (r := false) (by kernel_rfl)) rfl ?_
  refine sq (St.closed _ _ _ _) (q_assign rfl) rfl ?_
  refine send ?_
  refine eseq ?_
  refine HT.no rfl ?_
  refine HT.seq ?_
  refine HT.plain ?_
  refine sq (St.closed _ _ _ _) (q_eqs rfl rfl (r := false) (by kernel_rfl)) rfl ?_
  refine sq (St.closed _ _ _ _) (q_assign rfl) rfl ?_
  refine send ?_
  refine eseq ?_
  refine HT.no rfl ?_
  refine HT.seq ?_
  refine HT.plain ?_
  refine sq (St.closed _ _ _ _) (q_eqs rfl rfl (r := false) (by kernel_rfl)) rfl ?_
  refine sq (St.closed _ _ _ _) (q_assign rfl) rfl ?_
  refine send ?_
  refine eseq ?_
  refine HT.no rfl ?_
  refine HT.seq ?_
  refine HT.plain ?_
  refine sq (St.closed _ _ _ _) (q_eqs rfl rfl (r := false) (by kernel_rfl)) rfl ?_
  refine sq (St.closed _ _ _ _) (q_assign rfl) rfl ?_
  refine send ?_
  refine eseq ?_
  refine HT.no rfl ?_
  refine HT.seq ?_
  refine HT.plain ?_
  refine sq (St.closed _ _ _ _) (q_eqs rfl rfl (r := false) (by kernel_rfl)) rfl ?_
  refine sq (St.closed _ _ _ _) (q_assign rfl) rfl ?_
  refine send ?_
  refine eseq ?_
  refine HT.no rfl ?_
  refine HT.seq ?_
  refine HT.plain ?_
  refine sq (St.closed _ _ _ _) (q_eqs rfl rfl (r := false) (by kernel_rfl)) rfl ?_
  refine sq (St.closed _ _ _ _) (q_assign rfl) rfl ?_
  refine send ?_
  refine eseq ?_
  refine HT.no rfl ?_
  refine HT.seq ?_
  refine HT.plain ?_
  refine sq (St.closed _ _ _ _) (q_eqs rfl rfl (r := false) (by kernel_rfl)) rfl ?_
  refine sq (St.closed _ _ _ _) (q_assign rfl) rfl ?_
  refine send ?_
  refine eseq ?_
  refine HT.no rfl ?_
  refine HT.seq ?_
  refine HT.plain ?_
  refine sq (St.closed _ _ _ _) (q_eqs rfl rfl (r := false) (by kernel_rfl)) rfl ?_
  refine sq (St.closed _ _ _ _) (q_assign rfl) rfl ?_
  refine send ?_
  refine eseq ?_
  refine HT.no rfl ?_
  refine HT.seq ?_
  refine HT.plain ?_
  refine sq (St.closed _ _ _ _) (q_eqs rfl rfl (r := false) (by kernel_rfl)) rfl ?_
  refine sq (St.closed _ _ _ _) (q_assign rfl) rfl ?_
  refine send ?_
  refine eseq ?_
  refine HT.no rfl ?_
  refine HT.seq ?_
  refine HT.plain ?_
  refine sq (St.closed _ _ _ _) (q_eqs rfl rfl (r := false) (by kernel_rfl)) rfl ?_
  refine sq (St.closed _ _ _ _) (q_assign rfl) rfl ?_
  refine send ?_
  refine eseq ?_
  refine HT.no rfl ?_
  refine HT.seq ?_
  refine HT.plain ?_
  refine sq (St.closed _ _ _ _) (q_eqs rfl rfl (r := false) (by kernel_rfl)) rfl ?_
  refine sq (St.closed _ _ _ _) (q_assign rfl) rfl ?_
  refine send ?_
  refine eseq ?_
  refine HT.no rfl ?_
  refine HT.seq ?_
  refine HT.plain ?_
  refine sq (St.closed _ _ _ _) (q_eqs rfl rfl (r := false) (by kernel_rfl)) rfl ?_
  refine sq (St.closed _ _ _ _) (q_assign rfl) rfl ?_
  refine send ?_
  refine eseq ?_
  refine HT.no rfl ?_
  refine HT.seq ?_
  refine HT.plain ?_
  refine sq (St.closed _ _ _ _) (q_eqs rfl rfl (r := false) (by kernel_rfl)) rfl ?_
  refine sq (St.closed _ _ _ _) (q_assign rfl) rfl ?_
  refine send ?_
  refine eseq ?_
  refine HT.no rfl ?_
  refine HT.seq ?_
  refine HT.plain ?_
  refine sq (St.closed _ _ _ _) (q_eqs rfl rfl (r := false) (by kernel_rfl)) rfl ?_
  refine sq (St.closed _ _ _ _) (q_assign rfl) rfl ?_
  refine send ?_
  refine eseq ?_
  refine HT.no rfl ?_
  refine HT.seq ?_
  refine HT.plain ?_
  refine sq (St.closed _ _ _ _) (q_eqs rfl rfl (r := false) (by kernel_rfl)) rfl ?_
  refine sq (St.closed _ _ _ _) (q_assign rfl) rfl ?_
  refine send ?_
  refine eseq ?_
  refine HT.no rfl ?_
  refine HT.seq ?_
  refine HT.plain ?_
  refine sq (St.closed _ _ _ _) (q_eqs rfl rfl (r := false) (by kernel_rfl)) rfl ?_
  refine sq (St.closed _ _ _ _) (q_assign rfl) rfl ?_
  refine send ?_
  refine eseq ?_
  refine HT.no rfl ?_
  refine HT.seq ?_
  refine HT.plain ?_
  refine sq (St.closed _ _ _ _) (q_eqs rfl rfl (r := true) (by kernel_rfl)) rfl ?_
  refine sq (St.closed _ _ _ _) (q_assign rfl) rfl ?_
  refine send ?_
  refine eseq ?_
  refine HT.yes rfl ?_
  refine HT.seq ?_
  refine HT.drawnS mixed (St.closed _ _ _ _) ?_
  refine dtake (f := 4) [0, 1, 2, 3, 4, 5, 6, 7, 8, 9, 10, 11, 12, 13, 14, 15, 16, 17, 18, 19, 20, 21, 22, 23, 24, 25, 26, 27, 28, 29, 30, 31, 32, 33, 34, 35, 36, 37, 38, 39, 40, 41, 42, 43, 44, 45, 46, 47, 48] (by kernel_rfl) (St.closed _ _ _ _) (fun _ h => h) (by kernel_rfl) ?_
  refine dq rfl (q_move rfl) ?_
  refine dq rfl (q_index (i := 0) (j := 0) rfl rfl Tryz.underlying22 nagg_5 (fun _ h => h) rfl (by omega)) ?_
  refine dq rfl (q_byte (i := 0) (j := 0) rfl nagg_5 (fun _ h => h) rfl (by omega)) ?_
  refine dq rfl (q_shr (p := nb bs 0) (e := 6) (N := 64) rfl rfl (by decide) rfl) ?_
  refine dq rfl (q_convn (p := (nb bs 0) / 64) rfl Tryz.underlying5 Tryz.underlying39 (show (nb bs 0) / 64 < 18446744073709551616 by have := nb_lt bs 0; omega)) ?_
  refine dq rfl (q_move rfl) ?_
  refine dq rfl (q_index (i := 0) (j := 0) rfl rfl Tryz.underlying22 nagg_5 (fun _ h => h) rfl (by omega)) ?_
  refine dq rfl (q_byte (i := 0) (j := 0) rfl nagg_5 (fun _ h => h) rfl (by omega)) ?_
  refine dq rfl (q_shr (p := nb bs 0) (e := 3) (N := 8) rfl rfl (by decide) rfl) ?_
  refine dq rfl (q_and (p := (nb bs 0) / 8) (q := 7) rfl rfl rfl (show (nb bs 0) / 8 < 256 by have := nb_lt bs 0; omega) (by decide)) ?_
  refine dq rfl (q_convn (p := ((nb bs 0) / 8) &&& 7) rfl Tryz.underlying5 Tryz.underlying39 (show ((nb bs 0) / 8) &&& 7 < 18446744073709551616 by have := nb_lt bs 0; have := zm7 ((nb bs 0) / 8); have := Nat.and_le_left (n := (nb bs 0) / 8) (m := 7); have := Nat.and_le_right (n := (nb bs 0) / 8) (m := 7); omega)) ?_
  refine dq rfl (q_move rfl) ?_
  refine dq rfl (q_index (i := 0) (j := 0) rfl rfl Tryz.underlying22 nagg_5 (fun _ h => h) rfl (by omega)) ?_
  refine dq rfl (q_byte (i := 0) (j := 0) rfl nagg_5 (fun _ h => h) rfl (by omega)) ?_
  refine dq rfl (q_and (p := nb bs 0) (q := 7) rfl rfl rfl (show nb bs 0 < 256 by have := nb_lt bs 0; omega) (by decide)) ?_
  refine dq rfl (q_convn (p := (nb bs 0) &&& 7) rfl Tryz.underlying5 Tryz.underlying39 (show (nb bs 0) &&& 7 < 18446744073709551616 by have := nb_lt bs 0; have := zm7 (nb bs 0); have := Nat.and_le_left (n := nb bs 0) (m := 7); have := Nat.and_le_right (n := nb bs 0) (m := 7); omega)) ?_
  refine dq rfl (q_move rfl) ?_
  refine dq rfl (q_index (i := 1) (j := 0) rfl rfl Tryz.underlying22 nagg_5 (fun _ h => h) rfl (by omega)) ?_
  refine dq rfl (q_byte (i := 1) (j := 0) rfl nagg_5 (fun _ h => h) rfl (by omega)) ?_
  refine dq rfl (q_convn (p := nb bs 1) rfl Tryz.underlying5 Tryz.underlying39 (show nb bs 1 < 18446744073709551616 by have := nb_lt bs 1; omega)) ?_
  refine dq rfl (q_move rfl) ?_
  refine dq rfl (q_index (i := 2) (j := 0) rfl rfl Tryz.underlying22 nagg_5 (fun _ h => h) rfl (by omega)) ?_
  refine dq rfl (q_byte (i := 2) (j := 0) rfl nagg_5 (fun _ h => h) rfl (by omega)) ?_
  refine dq rfl (q_convn (p := nb bs 2) rfl Tryz.underlying5 Tryz.underlying39 (show nb bs 2 < 18446744073709551616 by have := nb_lt bs 2; omega)) ?_
  refine dq rfl (q_move rfl) ?_
  refine dq rfl (q_index (i := 3) (j := 0) rfl rfl Tryz.underlying22 nagg_5 (fun _ h => h) rfl (by omega)) ?_
  refine dq rfl (q_byte (i := 3) (j := 0) rfl nagg_5 (fun _ h => h) rfl (by omega)) ?_
  refine dq rfl (q_convn (p := nb bs 3) rfl Tryz.underlying5 Tryz.underlying39 (show nb bs 3 < 18446744073709551616 by have := nb_lt bs 3; omega)) ?_
  refine dq rfl (q_move rfl) ?_
  refine dq rfl (q_slice (lo := 4) (hi := 8) rfl Tryz.underlying22 nagg_5 (.inr ⟨_, _, rfl, rfl⟩) (.inr ⟨_, _, rfl, rfl⟩) (by omega) (by omega)) ?_
  refine dq rfl (q_call (vs := [(.slice (cutA A c 4) (8 - 4) (c - 4))]) (v := (.int .u64 ((bN bs 4 4 : Nat) : Int))) rfl ca_34 (fun w h => NumberC w A n c bs (lo := 4) (hi := 8) (h.fact (j := 0) rfl) (k := 4) rfl (by decide) (by omega) (by omega))) ?_
  refine dq rfl (q_move rfl) ?_
  refine dq rfl (q_slice (lo := 8) (hi := 12) rfl Tryz.underlying22 nagg_5 (.inr ⟨_, _, rfl, rfl⟩) (.inr ⟨_, _, rfl, rfl⟩) (by omega) (by omega)) ?_
  refine dq rfl (q_call (vs := [(.slice (cutA A c 8) (12 - 8) (c - 8))]) (v := (.int .u64 ((bN bs 8 4 : Nat) : Int))) rfl ca_34 (fun w h => NumberC w A n c bs (lo := 8) (hi := 12) (h.fact (j := 0) rfl) (k := 4) rfl (by decide) (by omega) (by omega))) ?_
  refine dq rfl (q_move rfl) ?_
  refine dq rfl (q_slice (lo := 12) (hi := 16) rfl Tryz.underlying22 nagg_5 (.inr ⟨_, _, rfl, rfl⟩) (.inr ⟨_, _, rfl, rfl⟩) (by omega) (by omega)) ?_
  refine dq rfl (q_call (vs := [(.slice (cutA A c 12) (16 - 12) (c - 12))]) (v := (.int .u64 ((bN bs 12 4 : Nat) : Int))) rfl ca_34 (fun w h => NumberC w A n c bs (lo := 12) (hi := 16) (h.fact (j := 0) rfl) (k := 4) rfl (by decide) (by omega) (by omega))) ?_
  refine dq rfl (q_move rfl) ?_
  refine dq rfl (q_slice (lo := 16) (hi := 24) rfl Tryz.underlying22 nagg_5 (.inr ⟨_, _, rfl, rfl⟩) (.inr ⟨_, _, rfl, rfl⟩) (by omega) (by omega)) ?_
  refine dq rfl (q_call (vs := [(.slice (cutA A c 16) (24 - 16) (c - 16))]) (v := (.int .u64 ((bN bs 16 8 : Nat) : Int))) rfl ca_34 (fun w h => NumberC w A n c bs (lo := 16) (hi := 24) (h.fact (j := 0) rfl) (k := 8) rfl (by decide) (by omega) (by omega))) ?_
  refine dq rfl (q_move rfl) ?_
  refine dq rfl (q_slice (lo := 24) (hi := 32) rfl Tryz.underlying22 nagg_5 (.inr ⟨_, _, rfl, rfl⟩) (.inr ⟨_, _, rfl, rfl⟩) (by omega) (by omega)) ?_
  refine dq rfl (q_call (vs := [(.slice (cutA A c 24) (32 - 24) (c - 24))]) (v := (.int .u64 ((bN bs 24 8 : Nat) : Int))) rfl ca_34 (fun w h => NumberC w A n c bs (lo := 24) (hi := 32) (h.fact (j := 0) rfl) (k := 8) rfl (by decide) (by omega) (by omega))) ?_
  refine dq rfl (q_move rfl) ?_
  refine dq rfl (q_slice (lo := 32) (hi := 40) rfl Tryz.underlying22 nagg_5 (.inr ⟨_, _, rfl, rfl⟩) (.inr ⟨_, _, rfl, rfl⟩) (by omega) (by omega)) ?_
  refine dq rfl (q_call (vs := [(.slice (cutA A c 32) (40 - 32) (c - 32))]) (v := (.int .u64 ((bN bs 32 8 : Nat) : Int))) rfl ca_34 (fun w h => NumberC w A n c bs (lo := 32) (hi := 40) (h.fact (j := 0) rfl) (k := 8) rfl (by decide) (by omega) (by omega))) ?_
  refine dq rfl (q_move rfl) ?_
  refine dq rfl (q_slice (lo := 40) (hi := 48) rfl Tryz.underlying22 nagg_5 (.inr ⟨_, _, rfl, rfl⟩) (.inr ⟨_, _, rfl, rfl⟩) (by omega) (by omega)) ?_
  refine dq rfl (q_call (vs := [(.slice (cutA A c 40) (48 - 40) (c - 40))]) (v := (.int .u64 ((bN bs 40 8 : Nat) : Int))) rfl ca_34 (fun w h => NumberC w A n c bs (lo := 40) (hi := 48) (h.fact (j := 0) rfl) (k := 8) rfl (by decide) (by omega) (by omega))) ?_
  refine QL.nil ?_
  refine RG.step2 49 51 (by kernel_rfl) ?_ ?_
  · refine dop rfl (l_buildSlice (e := 39) (vs := [(0, (.int .u64 (((nb bs 0) / 64 : Nat) : Int))), (1, (.int .u64 ((((nb bs 0) / 8) &&& 7 : Nat) : Int))), (2, (.int .u64 (((nb bs 0) &&& 7 : Nat) : Int))), (3, (.int .u64 ((nb bs 1 : Nat) : Int))), (4, (.int .u64 ((nb bs 2 : Nat) : Int))), (5, (.int .u64 ((nb bs 3 : Nat) : Int))), (6, (.int .u64 ((bN bs 4 4 : Nat) : Int))), (7, (.int .u64 ((bN bs 8 4 : Nat) : Int))), (8, (.int .u64 ((bN bs 12 4 : Nat) : Int))), (9, (.int .u64 ((bN bs 16 8 : Nat) : Int))), (10, (.int .u64 ((bN bs 24 8 : Nat) : Int))), (11, (.int .u64 ((bN bs 32 8 : Nat) : Int))), (12, (.int .u64 ((bN bs 40 8 : Nat) : Int)))]) (cs := [(.int .u64 (((nb bs 0) / 64 : Nat) : Int)), (.int .u64 ((((nb bs 0) / 8) &&& 7 : Nat) : Int)), (.int .u64 (((nb bs 0) &&& 7 : Nat) : Int)), (.int .u64 ((nb bs 1 : Nat) : Int)), (.int .u64 ((nb bs 2 : Nat) : Int)), (.int .u64 ((nb bs 3 : Nat) : Int)), (.int .u64 ((bN bs 4 4 : Nat) : Int)), (.int .u64 ((bN bs 8 4 : Nat) : Int)), (.int .u64 ((bN bs 12 4 : Nat) : Int)), (.int .u64 ((bN bs 16 8 : Nat) : Int)), (.int .u64 ((bN bs 24 8 : Nat) : Int)), (.int .u64 ((bN bs 32 8 : Nat) : Int)), (.int .u64 ((bN bs 40 8 : Nat) : Int))]) (by decide) rfl (fun _ => by kernel_rfl) fun b258 => ⟨(fun _ h => (h.wk [(0, [])] rfl)), ?_⟩)
    refine dtake (f := 2) [50] (by kernel_rfl) (St.closed _ _ _ _) (fun _ h => (h.wk [(0, [])] rfl)) (by kernel_rfl) ?_
    refine dq rfl (q_call (vs := [(.slice none 0 0), (.slice (some ⟨b258, 0, none⟩) 13 13)]) (v := (.agg #[(.slice (some ⟨b258, 0, none⟩) 13 13), (.slice none 0 0), (.slice none 0 0), (.slice none 0 0)])) rfl ca_33 (fun w h => layerC w none 0 0 (some ⟨b258, 0, none⟩) 13 13  (St.enter (sp := []) (Kc := []) (bi := []) h rfl rfl rfl))) ?_
    refine QL.nil ?_
    refine RG.step1 51 (by kernel_rfl) ?_
    refine dop rfl (l_alloc (by decide) zero_29 fun b11 => ⟨(fun _ h => (h.wk [(0, [])] rfl)), ?_⟩)
    refine RG.step1 52 (by kernel_rfl) ?_
    refine dop rfl (l_storeAgg (b := b11) (off := 0) (j := 2) (vs := [(.slice (some ⟨b258, 0, none⟩) 13 13), (.slice none 0 0), (.slice none 0 0), (.slice none 0 0)]) rfl rfl aggs_29 (by simp [Value.one1]) rfl rfl rfl (Nat.le_of_ble_eq_true rfl) ⟨(fun _ h => (h.wk [(0, [])] rfl)), ?_⟩)
    refine dend (by kernel_rfl) ?_
    refine eseq ?_
    refine HT.seq ?_
    refine HT.plain ?_
    refine sq (St.closed _ _ _ _) (q_move rfl) rfl ?_
    refine sq (St.closed _ _ _ _) (q_slice (lo := 48) (hi := n) rfl Tryz.underlying22 nagg_5 (.inr ⟨_, _, rfl, rfl⟩) (.inl ⟨rfl, rfl⟩) (by omega) (by omega)) rfl ?_
    refine sl_ (l_buildSlice (e := 22) (vs := [(0, (.slice (cutA A c 48) (n - 48) (c - 48)))]) (cs := [(.slice (cutA A c 48) (n - 48) (c - 48))]) (by decide) rfl (fun _ => by kernel_rfl) fun b262 => ?_)
    refine sq (St.closed _ _ _ _) (q_field (b := b11) (off := 0) rfl fo_29_1) rfl ?_
    refine sl_ (l_store (b := b11) (off := 1) (j := 2) rfl rfl nagg_26 rfl rfl rfl rfl (dlt rfl) ?_)
    refine send ?_
    refine eseq ?_
    refine HT.seq ?_
    refine HT.plain ?_
    refine sq (St.closed _ _ _ _) (q_loadAgg (b := b11) (off := 0) (j := 2) (vs := [(.slice (some ⟨b258, 0, none⟩) 13 13), (.slice (some ⟨b262, 0, none⟩) 1 1), (.slice none 0 0), (.slice none 0 0)]) rfl aggs_29 (fun _ h => h) rfl rfl rfl) rfl ?_
    refine sl_ (l_storeAgg (b := b4) (off := 0) (j := 0) (vs := [(.slice (some ⟨b258, 0, none⟩) 13 13), (.slice (some ⟨b262, 0, none⟩) 1 1), (.slice none 0 0), (.slice none 0 0)]) rfl rfl aggs_29 (by simp [Value.one1]) rfl rfl rfl (Nat.le_of_ble_eq_true rfl) ?_)
    refine sq (St.closed _ _ _ _) (q_assign rfl) rfl ?_
    refine sq (St.closed _ _ _ _) (q_assign rfl) rfl ?_
    refine send ?_
    refine eseq ?_
    refine HT.ret ?_
    refine rt_in ?_
    refine rt_then ?_
    exact fun a ha w' hw => fin_ ha (resc3 ha Tryz.results26 rfl (ld_ aggs_29 hw (j := 0) rfl rfl (vs := [(.slice (some ⟨b258, 0, none⟩) 13 13), (.slice (some ⟨b262, 0, none⟩) 1 1), (.slice none 0 0), (.slice none 0 0)]) rfl) rfl rfl) ⟨⟨⟨some ⟨b258, 0, none⟩, 13, 13, [(nb bs 0) / 64, ((nb bs 0) / 8) &&& 7, (nb bs 0) &&& 7, nb bs 1, nb bs 2, nb bs 3, bN bs 4 4, bN bs 8 4, bN bs 12 4, bN bs 16 8, bN bs 24 8, bN bs 32 8, bN bs 40 8]⟩, some ⟨b262, 0, none⟩, 1, 1, [⟨cutA A c 48, n - 48, c - 48, sl bs 48 n⟩], none, 0, 0, [], ⟨none, 0, 0, []⟩⟩, rfl, hw.pres, Own.lay (all1 (Own.cel hw (j := 1) (sz := 1) (r := []) rfl rfl rfl rfl (Nat.le_refl _)) (all1 (Own.cel hw (j := 3) (sz := 1) (r := []) rfl rfl rfl rfl (Nat.le_refl _)) (all1 (Own.nilCel 2) (all1 Own.nilByt (all1 (Own.cut hw (j := 0) (lo := 48) (hi := n) rfl (fun _ h => .inr h) (by omega) (by omega)) all0))))), rfl⟩
  · refine dop rfl (l_alloc (by decide) zero_29 fun b11 => ⟨(fun _ h => (h.wk [(0, [])] rfl)), ?_⟩)
    refine RG.step1 49 (by kernel_rfl) ?_
    refine dop rfl (l_buildSlice (e := 39) (vs := [(0, (.int .u64 (((nb bs 0) / 64 : Nat) : Int))), (1, (.int .u64 ((((nb bs 0) / 8) &&& 7 : Nat) : Int))), (2, (.int .u64 (((nb bs 0) &&& 7 : Nat) : Int))), (3, (.int .u64 ((nb bs 1 : Nat) : Int))), (4, (.int .u64 ((nb bs 2 : Nat) : Int))), (5, (.int .u64 ((nb bs 3 : Nat) : Int))), (6, (.int .u64 ((bN bs 4 4 : Nat) : Int))), (7, (.int .u64 ((bN bs 8 4 : Nat) : Int))), (8, (.int .u64 ((bN bs 12 4 : Nat) : Int))), (9, (.int .u64 ((bN bs 16 8 : Nat) : Int))), (10, (.int .u64 ((bN bs 24 8 : Nat) : Int))), (11, (.int .u64 ((bN bs 32 8 : Nat) : Int))), (12, (.int .u64 ((bN bs 40 8 : Nat) : Int)))]) (cs := [(.int .u64 (((nb bs 0) / 64 : Nat) : Int)), (.int .u64 ((((nb bs 0) / 8) &&& 7 : Nat) : Int)), (.int .u64 (((nb bs 0) &&& 7 : Nat) : Int)), (.int .u64 ((nb bs 1 : Nat) : Int)), (.int .u64 ((nb bs 2 : Nat) : Int)), (.int .u64 ((nb bs 3 : Nat) : Int)), (.int .u64 ((bN bs 4 4 : Nat) : Int)), (.int .u64 ((bN bs 8 4 : Nat) : Int)), (.int .u64 ((bN bs 12 4 : Nat) : Int)), (.int .u64 ((bN bs 16 8 : Nat) : Int)), (.int .u64 ((bN bs 24 8 : Nat) : Int)), (.int .u64 ((bN bs 32 8 : Nat) : Int)), (.int .u64 ((bN bs 40 8 : Nat) : Int))]) (by decide) rfl (fun _ => by kernel_rfl) fun b258 => ⟨(fun _ h => (h.wk [(0, [])] rfl)), ?_⟩)
    refine dtake (f := 1) [50] (by kernel_rfl) (St.closed _ _ _ _) (fun _ h => (h.wk [(0, [])] rfl)) (by kernel_rfl) ?_
    refine dq rfl (q_call (vs := [(.slice none 0 0), (.slice (some ⟨b258, 0, none⟩) 13 13)]) (v := (.agg #[(.slice (some ⟨b258, 0, none⟩) 13 13), (.slice none 0 0), (.slice none 0 0), (.slice none 0 0)])) rfl ca_33 (fun w h => layerC w none 0 0 (some ⟨b258, 0, none⟩) 13 13  (St.enter (sp := []) (Kc := []) (bi := []) h rfl rfl rfl))) ?_
    refine QL.nil ?_
    refine RG.step1 52 (by kernel_rfl) ?_
    refine dop rfl (l_storeAgg (b := b11) (off := 0) (j := 1) (vs := [(.slice (some ⟨b258, 0, none⟩) 13 13), (.slice none 0 0), (.slice none 0 0), (.slice none 0 0)]) rfl rfl aggs_29 (by simp [Value.one1]) rfl rfl rfl (Nat.le_of_ble_eq_true rfl) ⟨(fun _ h => (h.wk [(0, [])] rfl)), ?_⟩)
    refine dend (by kernel_rfl) ?_
    refine eseq ?_
    refine HT.seq ?_
    refine HT.plain ?_
    refine sq (St.closed _ _ _ _) (q_move rfl) rfl ?_
    refine sq (St.closed _ _ _ _) (q_slice (lo := 48) (hi := n) rfl Tryz.underlying22 nagg_5 (.inr ⟨_, _, rfl, rfl⟩) (.inl ⟨rfl, rfl⟩) (by omega) (by omega)) rfl ?_
    refine sl_ (l_buildSlice (e := 22) (vs := [(0, (.slice (cutA A c 48) (n - 48) (c - 48)))]) (cs := [(.slice (cutA A c 48) (n - 48) (c - 48))]) (by decide) rfl (fun _ => by kernel_rfl) fun b262 => ?_)
    refine sq (St.closed _ _ _ _) (q_field (b := b11) (off := 0) rfl fo_29_1) rfl ?_
    refine sl_ (l_store (b := b11) (off := 1) (j := 1) rfl rfl nagg_26 rfl rfl rfl rfl (dlt rfl) ?_)
    refine send ?_
    refine eseq ?_
    refine HT.seq ?_
    refine HT.plain ?_
    refine sq (St.closed _ _ _ _) (q_loadAgg (b := b11) (off := 0) (j := 1) (vs := [(.slice (some ⟨b258, 0, none⟩) 13 13), (.slice (some ⟨b262, 0, none⟩) 1 1), (.slice none 0 0), (.slice none 0 0)]) rfl aggs_29 (fun _ h => h) rfl rfl rfl) rfl ?_
    refine sl_ (l_storeAgg (b := b4) (off := 0) (j := 0) (vs := [(.slice (some ⟨b258, 0, none⟩) 13 13), (.slice (some ⟨b262, 0, none⟩) 1 1), (.slice none 0 0), (.slice none 0 0)]) rfl rfl aggs_29 (by simp [Value.one1]) rfl rfl rfl (Nat.le_of_ble_eq_true rfl) ?_)
    refine sq (St.closed _ _ _ _) (q_assign rfl) rfl ?_
    refine sq (St.closed _ _ _ _) (q_assign rfl) rfl ?_
    refine send ?_
    refine eseq ?_
    refine HT.ret ?_
    refine rt_in ?_
    refine rt_then ?_
    exact fun a ha w' hw => fin_ ha (resc3 ha Tryz.results26 rfl (ld_ aggs_29 hw (j := 0) rfl rfl (vs := [(.slice (some ⟨b258, 0, none⟩) 13 13), (.slice (some ⟨b262, 0, none⟩) 1 1), (.slice none 0 0), (.slice none 0 0)]) rfl) rfl rfl) ⟨⟨⟨some ⟨b258, 0, none⟩, 13, 13, [(nb bs 0) / 64, ((nb bs 0) / 8) &&& 7, (nb bs 0) &&& 7, nb bs 1, nb bs 2, nb bs 3, bN bs 4 4, bN bs 8 4, bN bs 12 4, bN bs 16 8, bN bs 24 8, bN bs 32 8, bN bs 40 8]⟩, some ⟨b262, 0, none⟩, 1, 1, [⟨cutA A c 48, n - 48, c - 48, sl bs 48 n⟩], none, 0, 0, [], ⟨none, 0, 0, []⟩⟩, rfl, hw.pres, Own.lay (all1 (Own.cel hw (j := 2) (sz := 1) (r := []) rfl rfl rfl rfl (Nat.le_refl _)) (all1 (Own.cel hw (j := 3) (sz := 1) (r := []) rfl rfl rfl rfl (Nat.le_refl _)) (all1 (Own.nilCel 2) (all1 Own.nilByt (all1 (Own.cut hw (j := 0) (lo := 48) (hi := n) rfl (fun _ h => .inr h) (by omega) (by omega)) all0))))), rfl⟩
end Go.Proofs.YtfkaafbeeegenaaGreat.Zed
