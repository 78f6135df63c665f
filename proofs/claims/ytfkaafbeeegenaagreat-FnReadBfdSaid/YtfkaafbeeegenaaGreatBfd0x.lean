/- bfd: the reference, first part -/
import Derived.Test.YtfkaafbeeegenaaGreatRead
import Derived.Test.YtfkaafbeeegenaaGreatApp
import Derived.KernelRfl
namespace Go.Proofs.YtfkaafbeeegenaaGreat.Zed
set_option linter.unusedVariables false
set_option linter.unusedSimpArgs false
set_option maxRecDepth 100000
set_option maxHeartbeats 4000000
theorem ca_41 : callable Tryz.prog 41 = true := by kernel_rfl
theorem zero_5 : (Tryz.prog.info? 5).bind (·.zero) = some (.int .u8 ((0 : Nat) : Int)) := by kernel_rfl
theorem ca_55 : callable Tryz.prog 55 = true := by kernel_rfl
theorem me_199_SetTruncated : ∀ (b : Nat) (w : World), (method (Tryz.prog.types.size + Made.depth) 199 (.pointer (some ⟨b, 0, none⟩)) "SetTruncated").run Tryz.prog w = .ok (167, .pointer (some ⟨b, 0, none⟩)) w := fun b w => by kernel_rfl
theorem ca_167 : callable Tryz.prog 167 = true := by kernel_rfl
theorem ca_99 : callable Tryz.prog 99 = true := by kernel_rfl
theorem ca_84 : callable Tryz.prog 84 = true := by kernel_rfl
theorem fo_146_0 : foff Tryz.prog 146 0 = some 0 := by kernel_rfl
theorem aggs_68 : aggs Tryz.prog 68 = some 2 := by kernel_rfl
theorem fo_146_1 : foff Tryz.prog 146 1 = some 2 := by kernel_rfl
theorem nagg_138 : nagg Tryz.prog 138 = true := by kernel_rfl
theorem fo_146_2 : foff Tryz.prog 146 2 = some 3 := by kernel_rfl
theorem nagg_139 : nagg Tryz.prog 139 = true := by kernel_rfl
theorem fo_146_3 : foff Tryz.prog 146 3 = some 4 := by kernel_rfl
theorem nagg_140 : nagg Tryz.prog 140 = true := by kernel_rfl
theorem fo_146_4 : foff Tryz.prog 146 4 = some 5 := by kernel_rfl
theorem fo_146_5 : foff Tryz.prog 146 5 = some 6 := by kernel_rfl
theorem fo_146_6 : foff Tryz.prog 146 6 = some 7 := by kernel_rfl
theorem fo_146_7 : foff Tryz.prog 146 7 = some 8 := by kernel_rfl
theorem fo_146_8 : foff Tryz.prog 146 8 = some 9 := by kernel_rfl
theorem fo_146_9 : foff Tryz.prog 146 9 = some 10 := by kernel_rfl
theorem fo_146_10 : foff Tryz.prog 146 10 = some 11 := by kernel_rfl
theorem nagg_141 : nagg Tryz.prog 141 = true := by kernel_rfl
theorem fo_146_11 : foff Tryz.prog 146 11 = some 12 := by kernel_rfl
theorem nagg_142 : nagg Tryz.prog 142 = true := by kernel_rfl
theorem fo_146_12 : foff Tryz.prog 146 12 = some 13 := by kernel_rfl
theorem fo_146_13 : foff Tryz.prog 146 13 = some 14 := by kernel_rfl
theorem nagg_143 : nagg Tryz.prog 143 = true := by kernel_rfl
theorem fo_146_14 : foff Tryz.prog 146 14 = some 15 := by kernel_rfl
theorem fo_146_15 : foff Tryz.prog 146 15 = some 16 := by kernel_rfl
theorem zero_110 : (Tryz.prog.info? 110).bind (·.zero) = some (.pointer none) := by kernel_rfl
theorem zero_114 : (Tryz.prog.info? 114).bind (·.zero) = some (.pointer none) := by kernel_rfl
theorem zero_121 : (Tryz.prog.info? 121).bind (·.zero) = some (.pointer none) := by kernel_rfl
theorem zero_127 : (Tryz.prog.info? 127).bind (·.zero) = some (.pointer none) := by kernel_rfl
theorem zero_130 : (Tryz.prog.info? 130).bind (·.zero) = some (.pointer none) := by kernel_rfl
theorem zero_133 : (Tryz.prog.info? 133).bind (·.zero) = some (.pointer none) := by kernel_rfl
theorem fo_146_16 : foff Tryz.prog 146 16 = some 17 := by kernel_rfl
theorem nagg_144 : nagg Tryz.prog 144 = true := by kernel_rfl
theorem me_137_LayerPayload : ∀ (b : Nat) (w : World), (method (Tryz.prog.types.size + Made.depth) 137 (.pointer (some ⟨b, 0, none⟩)) "LayerPayload").run Tryz.prog w = .ok (120, .pointer (some ⟨b, 0, none⟩)) w := fun b w => by kernel_rfl
theorem fo_152_0 : foff Tryz.prog 152 0 = some 0 := by kernel_rfl
theorem nagg_147 : nagg Tryz.prog 147 = true := by kernel_rfl
theorem fo_152_1 : foff Tryz.prog 152 1 = some 1 := by kernel_rfl
theorem nagg_148 : nagg Tryz.prog 148 = true := by kernel_rfl
theorem fo_152_3 : foff Tryz.prog 152 3 = some 3 := by kernel_rfl
theorem nagg_150 : nagg Tryz.prog 150 = true := by kernel_rfl
theorem fo_152_2 : foff Tryz.prog 152 2 = some 2 := by kernel_rfl
theorem nagg_149 : nagg Tryz.prog 149 = true := by kernel_rfl
theorem rowT_49 : rowT Tryz.prog 49 2 := ⟨_, _, rfl, rfl, rfl, rfl, by decide⟩

theorem bfd_S0 (w : World) (A : Option Addr) (n : Nat) (c : Nat) (bs : List UInt8) (hn : n ≤ 2147483647) (ha : n < 24) (hst : St w [] [] [Byt A n c bs] w) : Calls Tryz.prog 26 #[(.string ⟨#[98, 102, 100]⟩), (.slice A n c)] w (SP w (Byt A n c bs) (some none)) := by
  have hnc00 : n ≤ c := (hst.fact (j := 0) rfl).2.1
  refine enter (vs := [(.string ⟨#[98, 102, 100]⟩), (.slice A n c)]) Tryz.func26 rfl rfl rfl hst ?_
  refine HT.seq ?_
  refine HT.plain ?_
  refine sl_ (l_alloc (by decide) zero_29 fun b4 => ?_)
  refine sAs rfl rfl ?_
  refine sAs rfl rfl ?_
  refine send ?_
  refine eseq ?_
  refine HT.seq ?_
  refine HT.plain ?_
  refine sl_ (l_makeMap (by decide) fun b13 => ?_)
  refine sl_ (l_insert (es := es0) (ck := 0) rfl rfl rfl Tryz.underlying36 Tryz.underlying9 fi0 ?_)
  refine sl_ (l_insert (es := es1) (ck := 1) rfl rfl rfl Tryz.underlying36 Tryz.underlying9 fi1 ?_)
  refine sl_ (l_insert (es := es2) (ck := 2) rfl rfl rfl Tryz.underlying36 Tryz.underlying9 fi2 ?_)
  refine sl_ (l_insert (es := es3) (ck := 3) rfl rfl rfl Tryz.underlying36 Tryz.underlying9 fi3 ?_)
  refine sl_ (l_insert (es := es4) (ck := 4) rfl rfl rfl Tryz.underlying36 Tryz.underlying9 fi4 ?_)
  refine sl_ (l_insert (es := es5) (ck := 5) rfl rfl rfl Tryz.underlying36 Tryz.underlying9 fi5 ?_)
  refine sl_ (l_insert (es := es6) (ck := 6) rfl rfl rfl Tryz.underlying36 Tryz.underlying9 fi6 ?_)
  refine sl_ (l_insert (es := es7) (ck := 7) rfl rfl rfl Tryz.underlying36 Tryz.underlying9 fi7 ?_)
  refine sl_ (l_insert (es := es8) (ck := 8) rfl rfl rfl Tryz.underlying36 Tryz.underlying9 fi8 ?_)
  refine sl_ (l_insert (es := es9) (ck := 9) rfl rfl rfl Tryz.underlying36 Tryz.underlying9 fi9 ?_)
  refine sl_ (l_insert (es := es10) (ck := 10) rfl rfl rfl Tryz.underlying36 Tryz.underlying9 fi10 ?_)
  refine sl_ (l_insert (es := es11) (ck := 11) rfl rfl rfl Tryz.underlying36 Tryz.underlying9 fi11 ?_)
  refine sl_ (l_insert (es := es12) (ck := 12) rfl rfl rfl Tryz.underlying36 Tryz.underlying9 fi12 ?_)
  refine sl_ (l_insert (es := es13) (ck := 13) rfl rfl rfl Tryz.underlying36 Tryz.underlying9 fi13 ?_)
  refine sl_ (l_insert (es := es14) (ck := 14) rfl rfl rfl Tryz.underlying36 Tryz.underlying9 fi14 ?_)
  refine sl_ (l_insert (es := es15) (ck := 15) rfl rfl rfl Tryz.underlying36 Tryz.underlying9 fi15 ?_)
  refine sl_ (l_insert (es := es16) (ck := 16) rfl rfl rfl Tryz.underlying36 Tryz.underlying9 fi16 ?_)
  refine sl_ (l_insert (es := es17) (ck := 17) rfl rfl rfl Tryz.underlying36 Tryz.underlying9 fi17 ?_)
  refine sl_ (l_insert (es := es18) (ck := 18) rfl rfl rfl Tryz.underlying36 Tryz.underlying9 fi18 ?_)
  refine sl_ (l_insert (es := es19) (ck := 19) rfl rfl rfl Tryz.underlying36 Tryz.underlying9 fi19 ?_)
  refine sl_ (l_insert (es := es20) (ck := 20) rfl rfl rfl Tryz.underlying36 Tryz.underlying9 fi20 ?_)
  refine sq (SM.closed) (q_move rfl) rfl ?_
  refine sq (SM.closed) (q_move rfl) rfl ?_
  refine sq (SM.closed) (q_lookup (es := es21) (i := 15) (v := (.int .i64 ((24 : Nat) : Int))) (fun _ h => h) rfl rfl Tryz.underlying36 Tryz.underlying9 (by kernel_rfl)) rfl ?_
  refine sq (SM.closed) (q_assign rfl) rfl ?_
  refine send ?_
  refine eseq ?_
  refine HT.unmap ?_
  refine HT.seq ?_
  refine HT.seq ?_
  refine HT.plain ?_
  refine sMv rfl rfl ?_
  refine sqS (q_len (len := n) rfl Tryz.underlying22) rfl ?_
  refine sMv rfl rfl ?_
  refine sqS (q_T (q_lt (p := n) (q := 24) rfl rfl) (by omega)) rfl ?_
  refine send ?_
  refine eseq ?_
  refine HT.yes rfl ?_
  refine HT.seq ?_
  refine HT.plain ?_
  refine sqS (q_build (vs := []) (v := (.agg #[(.slice none 0 0), (.slice none 0 0), (.slice none 0 0), (.slice none 0 0)])) rfl (fun _ => by kernel_rfl)) rfl ?_
  refine sl_ (l_storeAgg (b := b4) (off := 0) (j := 0) (vs := [(.slice none 0 0), (.slice none 0 0), (.slice none 0 0), (.slice none 0 0)]) rfl rfl aggs_29 (by simp [Value.one1]) rfl rfl rfl (Nat.le_of_ble_eq_true rfl) ?_)
  refine sAs rfl rfl ?_
  refine sAs rfl rfl ?_
  refine send ?_
  refine eseq ?_
  refine HT.ret ?_
  refine rt_then ?_
  exact fun a ha w' hw => fin_ ha (resc3 ha Tryz.results26 rfl (ld_ aggs_29 hw (j := 0) rfl rfl (vs := [(.slice none 0 0), (.slice none 0 0), (.slice none 0 0), (.slice none 0 0)]) rfl) rfl rfl) ⟨rfl, hw.pres⟩

theorem bfd_s1 (w : World) (A : Option Addr) (n : Nat) (c : Nat) (bs : List UInt8) (hn : n ≤ 2147483647) (ha : 24 ≤ n) (hb : nb bs 3 ≠ n) (hc : n ≤ 26 ∨ 32 ≤ n ∨ nb bs 1 / 4 % 2 = 0 ∨ nb bs 24 < 2 ∨ 5 < nb bs 24) (hst : St w [] [] [Byt A n c bs] w) : Calls Tryz.prog 41 #[(.slice A n c)] w (fun e w' => e = .returned (.tuple #[(.agg #[(.slice none 0 0), (.slice none 0 0), (.slice none 0 0), (.slice none 0 0)]), (.bool false), (.bool true)]) ∧ Pres [] w w') := by
  have hnc00 : n ≤ c := (hst.fact (j := 0) rfl).2.1
  refine enter (vs := [(.slice A n c)]) Tryz.func41 rfl rfl rfl hst ?_
  refine HT.seq ?_
  refine HT.plain ?_
  refine sl_ (l_alloc (by decide) zero_29 fun b2 => ?_)
  refine sAs rfl rfl ?_
  refine sAs rfl rfl ?_
  refine send ?_
  refine eseq ?_
  refine HT.norm [⟨b2, 29, [some (.slice none 0 0), some (.slice none 0 0), some (.slice none 0 0), some (.slice none 0 0)], true⟩] [Byt A n c bs] rfl rfl ?_
  refine HT.seq ?_
  refine HT.seq ?_
  refine HT.plain ?_
  refine sMv rfl rfl ?_
  refine sqS (q_index (i := 3) (j := 0) rfl rfl Tryz.underlying22 nagg_5 (fun _ h => h) rfl (by omega)) rfl ?_
  refine sqS (q_byte (i := 3) (j := 0) rfl nagg_5 (fun _ h => h) rfl (by omega)) rfl ?_
  refine sqS (q_convn (p := nb bs 3) rfl Tryz.underlying5 Tryz.underlying3 (show nb bs 3 < 9223372036854775808 by have := nb_lt bs 3; omega)) rfl ?_
  refine sMv rfl rfl ?_
  refine sqS (q_len (len := n) rfl Tryz.underlying22) rfl ?_
  refine sqS (q_T (q_ne (p := nb bs 3) (q := n) rfl rfl) (by have := nb_lt bs 3; omega)) rfl ?_
  refine send ?_
  refine eseq ?_
  refine HT.yes rfl ?_
  refine HT.seq ?_
  refine HT.plain ?_
  refine sqS (q_build (vs := []) (v := (.agg #[(.slice none 0 0), (.slice none 0 0), (.slice none 0 0), (.slice none 0 0)])) rfl (fun _ => by kernel_rfl)) rfl ?_
  refine sl_ (l_storeAgg (b := b2) (off := 0) (j := 0) (vs := [(.slice none 0 0), (.slice none 0 0), (.slice none 0 0), (.slice none 0 0)]) rfl rfl aggs_29 (by simp [Value.one1]) rfl rfl rfl (Nat.le_of_ble_eq_true rfl) ?_)
  refine sAs rfl rfl ?_
  refine sAs rfl rfl ?_
  refine send ?_
  refine eseq ?_
  refine HT.ret ?_
  refine rt_then ?_
  exact fun a ha w' hw => fin_ ha (resc3 ha Tryz.results41 rfl (ld_ aggs_29 hw (j := 0) rfl rfl (vs := [(.slice none 0 0), (.slice none 0 0), (.slice none 0 0), (.slice none 0 0)]) rfl) rfl rfl) ⟨rfl, hw.pres⟩

theorem bfd_S1 (w : World) (A : Option Addr) (n : Nat) (c : Nat) (bs : List UInt8) (hn : n ≤ 2147483647) (ha : 24 ≤ n) (hb : nb bs 3 ≠ n) (hc : n ≤ 26 ∨ 32 ≤ n ∨ nb bs 1 / 4 % 2 = 0 ∨ nb bs 24 < 2 ∨ 5 < nb bs 24) (hst : St w [] [] [Byt A n c bs] w) : Calls Tryz.prog 26 #[(.string ⟨#[98, 102, 100]⟩), (.slice A n c)] w (SP w (Byt A n c bs) (some none)) := by
  have hnc00 : n ≤ c := (hst.fact (j := 0) rfl).2.1
  refine enter (vs := [(.string ⟨#[98, 102, 100]⟩), (.slice A n c)]) Tryz.func26 rfl rfl rfl hst ?_
  refine HT.seq ?_
  refine HT.plain ?_
  refine sl_ (l_alloc (by decide) zero_29 fun b4 => ?_)
  refine sAs rfl rfl ?_
  refine sAs rfl rfl ?_
  refine send ?_
  refine eseq ?_
  refine HT.seq ?_
  refine HT.plain ?_
  refine sl_ (l_makeMap (by decide) fun b13 => ?_)
  refine sl_ (l_insert (es := es0) (ck := 0) rfl rfl rfl Tryz.underlying36 Tryz.underlying9 fi0 ?_)
  refine sl_ (l_insert (es := es1) (ck := 1) rfl rfl rfl Tryz.underlying36 Tryz.underlying9 fi1 ?_)
  refine sl_ (l_insert (es := es2) (ck := 2) rfl rfl rfl Tryz.underlying36 Tryz.underlying9 fi2 ?_)
  refine sl_ (l_insert (es := es3) (ck := 3) rfl rfl rfl Tryz.underlying36 Tryz.underlying9 fi3 ?_)
  refine sl_ (l_insert (es := es4) (ck := 4) rfl rfl rfl Tryz.underlying36 Tryz.underlying9 fi4 ?_)
  refine sl_ (l_insert (es := es5) (ck := 5) rfl rfl rfl Tryz.underlying36 Tryz.underlying9 fi5 ?_)
  refine sl_ (l_insert (es := es6) (ck := 6) rfl rfl rfl Tryz.underlying36 Tryz.underlying9 fi6 ?_)
  refine sl_ (l_insert (es := es7) (ck := 7) rfl rfl rfl Tryz.underlying36 Tryz.underlying9 fi7 ?_)
  refine sl_ (l_insert (es := es8) (ck := 8) rfl rfl rfl Tryz.underlying36 Tryz.underlying9 fi8 ?_)
  refine sl_ (l_insert (es := es9) (ck := 9) rfl rfl rfl Tryz.underlying36 Tryz.underlying9 fi9 ?_)
  refine sl_ (l_insert (es := es10) (ck := 10) rfl rfl rfl Tryz.underlying36 Tryz.underlying9 fi10 ?_)
  refine sl_ (l_insert (es := es11) (ck := 11) rfl rfl rfl Tryz.underlying36 Tryz.underlying9 fi11 ?_)
  refine sl_ (l_insert (es := es12) (ck := 12) rfl rfl rfl Tryz.underlying36 Tryz.underlying9 fi12 ?_)
  refine sl_ (l_insert (es := es13) (ck := 13) rfl rfl rfl Tryz.underlying36 Tryz.underlying9 fi13 ?_)
  refine sl_ (l_insert (es := es14) (ck := 14) rfl rfl rfl Tryz.underlying36 Tryz.underlying9 fi14 ?_)
  refine sl_ (l_insert (es := es15) (ck := 15) rfl rfl rfl Tryz.underlying36 Tryz.underlying9 fi15 ?_)
  refine sl_ (l_insert (es := es16) (ck := 16) rfl rfl rfl Tryz.underlying36 Tryz.underlying9 fi16 ?_)
  refine sl_ (l_insert (es := es17) (ck := 17) rfl rfl rfl Tryz.underlying36 Tryz.underlying9 fi17 ?_)
  refine sl_ (l_insert (es := es18) (ck := 18) rfl rfl rfl Tryz.underlying36 Tryz.underlying9 fi18 ?_)
  refine sl_ (l_insert (es := es19) (ck := 19) rfl rfl rfl Tryz.underlying36 Tryz.underlying9 fi19 ?_)
  refine sl_ (l_insert (es := es20) (ck := 20) rfl rfl rfl Tryz.underlying36 Tryz.underlying9 fi20 ?_)
  refine sq (SM.closed) (q_move rfl) rfl ?_
  refine sq (SM.closed) (q_move rfl) rfl ?_
  refine sq (SM.closed) (q_lookup (es := es21) (i := 15) (v := (.int .i64 ((24 : Nat) : Int))) (fun _ h => h) rfl rfl Tryz.underlying36 Tryz.underlying9 (by kernel_rfl)) rfl ?_
  refine sq (SM.closed) (q_assign rfl) rfl ?_
  refine send ?_
  refine eseq ?_
  refine HT.unmap ?_
  refine HT.seq ?_
  refine HT.seq ?_
  refine HT.plain ?_
  refine sMv rfl rfl ?_
  refine sqS (q_len (len := n) rfl Tryz.underlying22) rfl ?_
  refine sMv rfl rfl ?_
  refine sqS (q_F (q_lt (p := n) (q := 24) rfl rfl) (by omega)) rfl ?_
  refine send ?_
  refine eseq ?_
  refine HT.no rfl ?_
  refine HT.skip ?_
  refine eseq ?_
  refine HT.seq ?_
  refine HT.seq ?_
  refine HT.plain ?_
  refine sMv rfl rfl ?_
  refine send ?_
  refine eseq ?_
  refine HT.block ?_
  refine HT.seq ?_
  refine HT.plain ?_
  refine sqS (q_eqs rfl rfl (r := false) (by kernel_rfl)) rfl ?_
  refine sAs rfl rfl ?_
  refine send ?_
  refine eseq ?_
  refine HT.no rfl ?_
  refine HT.seq ?_
  refine HT.plain ?_
  refine sqS (q_eqs rfl rfl (r := false) (by kernel_rfl)) rfl ?_
  refine sAs rfl rfl ?_
  refine send ?_
  refine eseq ?_
  refine HT.no rfl ?_
  refine HT.seq ?_
  refine HT.plain ?_
  refine sqS (q_eqs rfl rfl (r := false) (by kernel_rfl)) rfl ?_
  refine sAs rfl rfl ?_
  refine send ?_
  refine eseq ?_
  refine HT.no rfl ?_
  refine HT.seq ?_
  refine HT.plain ?_
  refine sqS (q_eqs rfl rfl (r := false) (by kernel_rfl)) rfl ?_
  refine sAs rfl rfl ?_
  refine send ?_
  refine eseq ?_
  refine HT.no rfl ?_
  refine HT.seq ?_
  refine HT.plain ?_
  refine sqS (q_eqs rfl rfl (r := false) (by kernel_rfl)) rfl ?_
  refine sAs rfl rfl ?_
  refine send ?_
  refine eseq ?_
  refine HT.no rfl ?_
  refine HT.seq ?_
  refine HT.plain ?_
  refine sqS (q_eqs rfl rfl (r := false) (by kernel_rfl)) rfl ?_
  refine sAs rfl rfl ?_
  refine send ?_
  refine eseq ?_
  refine HT.no rfl ?_
  refine HT.seq ?_
  refine HT.plain ?_
  refine sqS (q_eqs rfl rfl (r := false) (by kernel_rfl)) rfl ?_
  refine sAs rfl rfl ?_
  refine send ?_
  refine eseq ?_
  refine HT.no rfl ?_
  refine HT.seq ?_
  refine HT.plain ?_
  refine sqS (q_eqs rfl rfl (r := false) (by kernel_rfl)) rfl ?_
  refine sAs rfl rfl ?_
  refine send ?_
  refine eseq ?_
  refine HT.no rfl ?_
  refine HT.seq ?_
  refine HT.plain ?_
  refine sqS (q_eqs rfl rfl (r := false) (by kernel_rfl)) rfl ?_
  refine sAs rfl rfl ?_
  refine send ?_
  refine eseq ?_
  refine HT.no rfl ?_
  refine HT.seq ?_
  refine HT.plain ?_
  refine sqS (q_eqs rfl rfl (r := false) (by kernel_rfl)) rfl ?_
  refine sAs rfl rfl ?_
  refine send ?_
  refine eseq ?_
  refine HT.no rfl ?_
  refine HT.seq ?_
  refine HT.plain ?_
  refine sqS (q_eqs rfl rfl (r := false) (by kernel_rfl)) rfl ?_
  refine sAs rfl rfl ?_
  refine send ?_
  refine eseq ?_
  refine HT.no rfl ?_
  refine HT.seq ?_
  refine HT.plain ?_
  refine sqS (q_eqs rfl rfl (r := false) (by kernel_rfl)) rfl ?_
  refine sAs rfl rfl ?_
  refine send ?_
  refine eseq ?_
  refine HT.no rfl ?_
  refine HT.seq ?_
  refine HT.plain ?_
  refine sqS (q_eqs rfl rfl (r := false) (by kernel_rfl)) rfl ?_
  refine sAs rfl rfl ?_
  refine send ?_
  refine eseq ?_
  refine HT.no rfl ?_
  refine HT.seq ?_
  refine HT.plain ?_
  refine sqS (q_eqs rfl rfl (r := false) (by kernel_rfl)) rfl ?_
  refine sAs rfl rfl ?_
  refine send ?_
  refine eseq ?_
  refine HT.no rfl ?_
  refine HT.seq ?_
  refine HT.plain ?_
  refine sqS (q_eqs rfl rfl (r := false) (by kernel_rfl)) rfl ?_
  refine sAs rfl rfl ?_
  refine send ?_
  refine eseq ?_
  refine HT.no rfl ?_
  refine HT.seq ?_
  refine HT.plain ?_
  refine sqS (q_eqs rfl rfl (r := true) (by kernel_rfl)) rfl ?_
  refine sAs rfl rfl ?_
  refine send ?_
  refine eseq ?_
  refine HT.yes rfl ?_
  refine HT.seq ?_
  refine HT.plain ?_
  refine sMv rfl rfl ?_
  refine sqS (q_call (vs := [(.slice A n c)]) (v := (.tuple #[(.agg #[(.slice none 0 0), (.slice none 0 0), (.slice none 0 0), (.slice none 0 0)]), (.bool false), (.bool true)])) rfl ca_41 (fun w h => bfd_s1 w A n c bs (by omega) (by omega) (by omega) (by omega) (St.enter (sp := []) (Kc := []) (bi := [0]) h rfl rfl rfl))) rfl ?_
  refine sqS (q_extract (vs := [(.agg #[(.slice none 0 0), (.slice none 0 0), (.slice none 0 0), (.slice none 0 0)]), (.bool false), (.bool true)]) (i := 0) rfl rfl) rfl ?_
  refine sqS (q_extract (vs := [(.agg #[(.slice none 0 0), (.slice none 0 0), (.slice none 0 0), (.slice none 0 0)]), (.bool false), (.bool true)]) (i := 1) rfl rfl) rfl ?_
  refine sqS (q_extract (vs := [(.agg #[(.slice none 0 0), (.slice none 0 0), (.slice none 0 0), (.slice none 0 0)]), (.bool false), (.bool true)]) (i := 2) rfl rfl) rfl ?_
  refine sl_ (l_storeAgg (b := b4) (off := 0) (j := 0) (vs := [(.slice none 0 0), (.slice none 0 0), (.slice none 0 0), (.slice none 0 0)]) rfl rfl aggs_29 (by simp [Value.one1]) rfl rfl rfl (Nat.le_of_ble_eq_true rfl) ?_)
  refine sAs rfl rfl ?_
  refine sAs rfl rfl ?_
  refine send ?_
  refine eseq ?_
  refine HT.ret ?_
  refine rt_in ?_
  refine rt_then ?_
  exact fun a ha w' hw => fin_ ha (resc3 ha Tryz.results26 rfl (ld_ aggs_29 hw (j := 0) rfl rfl (vs := [(.slice none 0 0), (.slice none 0 0), (.slice none 0 0), (.slice none 0 0)]) rfl) rfl rfl) ⟨rfl, hw.pres⟩

theorem bfd_s2 (w : World) (A : Option Addr) (n : Nat) (c : Nat) (bs : List UInt8) (hn : n ≤ 2147483647) (ha : 27 ≤ n) (hb : n < 32) (hc : nb bs 3 ≠ n) (hd : nb bs 1 / 4 % 2 = 1) (he : 2 ≤ nb bs 24) (hf : nb bs 24 ≤ 5) (hst : St w [] [] [Byt A n c bs] w) : Calls Tryz.prog 41 #[(.slice A n c)] w (fun e w' => e = .returned (.tuple #[(.agg #[(.slice none 0 0), (.slice none 0 0), (.slice none 0 0), (.slice none 0 0)]), (.bool false), (.bool true)]) ∧ Pres [] w w') := by
  have hnc00 : n ≤ c := (hst.fact (j := 0) rfl).2.1
  refine enter (vs := [(.slice A n c)]) Tryz.func41 rfl rfl rfl hst ?_
  refine HT.seq ?_
  refine HT.plain ?_
  refine sl_ (l_alloc (by decide) zero_29 fun b2 => ?_)
  refine sAs rfl rfl ?_
  refine sAs rfl rfl ?_
  refine send ?_
  refine eseq ?_
  refine HT.norm [⟨b2, 29, [some (.slice none 0 0), some (.slice none 0 0), some (.slice none 0 0), some (.slice none 0 0)], true⟩] [Byt A n c bs] rfl rfl ?_
  refine HT.seq ?_
  refine HT.seq ?_
  refine HT.plain ?_
  refine sMv rfl rfl ?_
  refine sqS (q_index (i := 3) (j := 0) rfl rfl Tryz.underlying22 nagg_5 (fun _ h => h) rfl (by omega)) rfl ?_
  refine sqS (q_byte (i := 3) (j := 0) rfl nagg_5 (fun _ h => h) rfl (by omega)) rfl ?_
  refine sqS (q_convn (p := nb bs 3) rfl Tryz.underlying5 Tryz.underlying3 (show nb bs 3 < 9223372036854775808 by have := nb_lt bs 3; omega)) rfl ?_
  refine sMv rfl rfl ?_
  refine sqS (q_len (len := n) rfl Tryz.underlying22) rfl ?_
  refine sqS (q_T (q_ne (p := nb bs 3) (q := n) rfl rfl) (by have := nb_lt bs 3; omega)) rfl ?_
  refine send ?_
  refine eseq ?_
  refine HT.yes rfl ?_
  refine HT.seq ?_
  refine HT.plain ?_
  refine sqS (q_build (vs := []) (v := (.agg #[(.slice none 0 0), (.slice none 0 0), (.slice none 0 0), (.slice none 0 0)])) rfl (fun _ => by kernel_rfl)) rfl ?_
  refine sl_ (l_storeAgg (b := b2) (off := 0) (j := 0) (vs := [(.slice none 0 0), (.slice none 0 0), (.slice none 0 0), (.slice none 0 0)]) rfl rfl aggs_29 (by simp [Value.one1]) rfl rfl rfl (Nat.le_of_ble_eq_true rfl) ?_)
  refine sAs rfl rfl ?_
  refine sAs rfl rfl ?_
  refine send ?_
  refine eseq ?_
  refine HT.ret ?_
  refine rt_then ?_
  exact fun a ha w' hw => fin_ ha (resc3 ha Tryz.results41 rfl (ld_ aggs_29 hw (j := 0) rfl rfl (vs := [(.slice none 0 0), (.slice none 0 0), (.slice none 0 0), (.slice none 0 0)]) rfl) rfl rfl) ⟨rfl, hw.pres⟩

theorem bfd_S2 (w : World) (A : Option Addr) (n : Nat) (c : Nat) (bs : List UInt8) (hn : n ≤ 2147483647) (ha : 27 ≤ n) (hb : n < 32) (hc : nb bs 3 ≠ n) (hd : nb bs 1 / 4 % 2 = 1) (he : 2 ≤ nb bs 24) (hf : nb bs 24 ≤ 5) (hst : St w [] [] [Byt A n c bs] w) : Calls Tryz.prog 26 #[(.string ⟨#[98, 102, 100]⟩), (.slice A n c)] w (SP w (Byt A n c bs) (some none)) := by
  have hnc00 : n ≤ c := (hst.fact (j := 0) rfl).2.1
  refine enter (vs := [(.string ⟨#[98, 102, 100]⟩), (.slice A n c)]) Tryz.func26 rfl rfl rfl hst ?_
  refine HT.seq ?_
  refine HT.plain ?_
  refine sl_ (l_alloc (by decide) zero_29 fun b4 => ?_)
  refine sAs rfl rfl ?_
  refine sAs rfl rfl ?_
  refine send ?_
  refine eseq ?_
  refine HT.seq ?_
  refine HT.plain ?_
  refine sl_ (l_makeMap (by decide) fun b13 => ?_)
  refine sl_ (l_insert (es := es0) (ck := 0) rfl rfl rfl Tryz.underlying36 Tryz.underlying9 fi0 ?_)
  refine sl_ (l_insert (es := es1) (ck := 1) rfl rfl rfl Tryz.underlying36 Tryz.underlying9 fi1 ?_)
  refine sl_ (l_insert (es := es2) (ck := 2) rfl rfl rfl Tryz.underlying36 Tryz.underlying9 fi2 ?_)
  refine sl_ (l_insert (es := es3) (ck := 3) rfl rfl rfl Tryz.underlying36 Tryz.underlying9 fi3 ?_)
  refine sl_ (l_insert (es := es4) (ck := 4) rfl rfl rfl Tryz.underlying36 Tryz.underlying9 fi4 ?_)
  refine sl_ (l_insert (es := es5) (ck := 5) rfl rfl rfl Tryz.underlying36 Tryz.underlying9 fi5 ?_)
  refine sl_ (l_insert (es := es6) (ck := 6) rfl rfl rfl Tryz.underlying36 Tryz.underlying9 fi6 ?_)
  refine sl_ (l_insert (es := es7) (ck := 7) rfl rfl rfl Tryz.underlying36 Tryz.underlying9 fi7 ?_)
  refine sl_ (l_insert (es := es8) (ck := 8) rfl rfl rfl Tryz.underlying36 Tryz.underlying9 fi8 ?_)
  refine sl_ (l_insert (es := es9) (ck := 9) rfl rfl rfl Tryz.underlying36 Tryz.underlying9 fi9 ?_)
  refine sl_ (l_insert (es := es10) (ck := 10) rfl rfl rfl Tryz.underlying36 Tryz.underlying9 fi10 ?_)
  refine sl_ (l_insert (es := es11) (ck := 11) rfl rfl rfl Tryz.underlying36 Tryz.underlying9 fi11 ?_)
  refine sl_ (l_insert (es := es12) (ck := 12) rfl rfl rfl Tryz.underlying36 Tryz.underlying9 fi12 ?_)
  refine sl_ (l_insert (es := es13) (ck := 13) rfl rfl rfl Tryz.underlying36 Tryz.underlying9 fi13 ?_)
  refine sl_ (l_insert (es := es14) (ck := 14) rfl rfl rfl Tryz.underlying36 Tryz.underlying9 fi14 ?_)
  refine sl_ (l_insert (es := es15) (ck := 15) rfl rfl rfl Tryz.underlying36 Tryz.underlying9 fi15 ?_)
  refine sl_ (l_insert (es := es16) (ck := 16) rfl rfl rfl Tryz.underlying36 Tryz.underlying9 fi16 ?_)
  refine sl_ (l_insert (es := es17) (ck := 17) rfl rfl rfl Tryz.underlying36 Tryz.underlying9 fi17 ?_)
  refine sl_ (l_insert (es := es18) (ck := 18) rfl rfl rfl Tryz.underlying36 Tryz.underlying9 fi18 ?_)
  refine sl_ (l_insert (es := es19) (ck := 19) rfl rfl rfl Tryz.underlying36 Tryz.underlying9 fi19 ?_)
  refine sl_ (l_insert (es := es20) (ck := 20) rfl rfl rfl Tryz.underlying36 Tryz.underlying9 fi20 ?_)
  refine sq (SM.closed) (q_move rfl) rfl ?_
  refine sq (SM.closed) (q_move rfl) rfl ?_
  refine sq (SM.closed) (q_lookup (es := es21) (i := 15) (v := (.int .i64 ((24 : Nat) : Int))) (fun _ h => h) rfl rfl Tryz.underlying36 Tryz.underlying9 (by kernel_rfl)) rfl ?_
  refine sq (SM.closed) (q_assign rfl) rfl ?_
  refine send ?_
  refine eseq ?_
  refine HT.unmap ?_
  refine HT.seq ?_
  refine HT.seq ?_
  refine HT.plain ?_
  refine sMv rfl rfl ?_
  refine sqS (q_len (len := n) rfl Tryz.underlying22) rfl ?_
  refine sMv rfl rfl ?_
  refine sqS (q_F (q_lt (p := n) (q := 24) rfl rfl) (by omega)) rfl ?_
  refine send ?_
  refine eseq ?_
  refine HT.no rfl ?_
  refine HT.skip ?_
  refine eseq ?_
  refine HT.seq ?_
  refine HT.seq ?_
  refine HT.plain ?_
  refine sMv rfl rfl ?_
  refine send ?_
  refine eseq ?_
  refine HT.block ?_
  refine HT.seq ?_
  refine HT.plain ?_
  refine sqS (q_eqs rfl rfl (r := false) (by kernel_rfl)) rfl ?_
  refine sAs rfl rfl ?_
  refine send ?_
  refine eseq ?_
  refine HT.no rfl ?_
  refine HT.seq ?_
  refine HT.plain ?_
  refine sqS (q_eqs rfl rfl (r := false) (by kernel_rfl)) rfl ?_
  refine sAs rfl rfl ?_
  refine send ?_
  refine eseq ?_
  refine HT.no rfl ?_
  refine HT.seq ?_
  refine HT.plain ?_
  refine sqS (q_eqs rfl rfl (r := false) (by kernel_rfl)) rfl ?_
  refine sAs rfl rfl ?_
  refine send ?_
  refine eseq ?_
  refine HT.no rfl ?_
  refine HT.seq ?_
  refine HT.plain ?_
  refine sqS (q_eqs rfl rfl (r := false) (by kernel_rfl)) rfl ?_
  refine sAs rfl rfl ?_
  refine send ?_
  refine eseq ?_
  refine HT.no rfl ?_
  refine HT.seq ?_
  refine HT.plain ?_
  refine sqS (q_eqs rfl rfl (r := false) (by kernel_rfl)) rfl ?_
  refine sAs rfl rfl ?_
  refine send ?_
  refine eseq ?_
  refine HT.no rfl ?_
  refine HT.seq ?_
  refine HT.plain ?_
  refine sqS (q_eqs rfl rfl (r := false) (by kernel_rfl)) rfl ?_
  refine sAs rfl rfl ?_
  refine send ?_
  refine eseq ?_
  refine HT.no rfl ?_
  refine HT.seq ?_
  refine HT.plain ?_
  refine sqS (q_eqs rfl rfl (r := false) (by kernel_rfl)) rfl ?_
  refine sAs rfl rfl ?_
  refine send ?_
  refine eseq ?_
  refine HT.no rfl ?_
  refine HT.seq ?_
  refine HT.plain ?_
  refine sqS (q_eqs rfl rfl (r := false) (by kernel_rfl)) rfl ?_
  refine sAs rfl rfl ?_
  refine send ?_
  refine eseq ?_
  refine HT.no rfl ?_
  refine HT.seq ?_
  refine HT.plain ?_
  refine sqS (q_eqs rfl rfl (r := false) (by kernel_rfl)) rfl ?_
  refine sAs rfl rfl ?_
  refine send ?_
  refine eseq ?_
  refine HT.no rfl ?_
  refine HT.seq ?_
  refine HT.plain ?_
  refine sqS (q_eqs rfl rfl (r := false) (by kernel_rfl)) rfl ?_
  refine sAs rfl rfl ?_
  refine send ?_
  refine eseq ?_
  refine HT.no rfl ?_
  refine HT.seq ?_
  refine HT.plain ?_
  refine sqS (q_eqs rfl rfl (r := false) (by kernel_rfl)) rfl ?_
  refine sAs rfl rfl ?_
  refine send ?_
  refine eseq ?_
  refine HT.no rfl ?_
  refine HT.seq ?_
  refine HT.plain ?_
  refine sqS (q_eqs rfl rfl (r := false) (by kernel_rfl)) rfl ?_
  refine sAs rfl rfl ?_
  refine send ?_
  refine eseq ?_
  refine HT.no rfl ?_
  refine HT.seq ?_
  refine HT.plain ?_
  refine sqS (q_eqs rfl rfl (r := false) (by kernel_rfl)) rfl ?_
  refine sAs rfl rfl ?_
  refine send ?_
  refine eseq ?_
  refine HT.no rfl ?_
  refine HT.seq ?_
  refine HT.plain ?_
  refine sqS (q_eqs rfl rfl (r := false) (by kernel_rfl)) rfl ?_
  refine sAs rfl rfl ?_
  refine send ?_
  refine eseq ?_
  refine HT.no rfl ?_
  refine HT.seq ?_
  refine HT.plain ?_
  refine sqS (q_eqs rfl rfl (r := false) (by kernel_rfl)) rfl ?_
  refine sAs rfl rfl ?_
  refine send ?_
  refine eseq ?_
  refine HT.no rfl ?_
  refine HT.seq ?_
  refine HT.plain ?_
  refine sqS (q_eqs rfl rfl (r := true) (by kernel_rfl)) rfl ?_
  refine sAs rfl rfl ?_
  refine send ?_
  refine eseq ?_
  refine HT.yes rfl ?_
  refine HT.seq ?_
  refine HT.plain ?_
  refine sMv rfl rfl ?_
  refine sqS (q_call (vs := [(.slice A n c)]) (v := (.tuple #[(.agg #[(.slice none 0 0), (.slice none 0 0), (.slice none 0 0), (.slice none 0 0)]), (.bool false), (.bool true)])) rfl ca_41 (fun w h => bfd_s2 w A n c bs (by omega) (by omega) (by omega) (by omega) (by omega) (by omega) (by omega) (St.enter (sp := []) (Kc := []) (bi := [0]) h rfl rfl rfl))) rfl ?_
  refine sqS (q_extract (vs := [(.agg #[(.slice none 0 0), (.slice none 0 0), (.slice none 0 0), (.slice none 0 0)]), (.bool false), (.bool true)]) (i := 0) rfl rfl) rfl ?_
  refine sqS (q_extract (vs := [(.agg #[(.slice none 0 0), (.slice none 0 0), (.slice none 0 0), (.slice none 0 0)]), (.bool false), (.bool true)]) (i := 1) rfl rfl) rfl ?_
  refine sqS (q_extract (vs := [(.agg #[(.slice none 0 0), (.slice none 0 0), (.slice none 0 0), (.slice none 0 0)]), (.bool false), (.bool true)]) (i := 2) rfl rfl) rfl ?_
  refine sl_ (l_storeAgg (b := b4) (off := 0) (j := 0) (vs := [(.slice none 0 0), (.slice none 0 0), (.slice none 0 0), (.slice none 0 0)]) rfl rfl aggs_29 (by simp [Value.one1]) rfl rfl rfl (Nat.le_of_ble_eq_true rfl) ?_)
  refine sAs rfl rfl ?_
  refine sAs rfl rfl ?_
  refine send ?_
  refine eseq ?_
  refine HT.ret ?_
  refine rt_in ?_
  refine rt_then ?_
  exact fun a ha w' hw => fin_ ha (resc3 ha Tryz.results26 rfl (ld_ aggs_29 hw (j := 0) rfl rfl (vs := [(.slice none 0 0), (.slice none 0 0), (.slice none 0 0), (.slice none 0 0)]) rfl) rfl rfl) ⟨rfl, hw.pres⟩

abbrev bfd_s3_k0 (b65 : Nat) (bs : List UInt8) : Kb := ⟨b65, 39, [some (.int .u64 (((nb bs 0) / 32 : Nat) : Int)), some (.int .u64 (((nb bs 0) &&& 31 : Nat) : Int)), some (.int .u64 (((nb bs 1) / 64 : Nat) : Int)), some (.int .u64 ((((nb bs 1) / 32) &&& 1 : Nat) : Int)), some (.int .u64 ((((nb bs 1) / 16) &&& 1 : Nat) : Int)), some (.int .u64 ((((nb bs 1) / 8) &&& 1 : Nat) : Int)), some (.int .u64 ((((nb bs 1) / 4) &&& 1 : Nat) : Int)), some (.int .u64 ((((nb bs 1) / 2) &&& 1 : Nat) : Int)), some (.int .u64 ((((nb bs 1) / 1) &&& 1 : Nat) : Int)), some (.int .u64 ((nb bs 2 : Nat) : Int)), some (.int .u64 ((bN bs 4 4 : Nat) : Int)), some (.int .u64 ((bN bs 8 4 : Nat) : Int)), some (.int .u64 ((bN bs 12 4 : Nat) : Int)), some (.int .u64 ((bN bs 16 4 : Nat) : Int)), some (.int .u64 ((bN bs 20 4 : Nat) : Int))], true⟩

theorem bfd_s3 (w : World) (A : Option Addr) (n : Nat) (c : Nat) (bs : List UInt8) (hn : n ≤ 2147483647) (ha : 24 ≤ n) (hb : nb bs 3 = n) (hc : nb bs 1 / 4 % 2 = 0) (hst : St w [] [] [Byt A n c bs] w) : Calls Tryz.prog 41 #[(.slice A n c)] w (CP1 w [] [Byt A n c bs] (fun b65 => (.tuple #[(.agg #[(.slice (some ⟨b65, 0, none⟩) 15 15), (.slice none 0 0), (.slice none 0 0), (.slice none 0 0)]), (.bool true), (.bool true)])) (fun b65 => [(bfd_s3_k0 b65 bs)]) (fun b65 => [])) := by
  have hnc00 : n ≤ c := (hst.fact (j := 0) rfl).2.1
  refine enter (vs := [(.slice A n c)]) Tryz.func41 rfl rfl rfl hst ?_
  refine HT.seq ?_
  refine HT.plain ?_
  refine sl_ (l_alloc (by decide) zero_29 fun b2 => ?_)
  refine sAs rfl rfl ?_
  refine sAs rfl rfl ?_
  refine send ?_
  refine eseq ?_
  refine HT.norm [⟨b2, 29, [some (.slice none 0 0), some (.slice none 0 0), some (.slice none 0 0), some (.slice none 0 0)], true⟩] [Byt A n c bs] rfl rfl ?_
  refine HT.seq ?_
  refine HT.seq ?_
  refine HT.plain ?_
  refine sMv rfl rfl ?_
  refine sqS (q_index (i := 3) (j := 0) rfl rfl Tryz.underlying22 nagg_5 (fun _ h => h) rfl (by omega)) rfl ?_
  refine sqS (q_byte (i := 3) (j := 0) rfl nagg_5 (fun _ h => h) rfl (by omega)) rfl ?_
  refine sqS (q_convn (p := nb bs 3) rfl Tryz.underlying5 Tryz.underlying3 (show nb bs 3 < 9223372036854775808 by have := nb_lt bs 3; omega)) rfl ?_
  refine sMv rfl rfl ?_
  refine sqS (q_len (len := n) rfl Tryz.underlying22) rfl ?_
  refine sqS (q_F (q_ne (p := nb bs 3) (q := n) rfl rfl) (by have := nb_lt bs 3; omega)) rfl ?_
  refine send ?_
  refine eseq ?_
  refine HT.no rfl ?_
  refine HT.skip ?_
  refine eseq ?_
  refine HT.seq ?_
  refine HT.plain ?_
  refine sMv rfl rfl ?_
  refine sqS (q_index (i := 1) (j := 0) rfl rfl Tryz.underlying22 nagg_5 (fun _ h => h) rfl (by omega)) rfl ?_
  refine sqS (q_byte (i := 1) (j := 0) rfl nagg_5 (fun _ h => h) rfl (by omega)) rfl ?_
  refine sl_ (l_alloc (by decide) zero_5 fun b5 => ?_)
  refine sl_ (l_store (b := b5) (off := 0) (j := 1) rfl rfl nagg_5 rfl rfl rfl rfl (dlt rfl) ?_)
  refine send ?_
  refine eseq ?_
  refine HT.norm [⟨b2, 29, [some (.slice none 0 0), some (.slice none 0 0), some (.slice none 0 0), some (.slice none 0 0)], true⟩, ⟨b5, 5, [some (.int .u8 ((nb bs 1 : Nat) : Int))], true⟩] [Byt A n c bs] rfl rfl ?_
  refine HT.seq ?_
  refine HT.plain ?_
  refine sqS (q_func (vs := [(.pointer (some ⟨b5, 0, none⟩))]) rfl) rfl ?_
  refine sAs rfl rfl ?_
  refine send ?_
  refine eseq ?_
  refine HT.seq ?_
  refine HT.drawnS mixed (St.closed _ _ _ _) ?_
  refine dtake (f := 15) [0, 1, 2, 3, 4, 5, 6, 7, 8, 9, 10, 11, 12, 13, 15, 17, 19, 21, 23, 25, 26, 27, 28, 29, 30, 32, 33, 35, 36, 38, 39, 41, 42] (by kernel_rfl) (St.closed _ _ _ _) (fun _ h => h) (by kernel_rfl) ?_
  refine dq rfl (q_move rfl) ?_
  refine dq rfl (q_index (i := 0) (j := 0) rfl rfl Tryz.underlying22 nagg_5 (fun _ h => h) rfl (by omega)) ?_
  refine dq rfl (q_byte (i := 0) (j := 0) rfl nagg_5 (fun _ h => h) rfl (by omega)) ?_
  refine dq rfl (q_shr (p := nb bs 0) (e := 5) (N := 32) rfl rfl (by decide) rfl) ?_
  refine dq rfl (q_convn (p := (nb bs 0) / 32) rfl Tryz.underlying5 Tryz.underlying39 (show (nb bs 0) / 32 < 18446744073709551616 by have := nb_lt bs 0; omega)) ?_
  refine dq rfl (q_move rfl) ?_
  refine dq rfl (q_index (i := 0) (j := 0) rfl rfl Tryz.underlying22 nagg_5 (fun _ h => h) rfl (by omega)) ?_
  refine dq rfl (q_byte (i := 0) (j := 0) rfl nagg_5 (fun _ h => h) rfl (by omega)) ?_
  refine dq rfl (q_and (p := nb bs 0) (q := 31) rfl rfl rfl (show nb bs 0 < 256 by have := nb_lt bs 0; omega) (by decide)) ?_
  refine dq rfl (q_convn (p := (nb bs 0) &&& 31) rfl Tryz.underlying5 Tryz.underlying39 (show (nb bs 0) &&& 31 < 18446744073709551616 by have := nb_lt bs 0; have := zm31 (nb bs 0); have := Nat.and_le_left (n := nb bs 0) (m := 31); have := Nat.and_le_right (n := nb bs 0) (m := 31); omega)) ?_
  refine dq rfl (q_load (b := b5) (off := 0) (j := 1) rfl nagg_5 (fun _ h => h) rfl rfl rfl) ?_
  refine dq rfl (q_shr (p := nb bs 1) (e := 6) (N := 64) rfl rfl (by decide) rfl) ?_
  refine dq rfl (q_convn (p := (nb bs 1) / 64) rfl Tryz.underlying5 Tryz.underlying39 (show (nb bs 1) / 64 < 18446744073709551616 by have := nb_lt bs 1; omega)) ?_
  refine dq rfl (q_move rfl) ?_
  refine dq rfl (q_move rfl) ?_
  refine dq rfl (q_move rfl) ?_
  refine dq rfl (q_move rfl) ?_
  refine dq rfl (q_move rfl) ?_
  refine dq rfl (q_move rfl) ?_
  refine dq rfl (q_move rfl) ?_
  refine dq rfl (q_index (i := 2) (j := 0) rfl rfl Tryz.underlying22 nagg_5 (fun _ h => h) rfl (by omega)) ?_
  refine dq rfl (q_byte (i := 2) (j := 0) rfl nagg_5 (fun _ h => h) rfl (by omega)) ?_
  refine dq rfl (q_convn (p := nb bs 2) rfl Tryz.underlying5 Tryz.underlying39 (show nb bs 2 < 18446744073709551616 by have := nb_lt bs 2; omega)) ?_
  refine dq rfl (q_move rfl) ?_
  refine dq rfl (q_slice (lo := 4) (hi := 8) rfl Tryz.underlying22 nagg_5 (.inr ⟨_, _, rfl, rfl⟩) (.inr ⟨_, _, rfl, rfl⟩) (by omega) (by omega)) ?_
  refine dq rfl (q_move rfl) ?_
  refine dq rfl (q_slice (lo := 8) (hi := 12) rfl Tryz.underlying22 nagg_5 (.inr ⟨_, _, rfl, rfl⟩) (.inr ⟨_, _, rfl, rfl⟩) (by omega) (by omega)) ?_
  refine dq rfl (q_move rfl) ?_
  refine dq rfl (q_slice (lo := 12) (hi := 16) rfl Tryz.underlying22 nagg_5 (.inr ⟨_, _, rfl, rfl⟩) (.inr ⟨_, _, rfl, rfl⟩) (by omega) (by omega)) ?_
  refine dq rfl (q_move rfl) ?_
  refine dq rfl (q_slice (lo := 16) (hi := 20) rfl Tryz.underlying22 nagg_5 (.inr ⟨_, _, rfl, rfl⟩) (.inr ⟨_, _, rfl, rfl⟩) (by omega) (by omega)) ?_
  refine dq rfl (q_move rfl) ?_
  refine dq rfl (q_slice (lo := 20) (hi := 24) rfl Tryz.underlying22 nagg_5 (.inr ⟨_, _, rfl, rfl⟩) (.inr ⟨_, _, rfl, rfl⟩) (by omega) (by omega)) ?_
  refine QL.nil ?_
  refine dtake (f := 4) [14, 16, 18, 20, 22, 24, 31, 34, 37, 40, 43] (by kernel_rfl) (St.closed _ _ _ _) (fun _ h => h) (by kernel_rfl) ?_
  refine dq rfl (q_callC (vs := [(.int .i64 ((5 : Nat) : Int))]) (v := (.int .u64 ((((nb bs 1) / 32) &&& 1 : Nat) : Int))) rfl rfl ca_55 (fun w h => bfdBit w 5 32 b5 (nb bs 1) (by have := nb_lt bs 1; omega) (by have := nb_lt bs 1; omega) (by have := nb_lt bs 1; omega) (by have := nb_lt bs 1; omega) (h.ro (j := 1) rfl))) ?_
  refine dq rfl (q_callC (vs := [(.int .i64 ((4 : Nat) : Int))]) (v := (.int .u64 ((((nb bs 1) / 16) &&& 1 : Nat) : Int))) rfl rfl ca_55 (fun w h => bfdBit w 4 16 b5 (nb bs 1) (by have := nb_lt bs 1; omega) (by have := nb_lt bs 1; omega) (by have := nb_lt bs 1; omega) (by have := nb_lt bs 1; omega) (h.ro (j := 1) rfl))) ?_
  refine dq rfl (q_callC (vs := [(.int .i64 ((3 : Nat) : Int))]) (v := (.int .u64 ((((nb bs 1) / 8) &&& 1 : Nat) : Int))) rfl rfl ca_55 (fun w h => bfdBit w 3 8 b5 (nb bs 1) (by have := nb_lt bs 1; omega) (by have := nb_lt bs 1; omega) (by have := nb_lt bs 1; omega) (by have := nb_lt bs 1; omega) (h.ro (j := 1) rfl))) ?_
  refine dq rfl (q_callC (vs := [(.int .i64 ((2 : Nat) : Int))]) (v := (.int .u64 ((((nb bs 1) / 4) &&& 1 : Nat) : Int))) rfl rfl ca_55 (fun w h => bfdBit w 2 4 b5 (nb bs 1) (by have := nb_lt bs 1; omega) (by have := nb_lt bs 1; omega) (by have := nb_lt bs 1; omega) (by have := nb_lt bs 1; omega) (h.ro (j := 1) rfl))) ?_
  refine dq rfl (q_callC (vs := [(.int .i64 ((1 : Nat) : Int))]) (v := (.int .u64 ((((nb bs 1) / 2) &&& 1 : Nat) : Int))) rfl rfl ca_55 (fun w h => bfdBit w 1 2 b5 (nb bs 1) (by have := nb_lt bs 1; omega) (by have := nb_lt bs 1; omega) (by have := nb_lt bs 1; omega) (by have := nb_lt bs 1; omega) (h.ro (j := 1) rfl))) ?_
  refine dq rfl (q_callC (vs := [(.int .i64 ((0 : Nat) : Int))]) (v := (.int .u64 ((((nb bs 1) / 1) &&& 1 : Nat) : Int))) rfl rfl ca_55 (fun w h => bfdBit w 0 1 b5 (nb bs 1) (by have := nb_lt bs 1; omega) (by have := nb_lt bs 1; omega) (by have := nb_lt bs 1; omega) (by have := nb_lt bs 1; omega) (h.ro (j := 1) rfl))) ?_
  refine dq rfl (q_call (vs := [(.slice (cutA A c 4) (8 - 4) (c - 4))]) (v := (.int .u64 ((bN bs 4 4 : Nat) : Int))) rfl ca_34 (fun w h => NumberC w A n c bs (lo := 4) (hi := 8) (h.fact (j := 0) rfl) (k := 4) rfl (by decide) (by omega) (by omega))) ?_
  refine dq rfl (q_call (vs := [(.slice (cutA A c 8) (12 - 8) (c - 8))]) (v := (.int .u64 ((bN bs 8 4 : Nat) : Int))) rfl ca_34 (fun w h => NumberC w A n c bs (lo := 8) (hi := 12) (h.fact (j := 0) rfl) (k := 4) rfl (by decide) (by omega) (by omega))) ?_
  refine dq rfl (q_call (vs := [(.slice (cutA A c 12) (16 - 12) (c - 12))]) (v := (.int .u64 ((bN bs 12 4 : Nat) : Int))) rfl ca_34 (fun w h => NumberC w A n c bs (lo := 12) (hi := 16) (h.fact (j := 0) rfl) (k := 4) rfl (by decide) (by omega) (by omega))) ?_
  refine dq rfl (q_call (vs := [(.slice (cutA A c 16) (20 - 16) (c - 16))]) (v := (.int .u64 ((bN bs 16 4 : Nat) : Int))) rfl ca_34 (fun w h => NumberC w A n c bs (lo := 16) (hi := 20) (h.fact (j := 0) rfl) (k := 4) rfl (by decide) (by omega) (by omega))) ?_
  refine dq rfl (q_call (vs := [(.slice (cutA A c 20) (24 - 20) (c - 20))]) (v := (.int .u64 ((bN bs 20 4 : Nat) : Int))) rfl ca_34 (fun w h => NumberC w A n c bs (lo := 20) (hi := 24) (h.fact (j := 0) rfl) (k := 4) rfl (by decide) (by omega) (by omega))) ?_
  refine QL.nil ?_
  refine RG.step2 44 46 (by kernel_rfl) ?_ ?_
  · refine dop rfl (l_buildSlice (e := 39) (vs := [(0, (.int .u64 (((nb bs 0) / 32 : Nat) : Int))), (1, (.int .u64 (((nb bs 0) &&& 31 : Nat) : Int))), (2, (.int .u64 (((nb bs 1) / 64 : Nat) : Int))), (3, (.int .u64 ((((nb bs 1) / 32) &&& 1 : Nat) : Int))), (4, (.int .u64 ((((nb bs 1) / 16) &&& 1 : Nat) : Int))), (5, (.int .u64 ((((nb bs 1) / 8) &&& 1 : Nat) : Int))), (6, (.int .u64 ((((nb bs 1) / 4) &&& 1 : Nat) : Int))), (7, (.int .u64 ((((nb bs 1) / 2) &&& 1 : Nat) : Int))), (8, (.int .u64 ((((nb bs 1) / 1) &&& 1 : Nat) : Int))), (9, (.int .u64 ((nb bs 2 : Nat) : Int))), (10, (.int .u64 ((bN bs 4 4 : Nat) : Int))), (11, (.int .u64 ((bN bs 8 4 : Nat) : Int))), (12, (.int .u64 ((bN bs 12 4 : Nat) : Int))), (13, (.int .u64 ((bN bs 16 4 : Nat) : Int))), (14, (.int .u64 ((bN bs 20 4 : Nat) : Int)))]) (cs := [(.int .u64 (((nb bs 0) / 32 : Nat) : Int)), (.int .u64 (((nb bs 0) &&& 31 : Nat) : Int)), (.int .u64 (((nb bs 1) / 64 : Nat) : Int)), (.int .u64 ((((nb bs 1) / 32) &&& 1 : Nat) : Int)), (.int .u64 ((((nb bs 1) / 16) &&& 1 : Nat) : Int)), (.int .u64 ((((nb bs 1) / 8) &&& 1 : Nat) : Int)), (.int .u64 ((((nb bs 1) / 4) &&& 1 : Nat) : Int)), (.int .u64 ((((nb bs 1) / 2) &&& 1 : Nat) : Int)), (.int .u64 ((((nb bs 1) / 1) &&& 1 : Nat) : Int)), (.int .u64 ((nb bs 2 : Nat) : Int)), (.int .u64 ((bN bs 4 4 : Nat) : Int)), (.int .u64 ((bN bs 8 4 : Nat) : Int)), (.int .u64 ((bN bs 12 4 : Nat) : Int)), (.int .u64 ((bN bs 16 4 : Nat) : Int)), (.int .u64 ((bN bs 20 4 : Nat) : Int))]) (by decide) rfl (fun _ => by kernel_rfl) fun b65 => ⟨(fun _ h => (h.wk [(0, []), (1, [])] rfl)), ?_⟩)
    refine dtake (f := 2) [45] (by kernel_rfl) (St.closed _ _ _ _) (fun _ h => (h.wk [(0, []), (1, [])] rfl)) (by kernel_rfl) ?_
    refine dq rfl (q_call (vs := [(.slice none 0 0), (.slice (some ⟨b65, 0, none⟩) 15 15)]) (v := (.agg #[(.slice (some ⟨b65, 0, none⟩) 15 15), (.slice none 0 0), (.slice none 0 0), (.slice none 0 0)])) rfl ca_33 (fun w h => layerC w none 0 0 (some ⟨b65, 0, none⟩) 15 15  (St.enter (sp := []) (Kc := []) (bi := []) h rfl rfl rfl))) ?_
    refine QL.nil ?_
    refine RG.step1 46 (by kernel_rfl) ?_
    refine dop rfl (l_alloc (by decide) zero_29 fun b7 => ⟨(fun _ h => (h.wk [(0, []), (1, [])] rfl)), ?_⟩)
    refine RG.step1 47 (by kernel_rfl) ?_
    refine dop rfl (l_storeAgg (b := b7) (off := 0) (j := 3) (vs := [(.slice (some ⟨b65, 0, none⟩) 15 15), (.slice none 0 0), (.slice none 0 0), (.slice none 0 0)]) rfl rfl aggs_29 (by simp [Value.one1]) rfl rfl rfl (Nat.le_of_ble_eq_true rfl) ⟨(fun _ h => (h.wk [(0, []), (1, [])] rfl)), ?_⟩)
    refine dend (by kernel_rfl) ?_
    refine eseq ?_
    refine HT.norm [⟨b2, 29, [some (.slice none 0 0), some (.slice none 0 0), some (.slice none 0 0), some (.slice none 0 0)], true⟩, ⟨b5, 5, [some (.int .u8 ((nb bs 1 : Nat) : Int))], true⟩, (bfd_s3_k0 b65 bs), ⟨b7, 29, [some (.slice (some ⟨b65, 0, none⟩) 15 15), some (.slice none 0 0), some (.slice none 0 0), some (.slice none 0 0)], true⟩] [Byt A n c bs] rfl rfl ?_
    refine HT.seq ?_
    refine HT.seq ?_
    refine HT.plain ?_
    refine sMv rfl rfl ?_
    refine sqS (q_callC (vs := [(.int .i64 ((2 : Nat) : Int))]) (v := (.int .u64 ((((nb bs 1) / 4) &&& 1 : Nat) : Int))) rfl rfl ca_55 (fun w h => bfdBit w 2 4 b5 (nb bs 1) (by have := nb_lt bs 1; omega) (by have := nb_lt bs 1; omega) (by have := nb_lt bs 1; omega) (by have := nb_lt bs 1; omega) (h.ro (j := 1) rfl))) rfl ?_
    refine sqS (q_T (q_eq (p := ((nb bs 1) / 4) &&& 1) (q := 0) rfl rfl) (by have := Nat.div_le_self (nb bs 1) 4; have := zm1 ((nb bs 1) / 4); have := Nat.and_le_left (n := (nb bs 1) / 4) (m := 1); have := Nat.and_le_right (n := (nb bs 1) / 4) (m := 1); omega)) rfl ?_
    refine send ?_
    refine eseq ?_
    refine HT.yes rfl ?_
    refine HT.seq ?_
    refine HT.plain ?_
    refine sqS (q_loadAgg (b := b7) (off := 0) (j := 3) (vs := [(.slice (some ⟨b65, 0, none⟩) 15 15), (.slice none 0 0), (.slice none 0 0), (.slice none 0 0)]) rfl aggs_29 (fun _ h => h) rfl rfl rfl) rfl ?_
    refine sl_ (l_storeAgg (b := b2) (off := 0) (j := 0) (vs := [(.slice (some ⟨b65, 0, none⟩) 15 15), (.slice none 0 0), (.slice none 0 0), (.slice none 0 0)]) rfl rfl aggs_29 (by simp [Value.one1]) rfl rfl rfl (Nat.le_of_ble_eq_true rfl) ?_)
    refine sAs rfl rfl ?_
    refine sAs rfl rfl ?_
    refine send ?_
    refine eseq ?_
    refine HT.norm [⟨b2, 29, [some (.slice (some ⟨b65, 0, none⟩) 15 15), some (.slice none 0 0), some (.slice none 0 0), some (.slice none 0 0)], true⟩, ⟨b5, 5, [some (.int .u8 ((nb bs 1 : Nat) : Int))], true⟩, (bfd_s3_k0 b65 bs), ⟨b7, 29, [some (.slice (some ⟨b65, 0, none⟩) 15 15), some (.slice none 0 0), some (.slice none 0 0), some (.slice none 0 0)], true⟩] [Byt A n c bs] rfl rfl ?_
    refine HT.ret ?_
    refine rt_then ?_
    exact fun a ha w' hw => fin_ ha (resc3 ha Tryz.results41 rfl (ld_ aggs_29 hw (j := 0) rfl rfl (vs := [(.slice (some ⟨b65, 0, none⟩) 15 15), (.slice none 0 0), (.slice none 0 0), (.slice none 0 0)]) rfl) rfl rfl) ⟨b65, rfl, (hw.wk [(2, [])] rfl), fr0⟩
  · refine dop rfl (l_alloc (by decide) zero_29 fun b7 => ⟨(fun _ h => (h.wk [(0, []), (1, [])] rfl)), ?_⟩)
    refine RG.step1 44 (by kernel_rfl) ?_
    refine dop rfl (l_buildSlice (e := 39) (vs := [(0, (.int .u64 (((nb bs 0) / 32 : Nat) : Int))), (1, (.int .u64 (((nb bs 0) &&& 31 : Nat) : Int))), (2, (.int .u64 (((nb bs 1) / 64 : Nat) : Int))), (3, (.int .u64 ((((nb bs 1) / 32) &&& 1 : Nat) : Int))), (4, (.int .u64 ((((nb bs 1) / 16) &&& 1 : Nat) : Int))), (5, (.int .u64 ((((nb bs 1) / 8) &&& 1 : Nat) : Int))), (6, (.int .u64 ((((nb bs 1) / 4) &&& 1 : Nat) : Int))), (7, (.int .u64 ((((nb bs 1) / 2) &&& 1 : Nat) : Int))), (8, (.int .u64 ((((nb bs 1) / 1) &&& 1 : Nat) : Int))), (9, (.int .u64 ((nb bs 2 : Nat) : Int))), (10, (.int .u64 ((bN bs 4 4 : Nat) : Int))), (11, (.int .u64 ((bN bs 8 4 : Nat) : Int))), (12, (.int .u64 ((bN bs 12 4 : Nat) : Int))), (13, (.int .u64 ((bN bs 16 4 : Nat) : Int))), (14, (.int .u64 ((bN bs 20 4 : Nat) : Int)))]) (cs := [(.int .u64 (((nb bs 0) / 32 : Nat) : Int)), (.int .u64 (((nb bs 0) &&& 31 : Nat) : Int)), (.int .u64 (((nb bs 1) / 64 : Nat) : Int)), (.int .u64 ((((nb bs 1) / 32) &&& 1 : Nat) : Int)), (.int .u64 ((((nb bs 1) / 16) &&& 1 : Nat) : Int)), (.int .u64 ((((nb bs 1) / 8) &&& 1 : Nat) : Int)), (.int .u64 ((((nb bs 1) / 4) &&& 1 : Nat) : Int)), (.int .u64 ((((nb bs 1) / 2) &&& 1 : Nat) : Int)), (.int .u64 ((((nb bs 1) / 1) &&& 1 : Nat) : Int)), (.int .u64 ((nb bs 2 : Nat) : Int)), (.int .u64 ((bN bs 4 4 : Nat) : Int)), (.int .u64 ((bN bs 8 4 : Nat) : Int)), (.int .u64 ((bN bs 12 4 : Nat) : Int)), (.int .u64 ((bN bs 16 4 : Nat) : Int)), (.int .u64 ((bN bs 20 4 : Nat) : Int))]) (by decide) rfl (fun _ => by kernel_rfl) fun b65 => ⟨(fun _ h => (h.wk [(0, []), (1, [])] rfl)), ?_⟩)
    refine dtake (f := 1) [45] (by kernel_rfl) (St.closed _ _ _ _) (fun _ h => (h.wk [(0, []), (1, [])] rfl)) (by kernel_rfl) ?_
    refine dq rfl (q_call (vs := [(.slice none 0 0), (.slice (some ⟨b65, 0, none⟩) 15 15)]) (v := (.agg #[(.slice (some ⟨b65, 0, none⟩) 15 15), (.slice none 0 0), (.slice none 0 0), (.slice none 0 0)])) rfl ca_33 (fun w h => layerC w none 0 0 (some ⟨b65, 0, none⟩) 15 15  (St.enter (sp := []) (Kc := []) (bi := []) h rfl rfl rfl))) ?_
    refine QL.nil ?_
    refine RG.step1 47 (by kernel_rfl) ?_
    refine dop rfl (l_storeAgg (b := b7) (off := 0) (j := 2) (vs := [(.slice (some ⟨b65, 0, none⟩) 15 15), (.slice none 0 0), (.slice none 0 0), (.slice none 0 0)]) rfl rfl aggs_29 (by simp [Value.one1]) rfl rfl rfl (Nat.le_of_ble_eq_true rfl) ⟨(fun _ h => (h.wk [(0, []), (1, [])] rfl)), ?_⟩)
    refine dend (by kernel_rfl) ?_
    refine eseq ?_
    refine HT.norm [⟨b2, 29, [some (.slice none 0 0), some (.slice none 0 0), some (.slice none 0 0), some (.slice none 0 0)], true⟩, ⟨b5, 5, [some (.int .u8 ((nb bs 1 : Nat) : Int))], true⟩, ⟨b7, 29, [some (.slice (some ⟨b65, 0, none⟩) 15 15), some (.slice none 0 0), some (.slice none 0 0), some (.slice none 0 0)], true⟩, (bfd_s3_k0 b65 bs)] [Byt A n c bs] rfl rfl ?_
    refine HT.seq ?_
    refine HT.seq ?_
    refine HT.plain ?_
    refine sMv rfl rfl ?_
    refine sqS (q_callC (vs := [(.int .i64 ((2 : Nat) : Int))]) (v := (.int .u64 ((((nb bs 1) / 4) &&& 1 : Nat) : Int))) rfl rfl ca_55 (fun w h => bfdBit w 2 4 b5 (nb bs 1) (by have := nb_lt bs 1; omega) (by have := nb_lt bs 1; omega) (by have := nb_lt bs 1; omega) (by have := nb_lt bs 1; omega) (h.ro (j := 1) rfl))) rfl ?_
    refine sqS (q_T (q_eq (p := ((nb bs 1) / 4) &&& 1) (q := 0) rfl rfl) (by have := Nat.div_le_self (nb bs 1) 4; have := zm1 ((nb bs 1) / 4); have := Nat.and_le_left (n := (nb bs 1) / 4) (m := 1); have := Nat.and_le_right (n := (nb bs 1) / 4) (m := 1); omega)) rfl ?_
    refine send ?_
    refine eseq ?_
    refine HT.yes rfl ?_
    refine HT.seq ?_
    refine HT.plain ?_
    refine sqS (q_loadAgg (b := b7) (off := 0) (j := 2) (vs := [(.slice (some ⟨b65, 0, none⟩) 15 15), (.slice none 0 0), (.slice none 0 0), (.slice none 0 0)]) rfl aggs_29 (fun _ h => h) rfl rfl rfl) rfl ?_
    refine sl_ (l_storeAgg (b := b2) (off := 0) (j := 0) (vs := [(.slice (some ⟨b65, 0, none⟩) 15 15), (.slice none 0 0), (.slice none 0 0), (.slice none 0 0)]) rfl rfl aggs_29 (by simp [Value.one1]) rfl rfl rfl (Nat.le_of_ble_eq_true rfl) ?_)
    refine sAs rfl rfl ?_
    refine sAs rfl rfl ?_
    refine send ?_
    refine eseq ?_
    refine HT.norm [⟨b2, 29, [some (.slice (some ⟨b65, 0, none⟩) 15 15), some (.slice none 0 0), some (.slice none 0 0), some (.slice none 0 0)], true⟩, ⟨b5, 5, [some (.int .u8 ((nb bs 1 : Nat) : Int))], true⟩, ⟨b7, 29, [some (.slice (some ⟨b65, 0, none⟩) 15 15), some (.slice none 0 0), some (.slice none 0 0), some (.slice none 0 0)], true⟩, (bfd_s3_k0 b65 bs)] [Byt A n c bs] rfl rfl ?_
    refine HT.ret ?_
    refine rt_then ?_
    exact fun a ha w' hw => fin_ ha (resc3 ha Tryz.results41 rfl (ld_ aggs_29 hw (j := 0) rfl rfl (vs := [(.slice (some ⟨b65, 0, none⟩) 15 15), (.slice none 0 0), (.slice none 0 0), (.slice none 0 0)]) rfl) rfl rfl) ⟨b65, rfl, (hw.wk [(3, [])] rfl), fr0⟩

theorem bfd_S3 (w : World) (A : Option Addr) (n : Nat) (c : Nat) (bs : List UInt8) (hn : n ≤ 2147483647) (ha : 24 ≤ n) (hb : nb bs 3 = n) (hc : nb bs 1 / 4 % 2 = 0) (hst : St w [] [] [Byt A n c bs] w) : Calls Tryz.prog 26 #[(.string ⟨#[98, 102, 100]⟩), (.slice A n c)] w (SP w (Byt A n c bs) (some (some ⟨[(nb bs 0) / 32, (nb bs 0) &&& 31, (nb bs 1) / 64, ((nb bs 1) / 32) &&& 1, ((nb bs 1) / 16) &&& 1, ((nb bs 1) / 8) &&& 1, ((nb bs 1) / 4) &&& 1, ((nb bs 1) / 2) &&& 1, ((nb bs 1) / 1) &&& 1, nb bs 2, bN bs 4 4, bN bs 8 4, bN bs 12 4, bN bs 16 4, bN bs 20 4], [], [], []⟩))) := by
  have hnc00 : n ≤ c := (hst.fact (j := 0) rfl).2.1
  refine enter (vs := [(.string ⟨#[98, 102, 100]⟩), (.slice A n c)]) Tryz.func26 rfl rfl rfl hst ?_
  refine HT.seq ?_
  refine HT.plain ?_
  refine sl_ (l_alloc (by decide) zero_29 fun b4 => ?_)
  refine sAs rfl rfl ?_
  refine sAs rfl rfl ?_
  refine send ?_
  refine eseq ?_
  refine HT.seq ?_
  refine HT.plain ?_
  refine sl_ (l_makeMap (by decide) fun b13 => ?_)
  refine sl_ (l_insert (es := es0) (ck := 0) rfl rfl rfl Tryz.underlying36 Tryz.underlying9 fi0 ?_)
  refine sl_ (l_insert (es := es1) (ck := 1) rfl rfl rfl Tryz.underlying36 Tryz.underlying9 fi1 ?_)
  refine sl_ (l_insert (es := es2) (ck := 2) rfl rfl rfl Tryz.underlying36 Tryz.underlying9 fi2 ?_)
  refine sl_ (l_insert (es := es3) (ck := 3) rfl rfl rfl Tryz.underlying36 Tryz.underlying9 fi3 ?_)
  refine sl_ (l_insert (es := es4) (ck := 4) rfl rfl rfl Tryz.underlying36 Tryz.underlying9 fi4 ?_)
  refine sl_ (l_insert (es := es5) (ck := 5) rfl rfl rfl Tryz.underlying36 Tryz.underlying9 fi5 ?_)
  refine sl_ (l_insert (es := es6) (ck := 6) rfl rfl rfl Tryz.underlying36 Tryz.underlying9 fi6 ?_)
  refine sl_ (l_insert (es := es7) (ck := 7) rfl rfl rfl Tryz.underlying36 Tryz.underlying9 fi7 ?_)
  refine sl_ (l_insert (es := es8) (ck := 8) rfl rfl rfl Tryz.underlying36 Tryz.underlying9 fi8 ?_)
  refine sl_ (l_insert (es := es9) (ck := 9) rfl rfl rfl Tryz.underlying36 Tryz.underlying9 fi9 ?_)
  refine sl_ (l_insert (es := es10) (ck := 10) rfl rfl rfl Tryz.underlying36 Tryz.underlying9 fi10 ?_)
  refine sl_ (l_insert (es := es11) (ck := 11) rfl rfl rfl Tryz.underlying36 Tryz.underlying9 fi11 ?_)
  refine sl_ (l_insert (es := es12) (ck := 12) rfl rfl rfl Tryz.underlying36 Tryz.underlying9 fi12 ?_)
  refine sl_ (l_insert (es := es13) (ck := 13) rfl rfl rfl Tryz.underlying36 Tryz.underlying9 fi13 ?_)
  refine sl_ (l_insert (es := es14) (ck := 14) rfl rfl rfl Tryz.underlying36 Tryz.underlying9 fi14 ?_)
  refine sl_ (l_insert (es := es15) (ck := 15) rfl rfl rfl Tryz.underlying36 Tryz.underlying9 fi15 ?_)
  refine sl_ (l_insert (es := es16) (ck := 16) rfl rfl rfl Tryz.underlying36 Tryz.underlying9 fi16 ?_)
  refine sl_ (l_insert (es := es17) (ck := 17) rfl rfl rfl Tryz.underlying36 Tryz.underlying9 fi17 ?_)
  refine sl_ (l_insert (es := es18) (ck := 18) rfl rfl rfl Tryz.underlying36 Tryz.underlying9 fi18 ?_)
  refine sl_ (l_insert (es := es19) (ck := 19) rfl rfl rfl Tryz.underlying36 Tryz.underlying9 fi19 ?_)
  refine sl_ (l_insert (es := es20) (ck := 20) rfl rfl rfl Tryz.underlying36 Tryz.underlying9 fi20 ?_)
  refine sq (SM.closed) (q_move rfl) rfl ?_
  refine sq (SM.closed) (q_move rfl) rfl ?_
  refine sq (SM.closed) (q_lookup (es := es21) (i := 15) (v := (.int .i64 ((24 : Nat) : Int))) (fun _ h => h) rfl rfl Tryz.underlying36 Tryz.underlying9 (by kernel_rfl)) rfl ?_
  refine sq (SM.closed) (q_assign rfl) rfl ?_
  refine send ?_
  refine eseq ?_
  refine HT.unmap ?_
  refine HT.seq ?_
  refine HT.seq ?_
  refine HT.plain ?_
  refine sMv rfl rfl ?_
  refine sqS (q_len (len := n) rfl Tryz.underlying22) rfl ?_
  refine sMv rfl rfl ?_
  refine sqS (q_F (q_lt (p := n) (q := 24) rfl rfl) (by omega)) rfl ?_
  refine send ?_
  refine eseq ?_
  refine HT.no rfl ?_
  refine HT.skip ?_
  refine eseq ?_
  refine HT.seq ?_
  refine HT.seq ?_
  refine HT.plain ?_
  refine sMv rfl rfl ?_
  refine send ?_
  refine eseq ?_
  refine HT.block ?_
  refine HT.seq ?_
  refine HT.plain ?_
  refine sqS (q_eqs rfl rfl (r := false) (by kernel_rfl)) rfl ?_
  refine sAs rfl rfl ?_
  refine send ?_
  refine eseq ?_
  refine HT.no rfl ?_
  refine HT.seq ?_
  refine HT.plain ?_
  refine sqS (q_eqs rfl rfl (r := false) (by kernel_rfl)) rfl ?_
  refine sAs rfl rfl ?_
  refine send ?_
  refine eseq ?_
  refine HT.no rfl ?_
  refine HT.seq ?_
  refine HT.plain ?_
  refine sqS (q_eqs rfl rfl (r := false) (by kernel_rfl)) rfl ?_
  refine sAs rfl rfl ?_
  refine send ?_
  refine eseq ?_
  refine HT.no rfl ?_
  refine HT.seq ?_
  refine HT.plain ?_
  refine sqS (q_eqs rfl rfl (r := false) (by kernel_rfl)) rfl ?_
  refine sAs rfl rfl ?_
  refine send ?_
  refine eseq ?_
  refine HT.no rfl ?_
  refine HT.seq ?_
  refine HT.plain ?_
  refine sqS (q_eqs rfl rfl (r := false) (by kernel_rfl)) rfl ?_
  refine sAs rfl rfl ?_
  refine send ?_
  refine eseq ?_
  refine HT.no rfl ?_
  refine HT.seq ?_
  refine HT.plain ?_
  refine sqS (q_eqs rfl rfl (r := false) (by kernel_rfl)) rfl ?_
  refine sAs rfl rfl ?_
  refine send ?_
  refine eseq ?_
  refine HT.no rfl ?_
  refine HT.seq ?_
  refine HT.plain ?_
  refine sqS (q_eqs rfl rfl (r := false) (by kernel_rfl)) rfl ?_
  refine sAs rfl rfl ?_
  refine send ?_
  refine eseq ?_
  refine HT.no rfl ?_
  refine HT.seq ?_
  refine HT.plain ?_
  refine sqS (q_eqs rfl rfl (r := false) (by kernel_rfl)) rfl ?_
  refine sAs rfl rfl ?_
  refine send ?_
  refine eseq ?_
  refine HT.no rfl ?_
  refine HT.seq ?_
  refine HT.plain ?_
  refine sqS (q_eqs rfl rfl (r := false) (by kernel_rfl)) rfl ?_
  refine sAs rfl rfl ?_
  refine send ?_
  refine eseq ?_
  refine HT.no rfl ?_
  refine HT.seq ?_
  refine HT.plain ?_
  refine sqS (q_eqs rfl rfl (r := false) (by kernel_rfl)) rfl ?_
  refine sAs rfl rfl ?_
  refine send ?_
  refine eseq ?_
  refine HT.no rfl ?_
  refine HT.seq ?_
  refine HT.plain ?_
  refine sqS (q_eqs rfl rfl (r := false) (by kernel_rfl)) rfl ?_
  refine sAs rfl rfl ?_
  refine send ?_
  refine eseq ?_
  refine HT.no rfl ?_
  refine HT.seq ?_
  refine HT.plain ?_
  refine sqS (q_eqs rfl rfl (r := false) (by kernel_rfl)) rfl ?_
  refine sAs rfl rfl ?_
  refine send ?_
  refine eseq ?_
  refine HT.no rfl ?_
  refine HT.seq ?_
  refine HT.plain ?_
  refine sqS (q_eqs rfl rfl (r := false) (by kernel_rfl)) rfl ?_
  refine sAs rfl rfl ?_
  refine send ?_
  refine eseq ?_
  refine HT.no rfl ?_
  refine HT.seq ?_
  refine HT.plain ?_
  refine sqS (q_eqs rfl rfl (r := false) (by kernel_rfl)) rfl ?_
  refine sAs rfl rfl ?_
  refine send ?_
  refine eseq ?_
  refine HT.no rfl ?_
  refine HT.seq ?_
  refine HT.plain ?_
  refine sqS (q_eqs rfl rfl (r := false) (by kernel_rfl)) rfl ?_
  refine sAs rfl rfl ?_
  refine send ?_
  refine eseq ?_
  refine HT.no rfl ?_
  refine HT.seq ?_
  refine HT.plain ?_
  refine sqS (q_eqs rfl rfl (r := true) (by kernel_rfl)) rfl ?_
  refine sAs rfl rfl ?_
  refine send ?_
  refine eseq ?_
  refine HT.yes rfl ?_
  refine HT.seq ?_
  refine HT.plain ?_
  refine sMv rfl rfl ?_
  refine sl_ (l_callX1 (vs := [(.slice A n c)]) (Kc := []) (Bc := [Byt A n c bs]) [] [0] [Byt A n c bs] (fun b65 => [⟨b4, 29, [some (.slice none 0 0), some (.slice none 0 0), some (.slice none 0 0), some (.slice none 0 0)], true⟩, ⟨b65, 39, [some (.int .u64 (((nb bs 0) / 32 : Nat) : Int)), some (.int .u64 (((nb bs 0) &&& 31 : Nat) : Int)), some (.int .u64 (((nb bs 1) / 64 : Nat) : Int)), some (.int .u64 ((((nb bs 1) / 32) &&& 1 : Nat) : Int)), some (.int .u64 ((((nb bs 1) / 16) &&& 1 : Nat) : Int)), some (.int .u64 ((((nb bs 1) / 8) &&& 1 : Nat) : Int)), some (.int .u64 ((((nb bs 1) / 4) &&& 1 : Nat) : Int)), some (.int .u64 ((((nb bs 1) / 2) &&& 1 : Nat) : Int)), some (.int .u64 ((((nb bs 1) / 1) &&& 1 : Nat) : Int)), some (.int .u64 ((nb bs 2 : Nat) : Int)), some (.int .u64 ((bN bs 4 4 : Nat) : Int)), some (.int .u64 ((bN bs 8 4 : Nat) : Int)), some (.int .u64 ((bN bs 12 4 : Nat) : Int)), some (.int .u64 ((bN bs 16 4 : Nat) : Int)), some (.int .u64 ((bN bs 20 4 : Nat) : Int))], true⟩]) (fun b65 => [Byt A n c bs]) (by decide) rfl ca_41 (fun _ h => h) rfl rfl rfl rfl (fun w h => bfd_s3 w A n c bs (by omega) (by omega) (by omega) (by omega) h) (fun _ => rfl) (fun _ => rfl) (fun _ => rfl) (fun _ => rfl) fun b65 hf1 he2 => ?_)
  refine sqS (q_extract (vs := [(.agg #[(.slice (some ⟨b65, 0, none⟩) 15 15), (.slice none 0 0), (.slice none 0 0), (.slice none 0 0)]), (.bool true), (.bool true)]) (i := 0) rfl rfl) rfl ?_
  refine sqS (q_extract (vs := [(.agg #[(.slice (some ⟨b65, 0, none⟩) 15 15), (.slice none 0 0), (.slice none 0 0), (.slice none 0 0)]), (.bool true), (.bool true)]) (i := 1) rfl rfl) rfl ?_
  refine sqS (q_extract (vs := [(.agg #[(.slice (some ⟨b65, 0, none⟩) 15 15), (.slice none 0 0), (.slice none 0 0), (.slice none 0 0)]), (.bool true), (.bool true)]) (i := 2) rfl rfl) rfl ?_
  refine sl_ (l_storeAgg (b := b4) (off := 0) (j := 0) (vs := [(.slice (some ⟨b65, 0, none⟩) 15 15), (.slice none 0 0), (.slice none 0 0), (.slice none 0 0)]) rfl rfl aggs_29 (by simp [Value.one1]) rfl rfl rfl (Nat.le_of_ble_eq_true rfl) ?_)
  refine sAs rfl rfl ?_
  refine sAs rfl rfl ?_
  refine send ?_
  refine eseq ?_
  refine HT.ret ?_
  refine rt_in ?_
  refine rt_then ?_
  exact fun a ha w' hw => fin_ ha (resc3 ha Tryz.results26 rfl (ld_ aggs_29 hw (j := 0) rfl rfl (vs := [(.slice (some ⟨b65, 0, none⟩) 15 15), (.slice none 0 0), (.slice none 0 0), (.slice none 0 0)]) rfl) rfl rfl) ⟨⟨⟨some ⟨b65, 0, none⟩, 15, 15, [(nb bs 0) / 32, (nb bs 0) &&& 31, (nb bs 1) / 64, ((nb bs 1) / 32) &&& 1, ((nb bs 1) / 16) &&& 1, ((nb bs 1) / 8) &&& 1, ((nb bs 1) / 4) &&& 1, ((nb bs 1) / 2) &&& 1, ((nb bs 1) / 1) &&& 1, nb bs 2, bN bs 4 4, bN bs 8 4, bN bs 12 4, bN bs 16 4, bN bs 20 4]⟩, none, 0, 0, [], none, 0, 0, [], ⟨none, 0, 0, []⟩⟩, rfl, hw.pres, Own.lay (all1 (Own.cel hw (j := 1) (sz := 1) (r := []) rfl rfl rfl rfl (Nat.le_refl _)) (all1 (Own.nilCel 1) (all1 (Own.nilCel 2) (all1 Own.nilByt all0)))), rfl⟩

abbrev bfd_s4_k0 (b65 : Nat) (bs : List UInt8) : Kb := ⟨b65, 39, [some (.int .u64 (((nb bs 0) / 32 : Nat) : Int)), some (.int .u64 (((nb bs 0) &&& 31 : Nat) : Int)), some (.int .u64 (((nb bs 1) / 64 : Nat) : Int)), some (.int .u64 ((((nb bs 1) / 32) &&& 1 : Nat) : Int)), some (.int .u64 ((((nb bs 1) / 16) &&& 1 : Nat) : Int)), some (.int .u64 ((((nb bs 1) / 8) &&& 1 : Nat) : Int)), some (.int .u64 ((((nb bs 1) / 4) &&& 1 : Nat) : Int)), some (.int .u64 ((((nb bs 1) / 2) &&& 1 : Nat) : Int)), some (.int .u64 ((((nb bs 1) / 1) &&& 1 : Nat) : Int)), some (.int .u64 ((nb bs 2 : Nat) : Int)), some (.int .u64 ((bN bs 4 4 : Nat) : Int)), some (.int .u64 ((bN bs 8 4 : Nat) : Int)), some (.int .u64 ((bN bs 12 4 : Nat) : Int)), some (.int .u64 ((bN bs 16 4 : Nat) : Int)), some (.int .u64 ((bN bs 20 4 : Nat) : Int))], true⟩

theorem bfd_s4 (w : World) (A : Option Addr) (n : Nat) (c : Nat) (bs : List UInt8) (hn : n ≤ 2147483647) (ha : 24 ≤ n) (hb : nb bs 3 = n) (hc : nb bs 1 / 4 % 2 = 1) (hd : n < 28) (hst : St w [] [] [Byt A n c bs] w) : Calls Tryz.prog 41 #[(.slice A n c)] w (CP1 w [] [Byt A n c bs] (fun b65 => (.tuple #[(.agg #[(.slice (some ⟨b65, 0, none⟩) 15 15), (.slice none 0 0), (.slice none 0 0), (.slice none 0 0)]), (.bool false), (.bool false)])) (fun b65 => [(bfd_s4_k0 b65 bs)]) (fun b65 => [])) := by
  have hnc00 : n ≤ c := (hst.fact (j := 0) rfl).2.1
  refine enter (vs := [(.slice A n c)]) Tryz.func41 rfl rfl rfl hst ?_
  refine HT.seq ?_
  refine HT.plain ?_
  refine sl_ (l_alloc (by decide) zero_29 fun b2 => ?_)
  refine sAs rfl rfl ?_
  refine sAs rfl rfl ?_
  refine send ?_
  refine eseq ?_
  refine HT.norm [⟨b2, 29, [some (.slice none 0 0), some (.slice none 0 0), some (.slice none 0 0), some (.slice none 0 0)], true⟩] [Byt A n c bs] rfl rfl ?_
  refine HT.seq ?_
  refine HT.seq ?_
  refine HT.plain ?_
  refine sMv rfl rfl ?_
  refine sqS (q_index (i := 3) (j := 0) rfl rfl Tryz.underlying22 nagg_5 (fun _ h => h) rfl (by omega)) rfl ?_
  refine sqS (q_byte (i := 3) (j := 0) rfl nagg_5 (fun _ h => h) rfl (by omega)) rfl ?_
  refine sqS (q_convn (p := nb bs 3) rfl Tryz.underlying5 Tryz.underlying3 (show nb bs 3 < 9223372036854775808 by have := nb_lt bs 3; omega)) rfl ?_
  refine sMv rfl rfl ?_
  refine sqS (q_len (len := n) rfl Tryz.underlying22) rfl ?_
  refine sqS (q_F (q_ne (p := nb bs 3) (q := n) rfl rfl) (by have := nb_lt bs 3; omega)) rfl ?_
  refine send ?_
  refine eseq ?_
  refine HT.no rfl ?_
  refine HT.skip ?_
  refine eseq ?_
  refine HT.seq ?_
  refine HT.plain ?_
  refine sMv rfl rfl ?_
  refine sqS (q_index (i := 1) (j := 0) rfl rfl Tryz.underlying22 nagg_5 (fun _ h => h) rfl (by omega)) rfl ?_
  refine sqS (q_byte (i := 1) (j := 0) rfl nagg_5 (fun _ h => h) rfl (by omega)) rfl ?_
  refine sl_ (l_alloc (by decide) zero_5 fun b5 => ?_)
  refine sl_ (l_store (b := b5) (off := 0) (j := 1) rfl rfl nagg_5 rfl rfl rfl rfl (dlt rfl) ?_)
  refine send ?_
  refine eseq ?_
  refine HT.norm [⟨b2, 29, [some (.slice none 0 0), some (.slice none 0 0), some (.slice none 0 0), some (.slice none 0 0)], true⟩, ⟨b5, 5, [some (.int .u8 ((nb bs 1 : Nat) : Int))], true⟩] [Byt A n c bs] rfl rfl ?_
  refine HT.seq ?_
  refine HT.plain ?_
  refine sqS (q_func (vs := [(.pointer (some ⟨b5, 0, none⟩))]) rfl) rfl ?_
  refine sAs rfl rfl ?_
  refine send ?_
  refine eseq ?_
  refine HT.seq ?_
  refine HT.drawnS mixed (St.closed _ _ _ _) ?_
  refine dtake (f := 15) [0, 1, 2, 3, 4, 5, 6, 7, 8, 9, 10, 11, 12, 13, 15, 17, 19, 21, 23, 25, 26, 27, 28, 29, 30, 32, 33, 35, 36, 38, 39, 41, 42] (by kernel_rfl) (St.closed _ _ _ _) (fun _ h => h) (by kernel_rfl) ?_
  refine dq rfl (q_move rfl) ?_
  refine dq rfl (q_index (i := 0) (j := 0) rfl rfl Tryz.underlying22 nagg_5 (fun _ h => h) rfl (by omega)) ?_
  refine dq rfl (q_byte (i := 0) (j := 0) rfl nagg_5 (fun _ h => h) rfl (by omega)) ?_
  refine dq rfl (q_shr (p := nb bs 0) (e := 5) (N := 32) rfl rfl (by decide) rfl) ?_
  refine dq rfl (q_convn (p := (nb bs 0) / 32) rfl Tryz.underlying5 Tryz.underlying39 (show (nb bs 0) / 32 < 18446744073709551616 by have := nb_lt bs 0; omega)) ?_
  refine dq rfl (q_move rfl) ?_
  refine dq rfl (q_index (i := 0) (j := 0) rfl rfl Tryz.underlying22 nagg_5 (fun _ h => h) rfl (by omega)) ?_
  refine dq rfl (q_byte (i := 0) (j := 0) rfl nagg_5 (fun _ h => h) rfl (by omega)) ?_
  refine dq rfl (q_and (p := nb bs 0) (q := 31) rfl rfl rfl (show nb bs 0 < 256 by have := nb_lt bs 0; omega) (by decide)) ?_
  refine dq rfl (q_convn (p := (nb bs 0) &&& 31) rfl Tryz.underlying5 Tryz.underlying39 (show (nb bs 0) &&& 31 < 18446744073709551616 by have := nb_lt bs 0; have := zm31 (nb bs 0); have := Nat.and_le_left (n := nb bs 0) (m := 31); have := Nat.and_le_right (n := nb bs 0) (m := 31); omega)) ?_
  refine dq rfl (q_load (b := b5) (off := 0) (j := 1) rfl nagg_5 (fun _ h => h) rfl rfl rfl) ?_
  refine dq rfl (q_shr (p := nb bs 1) (e := 6) (N := 64) rfl rfl (by decide) rfl) ?_
  refine dq rfl (q_convn (p := (nb bs 1) / 64) rfl Tryz.underlying5 Tryz.underlying39 (show (nb bs 1) / 64 < 18446744073709551616 by have := nb_lt bs 1; omega)) ?_
  refine dq rfl (q_move rfl) ?_
  refine dq rfl (q_move rfl) ?_
  refine dq rfl (q_move rfl) ?_
  refine dq rfl (q_move rfl) ?_
  refine dq rfl (q_move rfl) ?_
  refine dq rfl (q_move rfl) ?_
  refine dq rfl (q_move rfl) ?_
  refine dq rfl (q_index (i := 2) (j := 0) rfl rfl Tryz.underlying22 nagg_5 (fun _ h => h) rfl (by omega)) ?_
  refine dq rfl (q_byte (i := 2) (j := 0) rfl nagg_5 (fun _ h => h) rfl (by omega)) ?_
  refine dq rfl (q_convn (p := nb bs 2) rfl Tryz.underlying5 Tryz.underlying39 (show nb bs 2 < 18446744073709551616 by have := nb_lt bs 2; omega)) ?_
  refine dq rfl (q_move rfl) ?_
  refine dq rfl (q_slice (lo := 4) (hi := 8) rfl Tryz.underlying22 nagg_5 (.inr ⟨_, _, rfl, rfl⟩) (.inr ⟨_, _, rfl, rfl⟩) (by omega) (by omega)) ?_
  refine dq rfl (q_move rfl) ?_
  refine dq rfl (q_slice (lo := 8) (hi := 12) rfl Tryz.underlying22 nagg_5 (.inr ⟨_, _, rfl, rfl⟩) (.inr ⟨_, _, rfl, rfl⟩) (by omega) (by omega)) ?_
  refine dq rfl (q_move rfl) ?_
  refine dq rfl (q_slice (lo := 12) (hi := 16) rfl Tryz.underlying22 nagg_5 (.inr ⟨_, _, rfl, rfl⟩) (.inr ⟨_, _, rfl, rfl⟩) (by omega) (by omega)) ?_
  refine dq rfl (q_move rfl) ?_
  refine dq rfl (q_slice (lo := 16) (hi := 20) rfl Tryz.underlying22 nagg_5 (.inr ⟨_, _, rfl, rfl⟩) (.inr ⟨_, _, rfl, rfl⟩) (by omega) (by omega)) ?_
  refine dq rfl (q_move rfl) ?_
  refine dq rfl (q_slice (lo := 20) (hi := 24) rfl Tryz.underlying22 nagg_5 (.inr ⟨_, _, rfl, rfl⟩) (.inr ⟨_, _, rfl, rfl⟩) (by omega) (by omega)) ?_
  refine QL.nil ?_
  refine dtake (f := 4) [14, 16, 18, 20, 22, 24, 31, 34, 37, 40, 43] (by kernel_rfl) (St.closed _ _ _ _) (fun _ h => h) (by kernel_rfl) ?_
  refine dq rfl (q_callC (vs := [(.int .i64 ((5 : Nat) : Int))]) (v := (.int .u64 ((((nb bs 1) / 32) &&& 1 : Nat) : Int))) rfl rfl ca_55 (fun w h => bfdBit w 5 32 b5 (nb bs 1) (by have := nb_lt bs 1; omega) (by have := nb_lt bs 1; omega) (by have := nb_lt bs 1; omega) (by have := nb_lt bs 1; omega) (h.ro (j := 1) rfl))) ?_
  refine dq rfl (q_callC (vs := [(.int .i64 ((4 : Nat) : Int))]) (v := (.int .u64 ((((nb bs 1) / 16) &&& 1 : Nat) : Int))) rfl rfl ca_55 (fun w h => bfdBit w 4 16 b5 (nb bs 1) (by have := nb_lt bs 1; omega) (by have := nb_lt bs 1; omega) (by have := nb_lt bs 1; omega) (by have := nb_lt bs 1; omega) (h.ro (j := 1) rfl))) ?_
  refine dq rfl (q_callC (vs := [(.int .i64 ((3 : Nat) : Int))]) (v := (.int .u64 ((((nb bs 1) / 8) &&& 1 : Nat) : Int))) rfl rfl ca_55 (fun w h => bfdBit w 3 8 b5 (nb bs 1) (by have := nb_lt bs 1; omega) (by have := nb_lt bs 1; omega) (by have := nb_lt bs 1; omega) (by have := nb_lt bs 1; omega) (h.ro (j := 1) rfl))) ?_
  refine dq rfl (q_callC (vs := [(.int .i64 ((2 : Nat) : Int))]) (v := (.int .u64 ((((nb bs 1) / 4) &&& 1 : Nat) : Int))) rfl rfl ca_55 (fun w h => bfdBit w 2 4 b5 (nb bs 1) (by have := nb_lt bs 1; omega) (by have := nb_lt bs 1; omega) (by have := nb_lt bs 1; omega) (by have := nb_lt bs 1; omega) (h.ro (j := 1) rfl))) ?_
  refine dq rfl (q_callC (vs := [(.int .i64 ((1 : Nat) : Int))]) (v := (.int .u64 ((((nb bs 1) / 2) &&& 1 : Nat) : Int))) rfl rfl ca_55 (fun w h => bfdBit w 1 2 b5 (nb bs 1) (by have := nb_lt bs 1; omega) (by have := nb_lt bs 1; omega) (by have := nb_lt bs 1; omega) (by have := nb_lt bs 1; omega) (h.ro (j := 1) rfl))) ?_
  refine dq rfl (q_callC (vs := [(.int .i64 ((0 : Nat) : Int))]) (v := (.int .u64 ((((nb bs 1) / 1) &&& 1 : Nat) : Int))) rfl rfl ca_55 (fun w h => bfdBit w 0 1 b5 (nb bs 1) (by have := nb_lt bs 1; omega) (by have := nb_lt bs 1; omega) (by have := nb_lt bs 1; omega) (by have := nb_lt bs 1; omega) (h.ro (j := 1) rfl))) ?_
  refine dq rfl (q_call (vs := [(.slice (cutA A c 4) (8 - 4) (c - 4))]) (v := (.int .u64 ((bN bs 4 4 : Nat) : Int))) rfl ca_34 (fun w h => NumberC w A n c bs (lo := 4) (hi := 8) (h.fact (j := 0) rfl) (k := 4) rfl (by decide) (by omega) (by omega))) ?_
  refine dq rfl (q_call (vs := [(.slice (cutA A c 8) (12 - 8) (c - 8))]) (v := (.int .u64 ((bN bs 8 4 : Nat) : Int))) rfl ca_34 (fun w h => NumberC w A n c bs (lo := 8) (hi := 12) (h.fact (j := 0) rfl) (k := 4) rfl (by decide) (by omega) (by omega))) ?_
  refine dq rfl (q_call (vs := [(.slice (cutA A c 12) (16 - 12) (c - 12))]) (v := (.int .u64 ((bN bs 12 4 : Nat) : Int))) rfl ca_34 (fun w h => NumberC w A n c bs (lo := 12) (hi := 16) (h.fact (j := 0) rfl) (k := 4) rfl (by decide) (by omega) (by omega))) ?_
  refine dq rfl (q_call (vs := [(.slice (cutA A c 16) (20 - 16) (c - 16))]) (v := (.int .u64 ((bN bs 16 4 : Nat) : Int))) rfl ca_34 (fun w h => NumberC w A n c bs (lo := 16) (hi := 20) (h.fact (j := 0) rfl) (k := 4) rfl (by decide) (by omega) (by omega))) ?_
  refine dq rfl (q_call (vs := [(.slice (cutA A c 20) (24 - 20) (c - 20))]) (v := (.int .u64 ((bN bs 20 4 : Nat) : Int))) rfl ca_34 (fun w h => NumberC w A n c bs (lo := 20) (hi := 24) (h.fact (j := 0) rfl) (k := 4) rfl (by decide) (by omega) (by omega))) ?_
  refine QL.nil ?_
  refine RG.step2 44 46 (by kernel_rfl) ?_ ?_
  · refine dop rfl (l_buildSlice (e := 39) (vs := [(0, (.int .u64 (((nb bs 0) / 32 : Nat) : Int))), (1, (.int .u64 (((nb bs 0) &&& 31 : Nat) : Int))), (2, (.int .u64 (((nb bs 1) / 64 : Nat) : Int))), (3, (.int .u64 ((((nb bs 1) / 32) &&& 1 : Nat) : Int))), (4, (.int .u64 ((((nb bs 1) / 16) &&& 1 : Nat) : Int))), (5, (.int .u64 ((((nb bs 1) / 8) &&& 1 : Nat) : Int))), (6, (.int .u64 ((((nb bs 1) / 4) &&& 1 : Nat) : Int))), (7, (.int .u64 ((((nb bs 1) / 2) &&& 1 : Nat) : Int))), (8, (.int .u64 ((((nb bs 1) / 1) &&& 1 : Nat) : Int))), (9, (.int .u64 ((nb bs 2 : Nat) : Int))), (10, (.int .u64 ((bN bs 4 4 : Nat) : Int))), (11, (.int .u64 ((bN bs 8 4 : Nat) : Int))), (12, (.int .u64 ((bN bs 12 4 : Nat) : Int))), (13, (.int .u64 ((bN bs 16 4 : Nat) : Int))), (14, (.int .u64 ((bN bs 20 4 : Nat) : Int)))]) (cs := [(.int .u64 (((nb bs 0) / 32 : Nat) : Int)), (.int .u64 (((nb bs 0) &&& 31 : Nat) : Int)), (.int .u64 (((nb bs 1) / 64 : Nat) : Int)), (.int .u64 ((((nb bs 1) / 32) &&& 1 : Nat) : Int)), (.int .u64 ((((nb bs 1) / 16) &&& 1 : Nat) : Int)), (.int .u64 ((((nb bs 1) / 8) &&& 1 : Nat) : Int)), (.int .u64 ((((nb bs 1) / 4) &&& 1 : Nat) : Int)), (.int .u64 ((((nb bs 1) / 2) &&& 1 : Nat) : Int)), (.int .u64 ((((nb bs 1) / 1) &&& 1 : Nat) : Int)), (.int .u64 ((nb bs 2 : Nat) : Int)), (.int .u64 ((bN bs 4 4 : Nat) : Int)), (.int .u64 ((bN bs 8 4 : Nat) : Int)), (.int .u64 ((bN bs 12 4 : Nat) : Int)), (.int .u64 ((bN bs 16 4 : Nat) : Int)), (.int .u64 ((bN bs 20 4 : Nat) : Int))]) (by decide) rfl (fun _ => by kernel_rfl) fun b65 => ⟨(fun _ h => (h.wk [(0, []), (1, [])] rfl)), ?_⟩)
    refine dtake (f := 2) [45] (by kernel_rfl) (St.closed _ _ _ _) (fun _ h => (h.wk [(0, []), (1, [])] rfl)) (by kernel_rfl) ?_
    refine dq rfl (q_call (vs := [(.slice none 0 0), (.slice (some ⟨b65, 0, none⟩) 15 15)]) (v := (.agg #[(.slice (some ⟨b65, 0, none⟩) 15 15), (.slice none 0 0), (.slice none 0 0), (.slice none 0 0)])) rfl ca_33 (fun w h => layerC w none 0 0 (some ⟨b65, 0, none⟩) 15 15  (St.enter (sp := []) (Kc := []) (bi := []) h rfl rfl rfl))) ?_
    refine QL.nil ?_
    refine RG.step1 46 (by kernel_rfl) ?_
    refine dop rfl (l_alloc (by decide) zero_29 fun b7 => ⟨(fun _ h => (h.wk [(0, []), (1, [])] rfl)), ?_⟩)
    refine RG.step1 47 (by kernel_rfl) ?_
    refine dop rfl (l_storeAgg (b := b7) (off := 0) (j := 3) (vs := [(.slice (some ⟨b65, 0, none⟩) 15 15), (.slice none 0 0), (.slice none 0 0), (.slice none 0 0)]) rfl rfl aggs_29 (by simp [Value.one1]) rfl rfl rfl (Nat.le_of_ble_eq_true rfl) ⟨(fun _ h => (h.wk [(0, []), (1, [])] rfl)), ?_⟩)
    refine dend (by kernel_rfl) ?_
    refine eseq ?_
    refine HT.norm [⟨b2, 29, [some (.slice none 0 0), some (.slice none 0 0), some (.slice none 0 0), some (.slice none 0 0)], true⟩, ⟨b5, 5, [some (.int .u8 ((nb bs 1 : Nat) : Int))], true⟩, (bfd_s4_k0 b65 bs), ⟨b7, 29, [some (.slice (some ⟨b65, 0, none⟩) 15 15), some (.slice none 0 0), some (.slice none 0 0), some (.slice none 0 0)], true⟩] [Byt A n c bs] rfl rfl ?_
    refine HT.seq ?_
    refine HT.seq ?_
    refine HT.plain ?_
    refine sMv rfl rfl ?_
    refine sqS (q_callC (vs := [(.int .i64 ((2 : Nat) : Int))]) (v := (.int .u64 ((((nb bs 1) / 4) &&& 1 : Nat) : Int))) rfl rfl ca_55 (fun w h => bfdBit w 2 4 b5 (nb bs 1) (by have := nb_lt bs 1; omega) (by have := nb_lt bs 1; omega) (by have := nb_lt bs 1; omega) (by have := nb_lt bs 1; omega) (h.ro (j := 1) rfl))) rfl ?_
    refine sqS (q_F (q_eq (p := ((nb bs 1) / 4) &&& 1) (q := 0) rfl rfl) (by have := Nat.div_le_self (nb bs 1) 4; have := zm1 ((nb bs 1) / 4); have := Nat.and_le_left (n := (nb bs 1) / 4) (m := 1); have := Nat.and_le_right (n := (nb bs 1) / 4) (m := 1); omega)) rfl ?_
    refine send ?_
    refine eseq ?_
    refine HT.no rfl ?_
    refine HT.skip ?_
    refine eseq ?_
    refine HT.seq ?_
    refine HT.seq ?_
    refine HT.plain ?_
    refine sMv rfl rfl ?_
    refine sqS (q_len (len := n) rfl Tryz.underlying22) rfl ?_
    refine sqS (q_T (q_lt (p := n) (q := 28) rfl rfl) (by omega)) rfl ?_
    refine sMv rfl rfl ?_
    refine sskip rfl rfl ?_
    refine sskip rfl rfl ?_
    refine sskip rfl rfl ?_
    refine sskip rfl rfl ?_
    refine sskip rfl rfl ?_
    refine sskip rfl rfl ?_
    refine sskip rfl rfl ?_
    refine sskip rfl rfl ?_
    refine sqS (q_pick rfl (fun _ => rfl) (fun h => nomatch h)) rfl ?_
    refine send ?_
    refine eseq ?_
    refine HT.yes rfl ?_
    refine HT.seq ?_
    refine HT.plain ?_
    refine sqS (q_loadAgg (b := b7) (off := 0) (j := 3) (vs := [(.slice (some ⟨b65, 0, none⟩) 15 15), (.slice none 0 0), (.slice none 0 0), (.slice none 0 0)]) rfl aggs_29 (fun _ h => h) rfl rfl rfl) rfl ?_
    refine sl_ (l_storeAgg (b := b2) (off := 0) (j := 0) (vs := [(.slice (some ⟨b65, 0, none⟩) 15 15), (.slice none 0 0), (.slice none 0 0), (.slice none 0 0)]) rfl rfl aggs_29 (by simp [Value.one1]) rfl rfl rfl (Nat.le_of_ble_eq_true rfl) ?_)
    refine sAs rfl rfl ?_
    refine sAs rfl rfl ?_
    refine send ?_
    refine eseq ?_
    refine HT.norm [⟨b2, 29, [some (.slice (some ⟨b65, 0, none⟩) 15 15), some (.slice none 0 0), some (.slice none 0 0), some (.slice none 0 0)], true⟩, ⟨b5, 5, [some (.int .u8 ((nb bs 1 : Nat) : Int))], true⟩, (bfd_s4_k0 b65 bs), ⟨b7, 29, [some (.slice (some ⟨b65, 0, none⟩) 15 15), some (.slice none 0 0), some (.slice none 0 0), some (.slice none 0 0)], true⟩] [Byt A n c bs] rfl rfl ?_
    refine HT.ret ?_
    refine rt_then ?_
    exact fun a ha w' hw => fin_ ha (resc3 ha Tryz.results41 rfl (ld_ aggs_29 hw (j := 0) rfl rfl (vs := [(.slice (some ⟨b65, 0, none⟩) 15 15), (.slice none 0 0), (.slice none 0 0), (.slice none 0 0)]) rfl) rfl rfl) ⟨b65, rfl, (hw.wk [(2, [])] rfl), fr0⟩
  · refine dop rfl (l_alloc (by decide) zero_29 fun b7 => ⟨(fun _ h => (h.wk [(0, []), (1, [])] rfl)), ?_⟩)
    refine RG.step1 44 (by kernel_rfl) ?_
    refine dop rfl (l_buildSlice (e := 39) (vs := [(0, (.int .u64 (((nb bs 0) / 32 : Nat) : Int))), (1, (.int .u64 (((nb bs 0) &&& 31 : Nat) : Int))), (2, (.int .u64 (((nb bs 1) / 64 : Nat) : Int))), (3, (.int .u64 ((((nb bs 1) / 32) &&& 1 : Nat) : Int))), (4, (.int .u64 ((((nb bs 1) / 16) &&& 1 : Nat) : Int))), (5, (.int .u64 ((((nb bs 1) / 8) &&& 1 : Nat) : Int))), (6, (.int .u64 ((((nb bs 1) / 4) &&& 1 : Nat) : Int))), (7, (.int .u64 ((((nb bs 1) / 2) &&& 1 : Nat) : Int))), (8, (.int .u64 ((((nb bs 1) / 1) &&& 1 : Nat) : Int))), (9, (.int .u64 ((nb bs 2 : Nat) : Int))), (10, (.int .u64 ((bN bs 4 4 : Nat) : Int))), (11, (.int .u64 ((bN bs 8 4 : Nat) : Int))), (12, (.int .u64 ((bN bs 12 4 : Nat) : Int))), (13, (.int .u64 ((bN bs 16 4 : Nat) : Int))), (14, (.int .u64 ((bN bs 20 4 : Nat) : Int)))]) (cs := [(.int .u64 (((nb bs 0) / 32 : Nat) : Int)), (.int .u64 (((nb bs 0) &&& 31 : Nat) : Int)), (.int .u64 (((nb bs 1) / 64 : Nat) : Int)), (.int .u64 ((((nb bs 1) / 32) &&& 1 : Nat) : Int)), (.int .u64 ((((nb bs 1) / 16) &&& 1 : Nat) : Int)), (.int .u64 ((((nb bs 1) / 8) &&& 1 : Nat) : Int)), (.int .u64 ((((nb bs 1) / 4) &&& 1 : Nat) : Int)), (.int .u64 ((((nb bs 1) / 2) &&& 1 : Nat) : Int)), (.int .u64 ((((nb bs 1) / 1) &&& 1 : Nat) : Int)), (.int .u64 ((nb bs 2 : Nat) : Int)), (.int .u64 ((bN bs 4 4 : Nat) : Int)), (.int .u64 ((bN bs 8 4 : Nat) : Int)), (.int .u64 ((bN bs 12 4 : Nat) : Int)), (.int .u64 ((bN bs 16 4 : Nat) : Int)), (.int .u64 ((bN bs 20 4 : Nat) : Int))]) (by decide) rfl (fun _ => by kernel_rfl) fun b65 => ⟨(fun _ h => (h.wk [(0, []), (1, [])] rfl)), ?_⟩)
    refine dtake (f := 1) [45] (by kernel_rfl) (St.closed _ _ _ _) (fun _ h => (h.wk [(0, []), (1, [])] rfl)) (by kernel_rfl) ?_
    refine dq rfl (q_call (vs := [(.slice none 0 0), (.slice (some ⟨b65, 0, none⟩) 15 15)]) (v := (.agg #[(.slice (some ⟨b65, 0, none⟩) 15 15), (.slice none 0 0), (.slice none 0 0), (.slice none 0 0)])) rfl ca_33 (fun w h => layerC w none 0 0 (some ⟨b65, 0, none⟩) 15 15  (St.enter (sp := []) (Kc := []) (bi := []) h rfl rfl rfl))) ?_
    refine QL.nil ?_
    refine RG.step1 47 (by kernel_rfl) ?_
    refine dop rfl (l_storeAgg (b := b7) (off := 0) (j := 2) (vs := [(.slice (some ⟨b65, 0, none⟩) 15 15), (.slice none 0 0), (.slice none 0 0), (.slice none 0 0)]) rfl rfl aggs_29 (by simp [Value.one1]) rfl rfl rfl (Nat.le_of_ble_eq_true rfl) ⟨(fun _ h => (h.wk [(0, []), (1, [])] rfl)), ?_⟩)
    refine dend (by kernel_rfl) ?_
    refine eseq ?_
    refine HT.norm [⟨b2, 29, [some (.slice none 0 0), some (.slice none 0 0), some (.slice none 0 0), some (.slice none 0 0)], true⟩, ⟨b5, 5, [some (.int .u8 ((nb bs 1 : Nat) : Int))], true⟩, ⟨b7, 29, [some (.slice (some ⟨b65, 0, none⟩) 15 15), some (.slice none 0 0), some (.slice none 0 0), some (.slice none 0 0)], true⟩, (bfd_s4_k0 b65 bs)] [Byt A n c bs] rfl rfl ?_
    refine HT.seq ?_
    refine HT.seq ?_
    refine HT.plain ?_
    refine sMv rfl rfl ?_
    refine sqS (q_callC (vs := [(.int .i64 ((2 : Nat) : Int))]) (v := (.int .u64 ((((nb bs 1) / 4) &&& 1 : Nat) : Int))) rfl rfl ca_55 (fun w h => bfdBit w 2 4 b5 (nb bs 1) (by have := nb_lt bs 1; omega) (by have := nb_lt bs 1; omega) (by have := nb_lt bs 1; omega) (by have := nb_lt bs 1; omega) (h.ro (j := 1) rfl))) rfl ?_
    refine sqS (q_F (q_eq (p := ((nb bs 1) / 4) &&& 1) (q := 0) rfl rfl) (by have := Nat.div_le_self (nb bs 1) 4; have := zm1 ((nb bs 1) / 4); have := Nat.and_le_left (n := (nb bs 1) / 4) (m := 1); have := Nat.and_le_right (n := (nb bs 1) / 4) (m := 1); omega)) rfl ?_
    refine send ?_
    refine eseq ?_
    refine HT.no rfl ?_
    refine HT.skip ?_
    refine eseq ?_
    refine HT.seq ?_
    refine HT.seq ?_
    refine HT.plain ?_
    refine sMv rfl rfl ?_
    refine sqS (q_len (len := n) rfl Tryz.underlying22) rfl ?_
    refine sqS (q_T (q_lt (p := n) (q := 28) rfl rfl) (by omega)) rfl ?_
    refine sMv rfl rfl ?_
    refine sskip rfl rfl ?_
    refine sskip rfl rfl ?_
    refine sskip rfl rfl ?_
    refine sskip rfl rfl ?_
    refine sskip rfl rfl ?_
    refine sskip rfl rfl ?_
    refine sskip rfl rfl ?_
    refine sskip rfl rfl ?_
    refine sqS (q_pick rfl (fun _ => rfl) (fun h => nomatch h)) rfl ?_
    refine send ?_
    refine eseq ?_
    refine HT.yes rfl ?_
    refine HT.seq ?_
    refine HT.plain ?_
    refine sqS (q_loadAgg (b := b7) (off := 0) (j := 2) (vs := [(.slice (some ⟨b65, 0, none⟩) 15 15), (.slice none 0 0), (.slice none 0 0), (.slice none 0 0)]) rfl aggs_29 (fun _ h => h) rfl rfl rfl) rfl ?_
    refine sl_ (l_storeAgg (b := b2) (off := 0) (j := 0) (vs := [(.slice (some ⟨b65, 0, none⟩) 15 15), (.slice none 0 0), (.slice none 0 0), (.slice none 0 0)]) rfl rfl aggs_29 (by simp [Value.one1]) rfl rfl rfl (Nat.le_of_ble_eq_true rfl) ?_)
    refine sAs rfl rfl ?_
    refine sAs rfl rfl ?_
    refine send ?_
    refine eseq ?_
    refine HT.norm [⟨b2, 29, [some (.slice (some ⟨b65, 0, none⟩) 15 15), some (.slice none 0 0), some (.slice none 0 0), some (.slice none 0 0)], true⟩, ⟨b5, 5, [some (.int .u8 ((nb bs 1 : Nat) : Int))], true⟩, ⟨b7, 29, [some (.slice (some ⟨b65, 0, none⟩) 15 15), some (.slice none 0 0), some (.slice none 0 0), some (.slice none 0 0)], true⟩, (bfd_s4_k0 b65 bs)] [Byt A n c bs] rfl rfl ?_
    refine HT.ret ?_
    refine rt_then ?_
    exact fun a ha w' hw => fin_ ha (resc3 ha Tryz.results41 rfl (ld_ aggs_29 hw (j := 0) rfl rfl (vs := [(.slice (some ⟨b65, 0, none⟩) 15 15), (.slice none 0 0), (.slice none 0 0), (.slice none 0 0)]) rfl) rfl rfl) ⟨b65, rfl, (hw.wk [(3, [])] rfl), fr0⟩

theorem bfd_S4 (w : World) (A : Option Addr) (n : Nat) (c : Nat) (bs : List UInt8) (hn : n ≤ 2147483647) (ha : 24 ≤ n) (hb : nb bs 3 = n) (hc : nb bs 1 / 4 % 2 = 1) (hd : n < 28) (hst : St w [] [] [Byt A n c bs] w) : Calls Tryz.prog 26 #[(.string ⟨#[98, 102, 100]⟩), (.slice A n c)] w (SP w (Byt A n c bs) none) := by
  have hnc00 : n ≤ c := (hst.fact (j := 0) rfl).2.1
  refine enter (vs := [(.string ⟨#[98, 102, 100]⟩), (.slice A n c)]) Tryz.func26 rfl rfl rfl hst ?_
  refine HT.seq ?_
  refine HT.plain ?_
  refine sl_ (l_alloc (by decide) zero_29 fun b4 => ?_)
  refine sAs rfl rfl ?_
  refine sAs rfl rfl ?_
  refine send ?_
  refine eseq ?_
  refine HT.seq ?_
  refine HT.plain ?_
  refine sl_ (l_makeMap (by decide) fun b13 => ?_)
  refine sl_ (l_insert (es := es0) (ck := 0) rfl rfl rfl Tryz.underlying36 Tryz.underlying9 fi0 ?_)
  refine sl_ (l_insert (es := es1) (ck := 1) rfl rfl rfl Tryz.underlying36 Tryz.underlying9 fi1 ?_)
  refine sl_ (l_insert (es := es2) (ck := 2) rfl rfl rfl Tryz.underlying36 Tryz.underlying9 fi2 ?_)
  refine sl_ (l_insert (es := es3) (ck := 3) rfl rfl rfl Tryz.underlying36 Tryz.underlying9 fi3 ?_)
  refine sl_ (l_insert (es := es4) (ck := 4) rfl rfl rfl Tryz.underlying36 Tryz.underlying9 fi4 ?_)
  refine sl_ (l_insert (es := es5) (ck := 5) rfl rfl rfl Tryz.underlying36 Tryz.underlying9 fi5 ?_)
  refine sl_ (l_insert (es := es6) (ck := 6) rfl rfl rfl Tryz.underlying36 Tryz.underlying9 fi6 ?_)
  refine sl_ (l_insert (es := es7) (ck := 7) rfl rfl rfl Tryz.underlying36 Tryz.underlying9 fi7 ?_)
  refine sl_ (l_insert (es := es8) (ck := 8) rfl rfl rfl Tryz.underlying36 Tryz.underlying9 fi8 ?_)
  refine sl_ (l_insert (es := es9) (ck := 9) rfl rfl rfl Tryz.underlying36 Tryz.underlying9 fi9 ?_)
  refine sl_ (l_insert (es := es10) (ck := 10) rfl rfl rfl Tryz.underlying36 Tryz.underlying9 fi10 ?_)
  refine sl_ (l_insert (es := es11) (ck := 11) rfl rfl rfl Tryz.underlying36 Tryz.underlying9 fi11 ?_)
  refine sl_ (l_insert (es := es12) (ck := 12) rfl rfl rfl Tryz.underlying36 Tryz.underlying9 fi12 ?_)
  refine sl_ (l_insert (es := es13) (ck := 13) rfl rfl rfl Tryz.underlying36 Tryz.underlying9 fi13 ?_)
  refine sl_ (l_insert (es := es14) (ck := 14) rfl rfl rfl Tryz.underlying36 Tryz.underlying9 fi14 ?_)
  refine sl_ (l_insert (es := es15) (ck := 15) rfl rfl rfl Tryz.underlying36 Tryz.underlying9 fi15 ?_)
  refine sl_ (l_insert (es := es16) (ck := 16) rfl rfl rfl Tryz.underlying36 Tryz.underlying9 fi16 ?_)
  refine sl_ (l_insert (es := es17) (ck := 17) rfl rfl rfl Tryz.underlying36 Tryz.underlying9 fi17 ?_)
  refine sl_ (l_insert (es := es18) (ck := 18) rfl rfl rfl Tryz.underlying36 Tryz.underlying9 fi18 ?_)
  refine sl_ (l_insert (es := es19) (ck := 19) rfl rfl rfl Tryz.underlying36 Tryz.underlying9 fi19 ?_)
  refine sl_ (l_insert (es := es20) (ck := 20) rfl rfl rfl Tryz.underlying36 Tryz.underlying9 fi20 ?_)
  refine sq (SM.closed) (q_move rfl) rfl ?_
  refine sq (SM.closed) (q_move rfl) rfl ?_
  refine sq (SM.closed) (q_lookup (es := es21) (i := 15) (v := (.int .i64 ((24 : Nat) : Int))) (fun _ h => h) rfl rfl Tryz.underlying36 Tryz.underlying9 (by kernel_rfl)) rfl ?_
  refine sq (SM.closed) (q_assign rfl) rfl ?_
  refine send ?_
  refine eseq ?_
  refine HT.unmap ?_
  refine HT.seq ?_
  refine HT.seq ?_
  refine HT.plain ?_
  refine sMv rfl rfl ?_
  refine sqS (q_len (len := n) rfl Tryz.underlying22) rfl ?_
  refine sMv rfl rfl ?_
  refine sqS (q_F (q_lt (p := n) (q := 24) rfl rfl) (by omega)) rfl ?_
  refine send ?_
  refine eseq ?_
  refine HT.no rfl ?_
  refine HT.skip ?_
  refine eseq ?_
  refine HT.seq ?_
  refine HT.seq ?_
  refine HT.plain ?_
  refine sMv rfl rfl ?_
  refine send ?_
  refine eseq ?_
  refine HT.block ?_
  refine HT.seq ?_
  refine HT.plain ?_
  refine sqS (q_eqs rfl rfl (r := false) (by kernel_rfl)) rfl ?_
  refine sAs rfl rfl ?_
  refine send ?_
  refine eseq ?_
  refine HT.no rfl ?_
  refine HT.seq ?_
  refine HT.plain ?_
  refine sqS (q_eqs rfl rfl (r := false) (by kernel_rfl)) rfl ?_
  refine sAs rfl rfl ?_
  refine send ?_
  refine eseq ?_
  refine HT.no rfl ?_
  refine HT.seq ?_
  refine HT.plain ?_
  refine sqS (q_eqs rfl rfl (r := false) (by kernel_rfl)) rfl ?_
  refine sAs rfl rfl ?_
  refine send ?_
  refine eseq ?_
  refine HT.no rfl ?_
  refine HT.seq ?_
  refine HT.plain ?_
  refine sqS (q_eqs rfl rfl (r := false) (by kernel_rfl)) rfl ?_
  refine sAs rfl rfl ?_
  refine send ?_
  refine eseq ?_
  refine HT.no rfl ?_
  refine HT.seq ?_
  refine HT.plain ?_
  refine sqS (q_eqs rfl rfl (r := false) (by kernel_rfl)) rfl ?_
  refine sAs rfl rfl ?_
  refine send ?_
  refine eseq ?_
  refine HT.no rfl ?_
  refine HT.seq ?_
  refine HT.plain ?_
  refine sqS (q_eqs rfl rfl (r := false) (by kernel_rfl)) rfl ?_
  refine sAs rfl rfl ?_
  refine send ?_
  refine eseq ?_
  refine HT.no rfl ?_
  refine HT.seq ?_
  refine HT.plain ?_
  refine sqS (q_eqs rfl rfl (r := false) (by kernel_rfl)) rfl ?_
  refine sAs rfl rfl ?_
  refine send ?_
  refine eseq ?_
  refine HT.no rfl ?_
  refine HT.seq ?_
  refine HT.plain ?_
  refine sqS (q_eqs rfl rfl (r := false) (by kernel_rfl)) rfl ?_
  refine sAs rfl rfl ?_
  refine send ?_
  refine eseq ?_
  refine HT.no rfl ?_
  refine HT.seq ?_
  refine HT.plain ?_
  refine sqS (q_eqs rfl rfl (r := false) (by kernel_rfl)) rfl ?_
  refine sAs rfl rfl ?_
  refine send ?_
  refine eseq ?_
  refine HT.no rfl ?_
  refine HT.seq ?_
  refine HT.plain ?_
  refine sqS (q_eqs rfl rfl (r := false) (by kernel_rfl)) rfl ?_
  refine sAs rfl rfl ?_
  refine send ?_
  refine eseq ?_
  refine HT.no rfl ?_
  refine HT.seq ?_
  refine HT.plain ?_
  refine sqS (q_eqs rfl rfl (r := false) (by kernel_rfl)) rfl ?_
  refine sAs rfl rfl ?_
  refine send ?_
  refine eseq ?_
  refine HT.no rfl ?_
  refine HT.seq ?_
  refine HT.plain ?_
  refine sqS (q_eqs rfl rfl (r := false) (by kernel_rfl)) rfl ?_
  refine sAs rfl rfl ?_
  refine send ?_
  refine eseq ?_
  refine HT.no rfl ?_
  refine HT.seq ?_
  refine HT.plain ?_
  refine sqS (q_eqs rfl rfl (r := false) (by kernel_rfl)) rfl ?_
  refine sAs rfl rfl ?_
  refine send ?_
  refine eseq ?_
  refine HT.no rfl ?_
  refine HT.seq ?_
  refine HT.plain ?_
  refine sqS (q_eqs rfl rfl (r := false) (by kernel_rfl)) rfl ?_
  refine sAs rfl rfl ?_
  refine send ?_
  refine eseq ?_
  refine HT.no rfl ?_
  refine HT.seq ?_
  refine HT.plain ?_
  refine sqS (q_eqs rfl rfl (r := false) (by kernel_rfl)) rfl ?_
  refine sAs rfl rfl ?_
  refine send ?_
  refine eseq ?_
  refine HT.no rfl ?_
  refine HT.seq ?_
  refine HT.plain ?_
  refine sqS (q_eqs rfl rfl (r := true) (by kernel_rfl)) rfl ?_
  refine sAs rfl rfl ?_
  refine send ?_
  refine eseq ?_
  refine HT.yes rfl ?_
  refine HT.seq ?_
  refine HT.plain ?_
  refine sMv rfl rfl ?_
  refine sl_ (l_callX1 (vs := [(.slice A n c)]) (Kc := []) (Bc := [Byt A n c bs]) [] [0] [Byt A n c bs] (fun b65 => [⟨b4, 29, [some (.slice none 0 0), some (.slice none 0 0), some (.slice none 0 0), some (.slice none 0 0)], true⟩, ⟨b65, 39, [some (.int .u64 (((nb bs 0) / 32 : Nat) : Int)), some (.int .u64 (((nb bs 0) &&& 31 : Nat) : Int)), some (.int .u64 (((nb bs 1) / 64 : Nat) : Int)), some (.int .u64 ((((nb bs 1) / 32) &&& 1 : Nat) : Int)), some (.int .u64 ((((nb bs 1) / 16) &&& 1 : Nat) : Int)), some (.int .u64 ((((nb bs 1) / 8) &&& 1 : Nat) : Int)), some (.int .u64 ((((nb bs 1) / 4) &&& 1 : Nat) : Int)), some (.int .u64 ((((nb bs 1) / 2) &&& 1 : Nat) : Int)), some (.int .u64 ((((nb bs 1) / 1) &&& 1 : Nat) : Int)), some (.int .u64 ((nb bs 2 : Nat) : Int)), some (.int .u64 ((bN bs 4 4 : Nat) : Int)), some (.int .u64 ((bN bs 8 4 : Nat) : Int)), some (.int .u64 ((bN bs 12 4 : Nat) : Int)), some (.int .u64 ((bN bs 16 4 : Nat) : Int)), some (.int .u64 ((bN bs 20 4 : Nat) : Int))], true⟩]) (fun b65 => [Byt A n c bs]) (by decide) rfl ca_41 (fun _ h => h) rfl rfl rfl rfl (fun w h => bfd_s4 w A n c bs (by omega) (by omega) (by omega) (by omega) (by omega) h) (fun _ => rfl) (fun _ => rfl) (fun _ => rfl) (fun _ => rfl) fun b65 hf1 he2 => ?_)
  refine sqS (q_extract (vs := [(.agg #[(.slice (some ⟨b65, 0, none⟩) 15 15), (.slice none 0 0), (.slice none 0 0), (.slice none 0 0)]), (.bool false), (.bool false)]) (i := 0) rfl rfl) rfl ?_
  refine sqS (q_extract (vs := [(.agg #[(.slice (some ⟨b65, 0, none⟩) 15 15), (.slice none 0 0), (.slice none 0 0), (.slice none 0 0)]), (.bool false), (.bool false)]) (i := 1) rfl rfl) rfl ?_
  refine sqS (q_extract (vs := [(.agg #[(.slice (some ⟨b65, 0, none⟩) 15 15), (.slice none 0 0), (.slice none 0 0), (.slice none 0 0)]), (.bool false), (.bool false)]) (i := 2) rfl rfl) rfl ?_
  refine sl_ (l_storeAgg (b := b4) (off := 0) (j := 0) (vs := [(.slice (some ⟨b65, 0, none⟩) 15 15), (.slice none 0 0), (.slice none 0 0), (.slice none 0 0)]) rfl rfl aggs_29 (by simp [Value.one1]) rfl rfl rfl (Nat.le_of_ble_eq_true rfl) ?_)
  refine sAs rfl rfl ?_
  refine sAs rfl rfl ?_
  refine send ?_
  refine eseq ?_
  refine HT.ret ?_
  refine rt_in ?_
  refine rt_then ?_
  exact fun a ha w' hw => fin_ ha (resc3 ha Tryz.results26 rfl (ld_ aggs_29 hw (j := 0) rfl rfl (vs := [(.slice (some ⟨b65, 0, none⟩) 15 15), (.slice none 0 0), (.slice none 0 0), (.slice none 0 0)]) rfl) rfl rfl) ⟨⟨(some ⟨b65, 0, none⟩), 15, 15, []⟩, ⟨none, 0, 0, []⟩, ⟨none, 0, 0, []⟩, ⟨none, 0, 0, []⟩, false, rfl, hw.pres⟩

abbrev bfd_s5_k0 (b65 : Nat) (bs : List UInt8) : Kb := ⟨b65, 39, [some (.int .u64 (((nb bs 0) / 32 : Nat) : Int)), some (.int .u64 (((nb bs 0) &&& 31 : Nat) : Int)), some (.int .u64 (((nb bs 1) / 64 : Nat) : Int)), some (.int .u64 ((((nb bs 1) / 32) &&& 1 : Nat) : Int)), some (.int .u64 ((((nb bs 1) / 16) &&& 1 : Nat) : Int)), some (.int .u64 ((((nb bs 1) / 8) &&& 1 : Nat) : Int)), some (.int .u64 ((((nb bs 1) / 4) &&& 1 : Nat) : Int)), some (.int .u64 ((((nb bs 1) / 2) &&& 1 : Nat) : Int)), some (.int .u64 ((((nb bs 1) / 1) &&& 1 : Nat) : Int)), some (.int .u64 ((nb bs 2 : Nat) : Int)), some (.int .u64 ((bN bs 4 4 : Nat) : Int)), some (.int .u64 ((bN bs 8 4 : Nat) : Int)), some (.int .u64 ((bN bs 12 4 : Nat) : Int)), some (.int .u64 ((bN bs 16 4 : Nat) : Int)), some (.int .u64 ((bN bs 20 4 : Nat) : Int))], true⟩

theorem bfd_s5 (w : World) (A : Option Addr) (n : Nat) (c : Nat) (bs : List UInt8) (hn : n ≤ 2147483647) (ha : 24 ≤ n) (hb : nb bs 3 = n) (hc : nb bs 1 / 4 % 2 = 1) (hd : 28 ≤ n) (he : nb bs 25 ≠ n - 24) (hst : St w [] [] [Byt A n c bs] w) : Calls Tryz.prog 41 #[(.slice A n c)] w (CP1 w [] [Byt A n c bs] (fun b65 => (.tuple #[(.agg #[(.slice (some ⟨b65, 0, none⟩) 15 15), (.slice none 0 0), (.slice none 0 0), (.slice none 0 0)]), (.bool false), (.bool false)])) (fun b65 => [(bfd_s5_k0 b65 bs)]) (fun b65 => [])) := by
  have hnc00 : n ≤ c := (hst.fact (j := 0) rfl).2.1
  refine enter (vs := [(.slice A n c)]) Tryz.func41 rfl rfl rfl hst ?_
  refine HT.seq ?_
  refine HT.plain ?_
  refine sl_ (l_alloc (by decide) zero_29 fun b2 => ?_)
  refine sAs rfl rfl ?_
  refine sAs rfl rfl ?_
  refine send ?_
  refine eseq ?_
  refine HT.norm [⟨b2, 29, [some (.slice none 0 0), some (.slice none 0 0), some (.slice none 0 0), some (.slice none 0 0)], true⟩] [Byt A n c bs] rfl rfl ?_
  refine HT.seq ?_
  refine HT.seq ?_
  refine HT.plain ?_
  refine sMv rfl rfl ?_
  refine sqS (q_index (i := 3) (j := 0) rfl rfl Tryz.underlying22 nagg_5 (fun _ h => h) rfl (by omega)) rfl ?_
  refine sqS (q_byte (i := 3) (j := 0) rfl nagg_5 (fun _ h => h) rfl (by omega)) rfl ?_
  refine sqS (q_convn (p := nb bs 3) rfl Tryz.underlying5 Tryz.underlying3 (show nb bs 3 < 9223372036854775808 by have := nb_lt bs 3; omega)) rfl ?_
  refine sMv rfl rfl ?_
  refine sqS (q_len (len := n) rfl Tryz.underlying22) rfl ?_
  refine sqS (q_F (q_ne (p := nb bs 3) (q := n) rfl rfl) (by have := nb_lt bs 3; omega)) rfl ?_
  refine send ?_
  refine eseq ?_
  refine HT.no rfl ?_
  refine HT.skip ?_
  refine eseq ?_
  refine HT.seq ?_
  refine HT.plain ?_
  refine sMv rfl rfl ?_
  refine sqS (q_index (i := 1) (j := 0) rfl rfl Tryz.underlying22 nagg_5 (fun _ h => h) rfl (by omega)) rfl ?_
  refine sqS (q_byte (i := 1) (j := 0) rfl nagg_5 (fun _ h => h) rfl (by omega)) rfl ?_
  refine sl_ (l_alloc (by decide) zero_5 fun b5 => ?_)
  refine sl_ (l_store (b := b5) (off := 0) (j := 1) rfl rfl nagg_5 rfl rfl rfl rfl (dlt rfl) ?_)
  refine send ?_
  refine eseq ?_
  refine HT.norm [⟨b2, 29, [some (.slice none 0 0), some (.slice none 0 0), some (.slice none 0 0), some (.slice none 0 0)], true⟩, ⟨b5, 5, [some (.int .u8 ((nb bs 1 : Nat) : Int))], true⟩] [Byt A n c bs] rfl rfl ?_
  refine HT.seq ?_
  refine HT.plain ?_
  refine sqS (q_func (vs := [(.pointer (some ⟨b5, 0, none⟩))]) rfl) rfl ?_
  refine sAs rfl rfl ?_
  refine send ?_
  refine eseq ?_
  refine HT.seq ?_
  refine HT.drawnS mixed (St.closed _ _ _ _) ?_
  refine dtake (f := 15) [0, 1, 2, 3, 4, 5, 6, 7, 8, 9, 10, 11, 12, 13, 15, 17, 19, 21, 23, 25, 26, 27, 28, 29, 30, 32, 33, 35, 36, 38, 39, 41, 42] (by kernel_rfl) (St.closed _ _ _ _) (fun _ h => h) (by kernel_rfl) ?_
  refine dq rfl (q_move rfl) ?_
  refine dq rfl (q_index (i := 0) (j := 0) rfl rfl Tryz.underlying22 nagg_5 (fun _ h => h) rfl (by omega)) ?_
  refine dq rfl (q_byte (i := 0) (j := 0) rfl nagg_5 (fun _ h => h) rfl (by omega)) ?_
  refine dq rfl (q_shr (p := nb bs 0) (e := 5) (N := 32) rfl rfl (by decide) rfl) ?_
  refine dq rfl (q_convn (p := (nb bs 0) / 32) rfl Tryz.underlying5 Tryz.underlying39 (show (nb bs 0) / 32 < 18446744073709551616 by have := nb_lt bs 0; omega)) ?_
  refine dq rfl (q_move rfl) ?_
  refine dq rfl (q_index (i := 0) (j := 0) rfl rfl Tryz.underlying22 nagg_5 (fun _ h => h) rfl (by omega)) ?_
  refine dq rfl (q_byte (i := 0) (j := 0) rfl nagg_5 (fun _ h => h) rfl (by omega)) ?_
  refine dq rfl (q_and (p := nb bs 0) (q := 31) rfl rfl rfl (show nb bs 0 < 256 by have := nb_lt bs 0; omega) (by decide)) ?_
  refine dq rfl (q_convn (p := (nb bs 0) &&& 31) rfl Tryz.underlying5 Tryz.underlying39 (show (nb bs 0) &&& 31 < 18446744073709551616 by have := nb_lt bs 0; have := zm31 (nb bs 0); have := Nat.and_le_left (n := nb bs 0) (m := 31); have := Nat.and_le_right (n := nb bs 0) (m := 31); omega)) ?_
  refine dq rfl (q_load (b := b5) (off := 0) (j := 1) rfl nagg_5 (fun _ h => h) rfl rfl rfl) ?_
  refine dq rfl (q_shr (p := nb bs 1) (e := 6) (N := 64) rfl rfl (by decide) rfl) ?_
  refine dq rfl (q_convn (p := (nb bs 1) / 64) rfl Tryz.underlying5 Tryz.underlying39 (show (nb bs 1) / 64 < 18446744073709551616 by have := nb_lt bs 1; omega)) ?_
  refine dq rfl (q_move rfl) ?_
  refine dq rfl (q_move rfl) ?_
  refine dq rfl (q_move rfl) ?_
  refine dq rfl (q_move rfl) ?_
  refine dq rfl (q_move rfl) ?_
  refine dq rfl (q_move rfl) ?_
  refine dq rfl (q_move rfl) ?_
  refine dq rfl (q_index (i := 2) (j := 0) rfl rfl Tryz.underlying22 nagg_5 (fun _ h => h) rfl (by omega)) ?_
  refine dq rfl (q_byte (i := 2) (j := 0) rfl nagg_5 (fun _ h => h) rfl (by omega)) ?_
  refine dq rfl (q_convn (p := nb bs 2) rfl Tryz.underlying5 Tryz.underlying39 (show nb bs 2 < 18446744073709551616 by have := nb_lt bs 2; omega)) ?_
  refine dq rfl (q_move rfl) ?_
  refine dq rfl (q_slice (lo := 4) (hi := 8) rfl Tryz.underlying22 nagg_5 (.inr ⟨_, _, rfl, rfl⟩) (.inr ⟨_, _, rfl, rfl⟩) (by omega) (by omega)) ?_
  refine dq rfl (q_move rfl) ?_
  refine dq rfl (q_slice (lo := 8) (hi := 12) rfl Tryz.underlying22 nagg_5 (.inr ⟨_, _, rfl, rfl⟩) (.inr ⟨_, _, rfl, rfl⟩) (by omega) (by omega)) ?_
  refine dq rfl (q_move rfl) ?_
  refine dq rfl (q_slice (lo := 12) (hi := 16) rfl Tryz.underlying22 nagg_5 (.inr ⟨_, _, rfl, rfl⟩) (.inr ⟨_, _, rfl, rfl⟩) (by omega) (by omega)) ?_
  refine dq rfl (q_move rfl) ?_
  refine dq rfl (q_slice (lo := 16) (hi := 20) rfl Tryz.underlying22 nagg_5 (.inr ⟨_, _, rfl, rfl⟩) (.inr ⟨_, _, rfl, rfl⟩) (by omega) (by omega)) ?_
  refine dq rfl (q_move rfl) ?_
  refine dq rfl (q_slice (lo := 20) (hi := 24) rfl Tryz.underlying22 nagg_5 (.inr ⟨_, _, rfl, rfl⟩) (.inr ⟨_, _, rfl, rfl⟩) (by omega) (by omega)) ?_
  refine QL.nil ?_
  refine dtake (f := 4) [14, 16, 18, 20, 22, 24, 31, 34, 37, 40, 43] (by kernel_rfl) (St.closed _ _ _ _) (fun _ h => h) (by kernel_rfl) ?_
  refine dq rfl (q_callC (vs := [(.int .i64 ((5 : Nat) : Int))]) (v := (.int .u64 ((((nb bs 1) / 32) &&& 1 : Nat) : Int))) rfl rfl ca_55 (fun w h => bfdBit w 5 32 b5 (nb bs 1) (by have := nb_lt bs 1; omega) (by have := nb_lt bs 1; omega) (by have := nb_lt bs 1; omega) (by have := nb_lt bs 1; omega) (h.ro (j := 1) rfl))) ?_
  refine dq rfl (q_callC (vs := [(.int .i64 ((4 : Nat) : Int))]) (v := (.int .u64 ((((nb bs 1) / 16) &&& 1 : Nat) : Int))) rfl rfl ca_55 (fun w h => bfdBit w 4 16 b5 (nb bs 1) (by have := nb_lt bs 1; omega) (by have := nb_lt bs 1; omega) (by have := nb_lt bs 1; omega) (by have := nb_lt bs 1; omega) (h.ro (j := 1) rfl))) ?_
  refine dq rfl (q_callC (vs := [(.int .i64 ((3 : Nat) : Int))]) (v := (.int .u64 ((((nb bs 1) / 8) &&& 1 : Nat) : Int))) rfl rfl ca_55 (fun w h => bfdBit w 3 8 b5 (nb bs 1) (by have := nb_lt bs 1; omega) (by have := nb_lt bs 1; omega) (by have := nb_lt bs 1; omega) (by have := nb_lt bs 1; omega) (h.ro (j := 1) rfl))) ?_
  refine dq rfl (q_callC (vs := [(.int .i64 ((2 : Nat) : Int))]) (v := (.int .u64 ((((nb bs 1) / 4) &&& 1 : Nat) : Int))) rfl rfl ca_55 (fun w h => bfdBit w 2 4 b5 (nb bs 1) (by have := nb_lt bs 1; omega) (by have := nb_lt bs 1; omega) (by have := nb_lt bs 1; omega) (by have := nb_lt bs 1; omega) (h.ro (j := 1) rfl))) ?_
  refine dq rfl (q_callC (vs := [(.int .i64 ((1 : Nat) : Int))]) (v := (.int .u64 ((((nb bs 1) / 2) &&& 1 : Nat) : Int))) rfl rfl ca_55 (fun w h => bfdBit w 1 2 b5 (nb bs 1) (by have := nb_lt bs 1; omega) (by have := nb_lt bs 1; omega) (by have := nb_lt bs 1; omega) (by have := nb_lt bs 1; omega) (h.ro (j := 1) rfl))) ?_
  refine dq rfl (q_callC (vs := [(.int .i64 ((0 : Nat) : Int))]) (v := (.int .u64 ((((nb bs 1) / 1) &&& 1 : Nat) : Int))) rfl rfl ca_55 (fun w h => bfdBit w 0 1 b5 (nb bs 1) (by have := nb_lt bs 1; omega) (by have := nb_lt bs 1; omega) (by have := nb_lt bs 1; omega) (by have := nb_lt bs 1; omega) (h.ro (j := 1) rfl))) ?_
  refine dq rfl (q_call (vs := [(.slice (cutA A c 4) (8 - 4) (c - 4))]) (v := (.int .u64 ((bN bs 4 4 : Nat) : Int))) rfl ca_34 (fun w h => NumberC w A n c bs (lo := 4) (hi := 8) (h.fact (j := 0) rfl) (k := 4) rfl (by decide) (by omega) (by omega))) ?_
  refine dq rfl (q_call (vs := [(.slice (cutA A c 8) (12 - 8) (c - 8))]) (v := (.int .u64 ((bN bs 8 4 : Nat) : Int))) rfl ca_34 (fun w h => NumberC w A n c bs (lo := 8) (hi := 12) (h.fact (j := 0) rfl) (k := 4) rfl (by decide) (by omega) (by omega))) ?_
  refine dq rfl (q_call (vs := [(.slice (cutA A c 12) (16 - 12) (c - 12))]) (v := (.int .u64 ((bN bs 12 4 : Nat) : Int))) rfl ca_34 (fun w h => NumberC w A n c bs (lo := 12) (hi := 16) (h.fact (j := 0) rfl) (k := 4) rfl (by decide) (by omega) (by omega))) ?_
  refine dq rfl (q_call (vs := [(.slice (cutA A c 16) (20 - 16) (c - 16))]) (v := (.int .u64 ((bN bs 16 4 : Nat) : Int))) rfl ca_34 (fun w h => NumberC w A n c bs (lo := 16) (hi := 20) (h.fact (j := 0) rfl) (k := 4) rfl (by decide) (by omega) (by omega))) ?_
  refine dq rfl (q_call (vs := [(.slice (cutA A c 20) (24 - 20) (c - 20))]) (v := (.int .u64 ((bN bs 20 4 : Nat) : Int))) rfl ca_34 (fun w h => NumberC w A n c bs (lo := 20) (hi := 24) (h.fact (j := 0) rfl) (k := 4) rfl (by decide) (by omega) (by omega))) ?_
  refine QL.nil ?_
  refine RG.step2 44 46 (by kernel_rfl) ?_ ?_
  · refine dop rfl (l_buildSlice (e := 39) (vs := [(0, (.int .u64 (((nb bs 0) / 32 : Nat) : Int))), (1, (.int .u64 (((nb bs 0) &&& 31 : Nat) : Int))), (2, (.int .u64 (((nb bs 1) / 64 : Nat) : Int))), (3, (.int .u64 ((((nb bs 1) / 32) &&& 1 : Nat) : Int))), (4, (.int .u64 ((((nb bs 1) / 16) &&& 1 : Nat) : Int))), (5, (.int .u64 ((((nb bs 1) / 8) &&& 1 : Nat) : Int))), (6, (.int .u64 ((((nb bs 1) / 4) &&& 1 : Nat) : Int))), (7, (.int .u64 ((((nb bs 1) / 2) &&& 1 : Nat) : Int))), (8, (.int .u64 ((((nb bs 1) / 1) &&& 1 : Nat) : Int))), (9, (.int .u64 ((nb bs 2 : Nat) : Int))), (10, (.int .u64 ((bN bs 4 4 : Nat) : Int))), (11, (.int .u64 ((bN bs 8 4 : Nat) : Int))), (12, (.int .u64 ((bN bs 12 4 : Nat) : Int))), (13, (.int .u64 ((bN bs 16 4 : Nat) : Int))), (14, (.int .u64 ((bN bs 20 4 : Nat) : Int)))]) (cs := [(.int .u64 (((nb bs 0) / 32 : Nat) : Int)), (.int .u64 (((nb bs 0) &&& 31 : Nat) : Int)), (.int .u64 (((nb bs 1) / 64 : Nat) : Int)), (.int .u64 ((((nb bs 1) / 32) &&& 1 : Nat) : Int)), (.int .u64 ((((nb bs 1) / 16) &&& 1 : Nat) : Int)), (.int .u64 ((((nb bs 1) / 8) &&& 1 : Nat) : Int)), (.int .u64 ((((nb bs 1) / 4) &&& 1 : Nat) : Int)), (.int .u64 ((((nb bs 1) / 2) &&& 1 : Nat) : Int)), (.int .u64 ((((nb bs 1) / 1) &&& 1 : Nat) : Int)), (.int .u64 ((nb bs 2 : Nat) : Int)), (.int .u64 ((bN bs 4 4 : Nat) : Int)), (.int .u64 ((bN bs 8 4 : Nat) : Int)), (.int .u64 ((bN bs 12 4 : Nat) : Int)), (.int .u64 ((bN bs 16 4 : Nat) : Int)), (.int .u64 ((bN bs 20 4 : Nat) : Int))]) (by decide) rfl (fun _ => by kernel_rfl) fun b65 => ⟨(fun _ h => (h.wk [(0, []), (1, [])] rfl)), ?_⟩)
    refine dtake (f := 2) [45] (by kernel_rfl) (St.closed _ _ _ _) (fun _ h => (h.wk [(0, []), (1, [])] rfl)) (by kernel_rfl) ?_
    refine dq rfl (q_call (vs := [(.slice none 0 0), (.slice (some ⟨b65, 0, none⟩) 15 15)]) (v := (.agg #[(.slice (some ⟨b65, 0, none⟩) 15 15), (.slice none 0 0), (.slice none 0 0), (.slice none 0 0)])) rfl ca_33 (fun w h => layerC w none 0 0 (some ⟨b65, 0, none⟩) 15 15  (St.enter (sp := []) (Kc := []) (bi := []) h rfl rfl rfl))) ?_
    refine QL.nil ?_
    refine RG.step1 46 (by kernel_rfl) ?_
    refine dop rfl (l_alloc (by decide) zero_29 fun b7 => ⟨(fun _ h => (h.wk [(0, []), (1, [])] rfl)), ?_⟩)
    refine RG.step1 47 (by kernel_rfl) ?_
    refine dop rfl (l_storeAgg (b := b7) (off := 0) (j := 3) (vs := [(.slice (some ⟨b65, 0, none⟩) 15 15), (.slice none 0 0), (.slice none 0 0), (.slice none 0 0)]) rfl rfl aggs_29 (by simp [Value.one1]) rfl rfl rfl (Nat.le_of_ble_eq_true rfl) ⟨(fun _ h => (h.wk [(0, []), (1, [])] rfl)), ?_⟩)
    refine dend (by kernel_rfl) ?_
    refine eseq ?_
    refine HT.norm [⟨b2, 29, [some (.slice none 0 0), some (.slice none 0 0), some (.slice none 0 0), some (.slice none 0 0)], true⟩, ⟨b5, 5, [some (.int .u8 ((nb bs 1 : Nat) : Int))], true⟩, (bfd_s5_k0 b65 bs), ⟨b7, 29, [some (.slice (some ⟨b65, 0, none⟩) 15 15), some (.slice none 0 0), some (.slice none 0 0), some (.slice none 0 0)], true⟩] [Byt A n c bs] rfl rfl ?_
    refine HT.seq ?_
    refine HT.seq ?_
    refine HT.plain ?_
    refine sMv rfl rfl ?_
    refine sqS (q_callC (vs := [(.int .i64 ((2 : Nat) : Int))]) (v := (.int .u64 ((((nb bs 1) / 4) &&& 1 : Nat) : Int))) rfl rfl ca_55 (fun w h => bfdBit w 2 4 b5 (nb bs 1) (by have := nb_lt bs 1; omega) (by have := nb_lt bs 1; omega) (by have := nb_lt bs 1; omega) (by have := nb_lt bs 1; omega) (h.ro (j := 1) rfl))) rfl ?_
    refine sqS (q_F (q_eq (p := ((nb bs 1) / 4) &&& 1) (q := 0) rfl rfl) (by have := Nat.div_le_self (nb bs 1) 4; have := zm1 ((nb bs 1) / 4); have := Nat.and_le_left (n := (nb bs 1) / 4) (m := 1); have := Nat.and_le_right (n := (nb bs 1) / 4) (m := 1); omega)) rfl ?_
    refine send ?_
    refine eseq ?_
    refine HT.no rfl ?_
    refine HT.skip ?_
    refine eseq ?_
    refine HT.seq ?_
    refine HT.seq ?_
    refine HT.plain ?_
    refine sMv rfl rfl ?_
    refine sqS (q_len (len := n) rfl Tryz.underlying22) rfl ?_
    refine sqS (q_F (q_lt (p := n) (q := 28) rfl rfl) (by omega)) rfl ?_
    refine sMv rfl rfl ?_
    refine sgqS rfl (q_move rfl) rfl ?_
    refine sgqS rfl (q_index (i := 25) (j := 0) rfl rfl Tryz.underlying22 nagg_5 (fun _ h => h) rfl (by omega)) rfl ?_
    refine sgqS rfl (q_byte (i := 25) (j := 0) rfl nagg_5 (fun _ h => h) rfl (by omega)) rfl ?_
    refine sgqS rfl (q_convn (p := nb bs 25) rfl Tryz.underlying5 Tryz.underlying3 (show nb bs 25 < 9223372036854775808 by have := nb_lt bs 25; omega)) rfl ?_
    refine sgqS rfl (q_move rfl) rfl ?_
    refine sgqS rfl (q_len (len := n) rfl Tryz.underlying22) rfl ?_
    refine sgqS rfl (q_sub (p := n) (q := 24) rfl rfl (by omega) (show n < 9223372036854775808 by omega)) rfl ?_
    refine sgqS rfl (q_T (q_ne (p := nb bs 25) (q := n - 24) rfl rfl) (by have := nb_lt bs 25; omega)) rfl ?_
    refine sqS (q_pick rfl (fun h => nomatch h) (fun _ => rfl)) rfl ?_
    refine send ?_
    refine eseq ?_
    refine HT.yes rfl ?_
    refine HT.seq ?_
    refine HT.plain ?_
    refine sqS (q_loadAgg (b := b7) (off := 0) (j := 3) (vs := [(.slice (some ⟨b65, 0, none⟩) 15 15), (.slice none 0 0), (.slice none 0 0), (.slice none 0 0)]) rfl aggs_29 (fun _ h => h) rfl rfl rfl) rfl ?_
    refine sl_ (l_storeAgg (b := b2) (off := 0) (j := 0) (vs := [(.slice (some ⟨b65, 0, none⟩) 15 15), (.slice none 0 0), (.slice none 0 0), (.slice none 0 0)]) rfl rfl aggs_29 (by simp [Value.one1]) rfl rfl rfl (Nat.le_of_ble_eq_true rfl) ?_)
    refine sAs rfl rfl ?_
    refine sAs rfl rfl ?_
    refine send ?_
    refine eseq ?_
    refine HT.norm [⟨b2, 29, [some (.slice (some ⟨b65, 0, none⟩) 15 15), some (.slice none 0 0), some (.slice none 0 0), some (.slice none 0 0)], true⟩, ⟨b5, 5, [some (.int .u8 ((nb bs 1 : Nat) : Int))], true⟩, (bfd_s5_k0 b65 bs), ⟨b7, 29, [some (.slice (some ⟨b65, 0, none⟩) 15 15), some (.slice none 0 0), some (.slice none 0 0), some (.slice none 0 0)], true⟩] [Byt A n c bs] rfl rfl ?_
    refine HT.ret ?_
    refine rt_then ?_
    exact fun a ha w' hw => fin_ ha (resc3 ha Tryz.results41 rfl (ld_ aggs_29 hw (j := 0) rfl rfl (vs := [(.slice (some ⟨b65, 0, none⟩) 15 15), (.slice none 0 0), (.slice none 0 0), (.slice none 0 0)]) rfl) rfl rfl) ⟨b65, rfl, (hw.wk [(2, [])] rfl), fr0⟩
  · refine dop rfl (l_alloc (by decide) zero_29 fun b7 => ⟨(fun _ h => (h.wk [(0, []), (1, [])] rfl)), ?_⟩)
    refine RG.step1 44 (by kernel_rfl) ?_
    refine dop rfl (l_buildSlice (e := 39) (vs := [(0, (.int .u64 (((nb bs 0) / 32 : Nat) : Int))), (1, (.int .u64 (((nb bs 0) &&& 31 : Nat) : Int))), (2, (.int .u64 (((nb bs 1) / 64 : Nat) : Int))), (3, (.int .u64 ((((nb bs 1) / 32) &&& 1 : Nat) : Int))), (4, (.int .u64 ((((nb bs 1) / 16) &&& 1 : Nat) : Int))), (5, (.int .u64 ((((nb bs 1) / 8) &&& 1 : Nat) : Int))), (6, (.int .u64 ((((nb bs 1) / 4) &&& 1 : Nat) : Int))), (7, (.int .u64 ((((nb bs 1) / 2) &&& 1 : Nat) : Int))), (8, (.int .u64 ((((nb bs 1) / 1) &&& 1 : Nat) : Int))), (9, (.int .u64 ((nb bs 2 : Nat) : Int))), (10, (.int .u64 ((bN bs 4 4 : Nat) : Int))), (11, (.int .u64 ((bN bs 8 4 : Nat) : Int))), (12, (.int .u64 ((bN bs 12 4 : Nat) : Int))), (13, (.int .u64 ((bN bs 16 4 : Nat) : Int))), (14, (.int .u64 ((bN bs 20 4 : Nat) : Int)))]) (cs := [(.int .u64 (((nb bs 0) / 32 : Nat) : Int)), (.int .u64 (((nb bs 0) &&& 31 : Nat) : Int)), (.int .u64 (((nb bs 1) / 64 : Nat) : Int)), (.int .u64 ((((nb bs 1) / 32) &&& 1 : Nat) : Int)), (.int .u64 ((((nb bs 1) / 16) &&& 1 : Nat) : Int)), (.int .u64 ((((nb bs 1) / 8) &&& 1 : Nat) : Int)), (.int .u64 ((((nb bs 1) / 4) &&& 1 : Nat) : Int)), (.int .u64 ((((nb bs 1) / 2) &&& 1 : Nat) : Int)), (.int .u64 ((((nb bs 1) / 1) &&& 1 : Nat) : Int)), (.int .u64 ((nb bs 2 : Nat) : Int)), (.int .u64 ((bN bs 4 4 : Nat) : Int)), (.int .u64 ((bN bs 8 4 : Nat) : Int)), (.int .u64 ((bN bs 12 4 : Nat) : Int)), (.int .u64 ((bN bs 16 4 : Nat) : Int)), (.int .u64 ((bN bs 20 4 : Nat) : Int))]) (by decide) rfl (fun _ => by kernel_rfl) fun b65 => ⟨(fun _ h => (h.wk [(0, []), (1, [])] rfl)), ?_⟩)
    refine dtake (f := 1) [45] (by kernel_rfl) (St.closed _ _ _ _) (fun _ h => (h.wk [(0, []), (1, [])] rfl)) (by kernel_rfl) ?_
    refine dq rfl (q_call (vs := [(.slice none 0 0), (.slice (some ⟨b65, 0, none⟩) 15 15)]) (v := (.agg #[(.slice (some ⟨b65, 0, none⟩) 15 15), (.slice none 0 0), (.slice none 0 0), (.slice none 0 0)])) rfl ca_33 (fun w h => layerC w none 0 0 (some ⟨b65, 0, none⟩) 15 15  (St.enter (sp := []) (Kc := []) (bi := []) h rfl rfl rfl))) ?_
    refine QL.nil ?_
    refine RG.step1 47 (by kernel_rfl) ?_
    refine dop rfl (l_storeAgg (b := b7) (off := 0) (j := 2) (vs := [(.slice (some ⟨b65, 0, none⟩) 15 15), (.slice none 0 0), (.slice none 0 0), (.slice none 0 0)]) rfl rfl aggs_29 (by simp [Value.one1]) rfl rfl rfl (Nat.le_of_ble_eq_true rfl) ⟨(fun _ h => (h.wk [(0, []), (1, [])] rfl)), ?_⟩)
    refine dend (by kernel_rfl) ?_
    refine eseq ?_
    refine HT.norm [⟨b2, 29, [some (.slice none 0 0), some (.slice none 0 0), some (.slice none 0 0), some (.slice none 0 0)], true⟩, ⟨b5, 5, [some (.int .u8 ((nb bs 1 : Nat) : Int))], true⟩, ⟨b7, 29, [some (.slice (some ⟨b65, 0, none⟩) 15 15), some (.slice none 0 0), some (.slice none 0 0), some (.slice none 0 0)], true⟩, (bfd_s5_k0 b65 bs)] [Byt A n c bs] rfl rfl ?_
    refine HT.seq ?_
    refine HT.seq ?_
    refine HT.plain ?_
    refine sMv rfl rfl ?_
    refine sqS (q_callC (vs := [(.int .i64 ((2 : Nat) : Int))]) (v := (.int .u64 ((((nb bs 1) / 4) &&& 1 : Nat) : Int))) rfl rfl ca_55 (fun w h => bfdBit w 2 4 b5 (nb bs 1) (by have := nb_lt bs 1; omega) (by have := nb_lt bs 1; omega) (by have := nb_lt bs 1; omega) (by have := nb_lt bs 1; omega) (h.ro (j := 1) rfl))) rfl ?_
    refine sqS (q_F (q_eq (p := ((nb bs 1) / 4) &&& 1) (q := 0) rfl rfl) (by have := Nat.div_le_self (nb bs 1) 4; have := zm1 ((nb bs 1) / 4); have := Nat.and_le_left (n := (nb bs 1) / 4) (m := 1); have := Nat.and_le_right (n := (nb bs 1) / 4) (m := 1); omega)) rfl ?_
    refine send ?_
    refine eseq ?_
    refine HT.no rfl ?_
    refine HT.skip ?_
    refine eseq ?_
    refine HT.seq ?_
    refine HT.seq ?_
    refine HT.plain ?_
    refine sMv rfl rfl ?_
    refine sqS (q_len (len := n) rfl Tryz.underlying22) rfl ?_
    refine sqS (q_F (q_lt (p := n) (q := 28) rfl rfl) (by omega)) rfl ?_
    refine sMv rfl rfl ?_
    refine sgqS rfl (q_move rfl) rfl ?_
    refine sgqS rfl (q_index (i := 25) (j := 0) rfl rfl Tryz.underlying22 nagg_5 (fun _ h => h) rfl (by omega)) rfl ?_
    refine sgqS rfl (q_byte (i := 25) (j := 0) rfl nagg_5 (fun _ h => h) rfl (by omega)) rfl ?_
    refine sgqS rfl (q_convn (p := nb bs 25) rfl Tryz.underlying5 Tryz.underlying3 (show nb bs 25 < 9223372036854775808 by have := nb_lt bs 25; omega)) rfl ?_
    refine sgqS rfl (q_move rfl) rfl ?_
    refine sgqS rfl (q_len (len := n) rfl Tryz.underlying22) rfl ?_
    refine sgqS rfl (q_sub (p := n) (q := 24) rfl rfl (by omega) (show n < 9223372036854775808 by omega)) rfl ?_
    refine sgqS rfl (q_T (q_ne (p := nb bs 25) (q := n - 24) rfl rfl) (by have := nb_lt bs 25; omega)) rfl ?_
    refine sqS (q_pick rfl (fun h => nomatch h) (fun _ => rfl)) rfl ?_
    refine send ?_
    refine eseq ?_
    refine HT.yes rfl ?_
    refine HT.seq ?_
    refine HT.plain ?_
    refine sqS (q_loadAgg (b := b7) (off := 0) (j := 2) (vs := [(.slice (some ⟨b65, 0, none⟩) 15 15), (.slice none 0 0), (.slice none 0 0), (.slice none 0 0)]) rfl aggs_29 (fun _ h => h) rfl rfl rfl) rfl ?_
    refine sl_ (l_storeAgg (b := b2) (off := 0) (j := 0) (vs := [(.slice (some ⟨b65, 0, none⟩) 15 15), (.slice none 0 0), (.slice none 0 0), (.slice none 0 0)]) rfl rfl aggs_29 (by simp [Value.one1]) rfl rfl rfl (Nat.le_of_ble_eq_true rfl) ?_)
    refine sAs rfl rfl ?_
    refine sAs rfl rfl ?_
    refine send ?_
    refine eseq ?_
    refine HT.norm [⟨b2, 29, [some (.slice (some ⟨b65, 0, none⟩) 15 15), some (.slice none 0 0), some (.slice none 0 0), some (.slice none 0 0)], true⟩, ⟨b5, 5, [some (.int .u8 ((nb bs 1 : Nat) : Int))], true⟩, ⟨b7, 29, [some (.slice (some ⟨b65, 0, none⟩) 15 15), some (.slice none 0 0), some (.slice none 0 0), some (.slice none 0 0)], true⟩, (bfd_s5_k0 b65 bs)] [Byt A n c bs] rfl rfl ?_
    refine HT.ret ?_
    refine rt_then ?_
    exact fun a ha w' hw => fin_ ha (resc3 ha Tryz.results41 rfl (ld_ aggs_29 hw (j := 0) rfl rfl (vs := [(.slice (some ⟨b65, 0, none⟩) 15 15), (.slice none 0 0), (.slice none 0 0), (.slice none 0 0)]) rfl) rfl rfl) ⟨b65, rfl, (hw.wk [(3, [])] rfl), fr0⟩

theorem bfd_S5 (w : World) (A : Option Addr) (n : Nat) (c : Nat) (bs : List UInt8) (hn : n ≤ 2147483647) (ha : 24 ≤ n) (hb : nb bs 3 = n) (hc : nb bs 1 / 4 % 2 = 1) (hd : 28 ≤ n) (he : nb bs 25 ≠ n - 24) (hst : St w [] [] [Byt A n c bs] w) : Calls Tryz.prog 26 #[(.string ⟨#[98, 102, 100]⟩), (.slice A n c)] w (SP w (Byt A n c bs) none) := by
  have hnc00 : n ≤ c := (hst.fact (j := 0) rfl).2.1
  refine enter (vs := [(.string ⟨#[98, 102, 100]⟩), (.slice A n c)]) Tryz.func26 rfl rfl rfl hst ?_
  refine HT.seq ?_
  refine HT.plain ?_
  refine sl_ (l_alloc (by decide) zero_29 fun b4 => ?_)
  refine sAs rfl rfl ?_
  refine sAs rfl rfl ?_
  refine send ?_
  refine eseq ?_
  refine HT.seq ?_
  refine HT.plain ?_
  refine sl_ (l_makeMap (by decide) fun b13 => ?_)
  refine sl_ (l_insert (es := es0) (ck := 0) rfl rfl rfl Tryz.underlying36 Tryz.underlying9 fi0 ?_)
  refine sl_ (l_insert (es := es1) (ck := 1) rfl rfl rfl Tryz.underlying36 Tryz.underlying9 fi1 ?_)
  refine sl_ (l_insert (es := es2) (ck := 2) rfl rfl rfl Tryz.underlying36 Tryz.underlying9 fi2 ?_)
  refine sl_ (l_insert (es := es3) (ck := 3) rfl rfl rfl Tryz.underlying36 Tryz.underlying9 fi3 ?_)
  refine sl_ (l_insert (es := es4) (ck := 4) rfl rfl rfl Tryz.underlying36 Tryz.underlying9 fi4 ?_)
  refine sl_ (l_insert (es := es5) (ck := 5) rfl rfl rfl Tryz.underlying36 Tryz.underlying9 fi5 ?_)
  refine sl_ (l_insert (es := es6) (ck := 6) rfl rfl rfl Tryz.underlying36 Tryz.underlying9 fi6 ?_)
  refine sl_ (l_insert (es := es7) (ck := 7) rfl rfl rfl Tryz.underlying36 Tryz.underlying9 fi7 ?_)
  refine sl_ (l_insert (es := es8) (ck := 8) rfl rfl rfl Tryz.underlying36 Tryz.underlying9 fi8 ?_)
  refine sl_ (l_insert (es := es9) (ck := 9) rfl rfl rfl Tryz.underlying36 Tryz.underlying9 fi9 ?_)
  refine sl_ (l_insert (es := es10) (ck := 10) rfl rfl rfl Tryz.underlying36 Tryz.underlying9 fi10 ?_)
  refine sl_ (l_insert (es := es11) (ck := 11) rfl rfl rfl Tryz.underlying36 Tryz.underlying9 fi11 ?_)
  refine sl_ (l_insert (es := es12) (ck := 12) rfl rfl rfl Tryz.underlying36 Tryz.underlying9 fi12 ?_)
  refine sl_ (l_insert (es := es13) (ck := 13) rfl rfl rfl Tryz.underlying36 Tryz.underlying9 fi13 ?_)
  refine sl_ (l_insert (es := es14) (ck := 14) rfl rfl rfl Tryz.underlying36 Tryz.underlying9 fi14 ?_)
  refine sl_ (l_insert (es := es15) (ck := 15) rfl rfl rfl Tryz.underlying36 Tryz.underlying9 fi15 ?_)
  refine sl_ (l_insert (es := es16) (ck := 16) rfl rfl rfl Tryz.underlying36 Tryz.underlying9 fi16 ?_)
  refine sl_ (l_insert (es := es17) (ck := 17) rfl rfl rfl Tryz.underlying36 Tryz.underlying9 fi17 ?_)
  refine sl_ (l_insert (es := es18) (ck := 18) rfl rfl rfl Tryz.underlying36 Tryz.underlying9 fi18 ?_)
  refine sl_ (l_insert (es := es19) (ck := 19) rfl rfl rfl Tryz.underlying36 Tryz.underlying9 fi19 ?_)
  refine sl_ (l_insert (es := es20) (ck := 20) rfl rfl rfl Tryz.underlying36 Tryz.underlying9 fi20 ?_)
  refine sq (SM.closed) (q_move rfl) rfl ?_
  refine sq (SM.closed) (q_move rfl) rfl ?_
  refine sq (SM.closed) (q_lookup (es := es21) (i := 15) (v := (.int .i64 ((24 : Nat) : Int))) (fun _ h => h) rfl rfl Tryz.underlying36 Tryz.underlying9 (by kernel_rfl)) rfl ?_
  refine sq (SM.closed) (q_assign rfl) rfl ?_
  refine send ?_
  refine eseq ?_
  refine HT.unmap ?_
  refine HT.seq ?_
  refine HT.seq ?_
  refine HT.plain ?_
  refine sMv rfl rfl ?_
  refine sqS (q_len (len := n) rfl Tryz.underlying22) rfl ?_
  refine sMv rfl rfl ?_
  refine sqS (q_F (q_lt (p := n) (q := 24) rfl rfl) (by omega)) rfl ?_
  refine send ?_
  refine eseq ?_
  refine HT.no rfl ?_
  refine HT.skip ?_
  refine eseq ?_
  refine HT.seq ?_
  refine HT.seq ?_
  refine HT.plain ?_
  refine sMv rfl rfl ?_
  refine send ?_
  refine eseq ?_
  refine HT.block ?_
  refine HT.seq ?_
  refine HT.plain ?_
  refine sqS (q_eqs rfl rfl (r := false) (by kernel_rfl)) rfl ?_
  refine sAs rfl rfl ?_
  refine send ?_
  refine eseq ?_
  refine HT.no rfl ?_
  refine HT.seq ?_
  refine HT.plain ?_
  refine sqS (q_eqs rfl rfl (r := false) (by kernel_rfl)) rfl ?_
  refine sAs rfl rfl ?_
  refine send ?_
  refine eseq ?_
  refine HT.no rfl ?_
  refine HT.seq ?_
  refine HT.plain ?_
  refine sqS (q_eqs rfl rfl (r := false) (by kernel_rfl)) rfl ?_
  refine sAs rfl rfl ?_
  refine send ?_
  refine eseq ?_
  refine HT.no rfl ?_
  refine HT.seq ?_
  refine HT.plain ?_
  refine sqS (q_eqs rfl rfl (r := false) (by kernel_rfl)) rfl ?_
  refine sAs rfl rfl ?_
  refine send ?_
  refine eseq ?_
  refine HT.no rfl ?_
  refine HT.seq ?_
  refine HT.plain ?_
  refine sqS (q_eqs rfl rfl (r := false) (by kernel_rfl)) rfl ?_
  refine sAs rfl rfl ?_
  refine send ?_
  refine eseq ?_
  refine HT.no rfl ?_
  refine HT.seq ?_
  refine HT.plain ?_
  refine sqS (q_eqs rfl rfl (r := false) (by kernel_rfl)) rfl ?_
  refine sAs rfl rfl ?_
  refine send ?_
  refine eseq ?_
  refine HT.no rfl ?_
  refine HT.seq ?_
  refine HT.plain ?_
  refine sqS (q_eqs rfl rfl (r := false) (by kernel_rfl)) rfl ?_
  refine sAs rfl rfl ?_
  refine send ?_
  refine eseq ?_
  refine HT.no rfl ?_
  refine HT.seq ?_
  refine HT.plain ?_
  refine sqS (q_eqs rfl rfl (r := false) (by kernel_rfl)) rfl ?_
  refine sAs rfl rfl ?_
  refine send ?_
  refine eseq ?_
  refine HT.no rfl ?_
  refine HT.seq ?_
  refine HT.plain ?_
  refine sqS (q_eqs rfl rfl (r := false) (by kernel_rfl)) rfl ?_
  refine sAs rfl rfl ?_
  refine send ?_
  refine eseq ?_
  refine HT.no rfl ?_
  refine HT.seq ?_
  refine HT.plain ?_
  refine sqS (q_eqs rfl rfl (r := false) (by kernel_rfl)) rfl ?_
  refine sAs rfl rfl ?_
  refine send ?_
  refine eseq ?_
  refine HT.no rfl ?_
  refine HT.seq ?_
  refine HT.plain ?_
  refine sqS (q_eqs rfl rfl (r := false) (by kernel_rfl)) rfl ?_
  refine sAs rfl rfl ?_
  refine send ?_
  refine eseq ?_
  refine HT.no rfl ?_
  refine HT.seq ?_
  refine HT.plain ?_
  refine sqS (q_eqs rfl rfl (r := false) (by kernel_rfl)) rfl ?_
  refine sAs rfl rfl ?_
  refine send ?_
  refine eseq ?_
  refine HT.no rfl ?_
  refine HT.seq ?_
  refine HT.plain ?_
  refine sqS (q_eqs rfl rfl (r := false) (by kernel_rfl)) rfl ?_
  refine sAs rfl rfl ?_
  refine send ?_
  refine eseq ?_
  refine HT.no rfl ?_
  refine HT.seq ?_
  refine HT.plain ?_
  refine sqS (q_eqs rfl rfl (r := false) (by kernel_rfl)) rfl ?_
  refine sAs rfl rfl ?_
  refine send ?_
  refine eseq ?_
  refine HT.no rfl ?_
  refine HT.seq ?_
  refine HT.plain ?_
  refine sqS (q_eqs rfl rfl (r := false) (by kernel_rfl)) rfl ?_
  refine sAs rfl rfl ?_
  refine send ?_
  refine eseq ?_
  refine HT.no rfl ?_
  refine HT.seq ?_
  refine HT.plain ?_
  refine sqS (q_eqs rfl rfl (r := true) (by kernel_rfl)) rfl ?_
  refine sAs rfl rfl ?_
  refine send ?_
  refine eseq ?_
  refine HT.yes rfl ?_
  refine HT.seq ?_
  refine HT.plain ?_
  refine sMv rfl rfl ?_
  refine sl_ (l_callX1 (vs := [(.slice A n c)]) (Kc := []) (Bc := [Byt A n c bs]) [] [0] [Byt A n c bs] (fun b65 => [⟨b4, 29, [some (.slice none 0 0), some (.slice none 0 0), some (.slice none 0 0), some (.slice none 0 0)], true⟩, ⟨b65, 39, [some (.int .u64 (((nb bs 0) / 32 : Nat) : Int)), some (.int .u64 (((nb bs 0) &&& 31 : Nat) : Int)), some (.int .u64 (((nb bs 1) / 64 : Nat) : Int)), some (.int .u64 ((((nb bs 1) / 32) &&& 1 : Nat) : Int)), some (.int .u64 ((((nb bs 1) / 16) &&& 1 : Nat) : Int)), some (.int .u64 ((((nb bs 1) / 8) &&& 1 : Nat) : Int)), some (.int .u64 ((((nb bs 1) / 4) &&& 1 : Nat) : Int)), some (.int .u64 ((((nb bs 1) / 2) &&& 1 : Nat) : Int)), some (.int .u64 ((((nb bs 1) / 1) &&& 1 : Nat) : Int)), some (.int .u64 ((nb bs 2 : Nat) : Int)), some (.int .u64 ((bN bs 4 4 : Nat) : Int)), some (.int .u64 ((bN bs 8 4 : Nat) : Int)), some (.int .u64 ((bN bs 12 4 : Nat) : Int)), some (.int .u64 ((bN bs 16 4 : Nat) : Int)), some (.int .u64 ((bN bs 20 4 : Nat) : Int))], true⟩]) (fun b65 => [Byt A n c bs]) (by decide) rfl ca_41 (fun _ h => h) rfl rfl rfl rfl (fun w h => bfd_s5 w A n c bs (by omega) (by omega) (by omega) (by omega) (by omega) (by omega) h) (fun _ => rfl) (fun _ => rfl) (fun _ => rfl) (fun _ => rfl) fun b65 hf1 he2 => ?_)
  refine sqS (q_extract (vs := [(.agg #[(.slice (some ⟨b65, 0, none⟩) 15 15), (.slice none 0 0), (.slice none 0 0), (.slice none 0 0)]), (.bool false), (.bool false)]) (i := 0) rfl rfl) rfl ?_
  refine sqS (q_extract (vs := [(.agg #[(.slice (some ⟨b65, 0, none⟩) 15 15), (.slice none 0 0), (.slice none 0 0), (.slice none 0 0)]), (.bool false), (.bool false)]) (i := 1) rfl rfl) rfl ?_
  refine sqS (q_extract (vs := [(.agg #[(.slice (some ⟨b65, 0, none⟩) 15 15), (.slice none 0 0), (.slice none 0 0), (.slice none 0 0)]), (.bool false), (.bool false)]) (i := 2) rfl rfl) rfl ?_
  refine sl_ (l_storeAgg (b := b4) (off := 0) (j := 0) (vs := [(.slice (some ⟨b65, 0, none⟩) 15 15), (.slice none 0 0), (.slice none 0 0), (.slice none 0 0)]) rfl rfl aggs_29 (by simp [Value.one1]) rfl rfl rfl (Nat.le_of_ble_eq_true rfl) ?_)
  refine sAs rfl rfl ?_
  refine sAs rfl rfl ?_
  refine send ?_
  refine eseq ?_
  refine HT.ret ?_
  refine rt_in ?_
  refine rt_then ?_
  exact fun a ha w' hw => fin_ ha (resc3 ha Tryz.results26 rfl (ld_ aggs_29 hw (j := 0) rfl rfl (vs := [(.slice (some ⟨b65, 0, none⟩) 15 15), (.slice none 0 0), (.slice none 0 0), (.slice none 0 0)]) rfl) rfl rfl) ⟨⟨(some ⟨b65, 0, none⟩), 15, 15, []⟩, ⟨none, 0, 0, []⟩, ⟨none, 0, 0, []⟩, ⟨none, 0, 0, []⟩, false, rfl, hw.pres⟩

abbrev bfd_s6_k0 (b65 : Nat) (bs : List UInt8) : Kb := ⟨b65, 39, [some (.int .u64 (((nb bs 0) / 32 : Nat) : Int)), some (.int .u64 (((nb bs 0) &&& 31 : Nat) : Int)), some (.int .u64 (((nb bs 1) / 64 : Nat) : Int)), some (.int .u64 ((((nb bs 1) / 32) &&& 1 : Nat) : Int)), some (.int .u64 ((((nb bs 1) / 16) &&& 1 : Nat) : Int)), some (.int .u64 ((((nb bs 1) / 8) &&& 1 : Nat) : Int)), some (.int .u64 ((((nb bs 1) / 4) &&& 1 : Nat) : Int)), some (.int .u64 ((((nb bs 1) / 2) &&& 1 : Nat) : Int)), some (.int .u64 ((((nb bs 1) / 1) &&& 1 : Nat) : Int)), some (.int .u64 ((nb bs 2 : Nat) : Int)), some (.int .u64 ((bN bs 4 4 : Nat) : Int)), some (.int .u64 ((bN bs 8 4 : Nat) : Int)), some (.int .u64 ((bN bs 12 4 : Nat) : Int)), some (.int .u64 ((bN bs 16 4 : Nat) : Int)), some (.int .u64 ((bN bs 20 4 : Nat) : Int))], true⟩

theorem bfd_s6 (w : World) (A : Option Addr) (n : Nat) (c : Nat) (bs : List UInt8) (hn : n ≤ 2147483647) (ha : 24 ≤ n) (hb : nb bs 3 = n) (hc : nb bs 1 / 4 % 2 = 1) (hd : 28 ≤ n) (he : nb bs 25 = n - 24) (hf : nb bs 24 = 1) (hst : St w [] [] [Byt A n c bs] w) : Calls Tryz.prog 41 #[(.slice A n c)] w (CP3 w [] [Byt A n c bs] (fun b65 b99 b95 => (.tuple #[(.agg #[(.slice (some ⟨b65, 0, none⟩) 15 15), (.slice none 0 0), (.slice (some ⟨b99, 0, none⟩) 1 1), (.slice none 0 0)]), (.bool true), (.bool true)])) (fun b65 b99 b95 => [(bfd_s6_k0 b65 bs), ⟨b99, 49, [some (.slice (some ⟨b95, 0, none⟩) 3 3), some (.slice (cutA A c 27) (n - 27) (c - 27))], true⟩, ⟨b95, 39, [some (.int .u64 ((1 : Nat) : Int)), some (.int .u64 ((nb bs 26 : Nat) : Int)), some (.int .u64 ((0 : Nat) : Int))], true⟩]) (fun b65 b99 b95 => [])) := by
  have hnc00 : n ≤ c := (hst.fact (j := 0) rfl).2.1
  refine enter (vs := [(.slice A n c)]) Tryz.func41 rfl rfl rfl hst ?_
  refine HT.seq ?_
  refine HT.plain ?_
  refine sl_ (l_alloc (by decide) zero_29 fun b2 => ?_)
  refine sAs rfl rfl ?_
  refine sAs rfl rfl ?_
  refine send ?_
  refine eseq ?_
  refine HT.norm [⟨b2, 29, [some (.slice none 0 0), some (.slice none 0 0), some (.slice none 0 0), some (.slice none 0 0)], true⟩] [Byt A n c bs] rfl rfl ?_
  refine HT.seq ?_
  refine HT.seq ?_
  refine HT.plain ?_
  refine sMv rfl rfl ?_
  refine sqS (q_index (i := 3) (j := 0) rfl rfl Tryz.underlying22 nagg_5 (fun _ h => h) rfl (by omega)) rfl ?_
  refine sqS (q_byte (i := 3) (j := 0) rfl nagg_5 (fun _ h => h) rfl (by omega)) rfl ?_
  refine sqS (q_convn (p := nb bs 3) rfl Tryz.underlying5 Tryz.underlying3 (show nb bs 3 < 9223372036854775808 by have := nb_lt bs 3; omega)) rfl ?_
  refine sMv rfl rfl ?_
  refine sqS (q_len (len := n) rfl Tryz.underlying22) rfl ?_
  refine sqS (q_F (q_ne (p := nb bs 3) (q := n) rfl rfl) (by have := nb_lt bs 3; omega)) rfl ?_
  refine send ?_
  refine eseq ?_
  refine HT.no rfl ?_
  refine HT.skip ?_
  refine eseq ?_
  refine HT.seq ?_
  refine HT.plain ?_
  refine sMv rfl rfl ?_
  refine sqS (q_index (i := 1) (j := 0) rfl rfl Tryz.underlying22 nagg_5 (fun _ h => h) rfl (by omega)) rfl ?_
  refine sqS (q_byte (i := 1) (j := 0) rfl nagg_5 (fun _ h => h) rfl (by omega)) rfl ?_
  refine sl_ (l_alloc (by decide) zero_5 fun b5 => ?_)
  refine sl_ (l_store (b := b5) (off := 0) (j := 1) rfl rfl nagg_5 rfl rfl rfl rfl (dlt rfl) ?_)
  refine send ?_
  refine eseq ?_
  refine HT.norm [⟨b2, 29, [some (.slice none 0 0), some (.slice none 0 0), some (.slice none 0 0), some (.slice none 0 0)], true⟩, ⟨b5, 5, [some (.int .u8 ((nb bs 1 : Nat) : Int))], true⟩] [Byt A n c bs] rfl rfl ?_
  refine HT.seq ?_
  refine HT.plain ?_
  refine sqS (q_func (vs := [(.pointer (some ⟨b5, 0, none⟩))]) rfl) rfl ?_
  refine sAs rfl rfl ?_
  refine send ?_
  refine eseq ?_
  refine HT.seq ?_
  refine HT.drawnS mixed (St.closed _ _ _ _) ?_
  refine dtake (f := 15) [0, 1, 2, 3, 4, 5, 6, 7, 8, 9, 10, 11, 12, 13, 15, 17, 19, 21, 23, 25, 26, 27, 28, 29, 30, 32, 33, 35, 36, 38, 39, 41, 42] (by kernel_rfl) (St.closed _ _ _ _) (fun _ h => h) (by kernel_rfl) ?_
  refine dq rfl (q_move rfl) ?_
  refine dq rfl (q_index (i := 0) (j := 0) rfl rfl Tryz.underlying22 nagg_5 (fun _ h => h) rfl (by omega)) ?_
  refine dq rfl (q_byte (i := 0) (j := 0) rfl nagg_5 (fun _ h => h) rfl (by omega)) ?_
  refine dq rfl (q_shr (p := nb bs 0) (e := 5) (N := 32) rfl rfl (by decide) rfl) ?_
  refine dq rfl (q_convn (p := (nb bs 0) / 32) rfl Tryz.underlying5 Tryz.underlying39 (show (nb bs 0) / 32 < 18446744073709551616 by have := nb_lt bs 0; omega)) ?_
  refine dq rfl (q_move rfl) ?_
  refine dq rfl (q_index (i := 0) (j := 0) rfl rfl Tryz.underlying22 nagg_5 (fun _ h => h) rfl (by omega)) ?_
  refine dq rfl (q_byte (i := 0) (j := 0) rfl nagg_5 (fun _ h => h) rfl (by omega)) ?_
  refine dq rfl (q_and (p := nb bs 0) (q := 31) rfl rfl rfl (show nb bs 0 < 256 by have := nb_lt bs 0; omega) (by decide)) ?_
  refine dq rfl (q_convn (p := (nb bs 0) &&& 31) rfl Tryz.underlying5 Tryz.underlying39 (show (nb bs 0) &&& 31 < 18446744073709551616 by have := nb_lt bs 0; have := zm31 (nb bs 0); have := Nat.and_le_left (n := nb bs 0) (m := 31); have := Nat.and_le_right (n := nb bs 0) (m := 31); omega)) ?_
  refine dq rfl (q_load (b := b5) (off := 0) (j := 1) rfl nagg_5 (fun _ h => h) rfl rfl rfl) ?_
  refine dq rfl (q_shr (p := nb bs 1) (e := 6) (N := 64) rfl rfl (by decide) rfl) ?_
  refine dq rfl (q_convn (p := (nb bs 1) / 64) rfl Tryz.underlying5 Tryz.underlying39 (show (nb bs 1) / 64 < 18446744073709551616 by have := nb_lt bs 1; omega)) ?_
  refine dq rfl (q_move rfl) ?_
  refine dq rfl (q_move rfl) ?_
  refine dq rfl (q_move rfl) ?_
  refine dq rfl (q_move rfl) ?_
  refine dq rfl (q_move rfl) ?_
  refine dq rfl (q_move rfl) ?_
  refine dq rfl (q_move rfl) ?_
  refine dq rfl (q_index (i := 2) (j := 0) rfl rfl Tryz.underlying22 nagg_5 (fun _ h => h) rfl (by omega)) ?_
  refine dq rfl (q_byte (i := 2) (j := 0) rfl nagg_5 (fun _ h => h) rfl (by omega)) ?_
  refine dq rfl (q_convn (p := nb bs 2) rfl Tryz.underlying5 Tryz.underlying39 (show nb bs 2 < 18446744073709551616 by have := nb_lt bs 2; omega)) ?_
  refine dq rfl (q_move rfl) ?_
  refine dq rfl (q_slice (lo := 4) (hi := 8) rfl Tryz.underlying22 nagg_5 (.inr ⟨_, _, rfl, rfl⟩) (.inr ⟨_, _, rfl, rfl⟩) (by omega) (by omega)) ?_
  refine dq rfl (q_move rfl) ?_
  refine dq rfl (q_slice (lo := 8) (hi := 12) rfl Tryz.underlying22 nagg_5 (.inr ⟨_, _, rfl, rfl⟩) (.inr ⟨_, _, rfl, rfl⟩) (by omega) (by omega)) ?_
  refine dq rfl (q_move rfl) ?_
  refine dq rfl (q_slice (lo := 12) (hi := 16) rfl Tryz.underlying22 nagg_5 (.inr ⟨_, _, rfl, rfl⟩) (.inr ⟨_, _, rfl, rfl⟩) (by omega) (by omega)) ?_
  refine dq rfl (q_move rfl) ?_
  refine dq rfl (q_slice (lo := 16) (hi := 20) rfl Tryz.underlying22 nagg_5 (.inr ⟨_, _, rfl, rfl⟩) (.inr ⟨_, _, rfl, rfl⟩) (by omega) (by omega)) ?_
  refine dq rfl (q_move rfl) ?_
  refine dq rfl (q_slice (lo := 20) (hi := 24) rfl Tryz.underlying22 nagg_5 (.inr ⟨_, _, rfl, rfl⟩) (.inr ⟨_, _, rfl, rfl⟩) (by omega) (by omega)) ?_
  refine QL.nil ?_
  refine dtake (f := 4) [14, 16, 18, 20, 22, 24, 31, 34, 37, 40, 43] (by kernel_rfl) (St.closed _ _ _ _) (fun _ h => h) (by kernel_rfl) ?_
  refine dq rfl (q_callC (vs := [(.int .i64 ((5 : Nat) : Int))]) (v := (.int .u64 ((((nb bs 1) / 32) &&& 1 : Nat) : Int))) rfl rfl ca_55 (fun w h => bfdBit w 5 32 b5 (nb bs 1) (by have := nb_lt bs 1; omega) (by have := nb_lt bs 1; omega) (by have := nb_lt bs 1; omega) (by have := nb_lt bs 1; omega) (h.ro (j := 1) rfl))) ?_
  refine dq rfl (q_callC (vs := [(.int .i64 ((4 : Nat) : Int))]) (v := (.int .u64 ((((nb bs 1) / 16) &&& 1 : Nat) : Int))) rfl rfl ca_55 (fun w h => bfdBit w 4 16 b5 (nb bs 1) (by have := nb_lt bs 1; omega) (by have := nb_lt bs 1; omega) (by have := nb_lt bs 1; omega) (by have := nb_lt bs 1; omega) (h.ro (j := 1) rfl))) ?_
  refine dq rfl (q_callC (vs := [(.int .i64 ((3 : Nat) : Int))]) (v := (.int .u64 ((((nb bs 1) / 8) &&& 1 : Nat) : Int))) rfl rfl ca_55 (fun w h => bfdBit w 3 8 b5 (nb bs 1) (by have := nb_lt bs 1; omega) (by have := nb_lt bs 1; omega) (by have := nb_lt bs 1; omega) (by have := nb_lt bs 1; omega) (h.ro (j := 1) rfl))) ?_
  refine dq rfl (q_callC (vs := [(.int .i64 ((2 : Nat) : Int))]) (v := (.int .u64 ((((nb bs 1) / 4) &&& 1 : Nat) : Int))) rfl rfl ca_55 (fun w h => bfdBit w 2 4 b5 (nb bs 1) (by have := nb_lt bs 1; omega) (by have := nb_lt bs 1; omega) (by have := nb_lt bs 1; omega) (by have := nb_lt bs 1; omega) (h.ro (j := 1) rfl))) ?_
  refine dq rfl (q_callC (vs := [(.int .i64 ((1 : Nat) : Int))]) (v := (.int .u64 ((((nb bs 1) / 2) &&& 1 : Nat) : Int))) rfl rfl ca_55 (fun w h => bfdBit w 1 2 b5 (nb bs 1) (by have := nb_lt bs 1; omega) (by have := nb_lt bs 1; omega) (by have := nb_lt bs 1; omega) (by have := nb_lt bs 1; omega) (h.ro (j := 1) rfl))) ?_
  refine dq rfl (q_callC (vs := [(.int .i64 ((0 : Nat) : Int))]) (v := (.int .u64 ((((nb bs 1) / 1) &&& 1 : Nat) : Int))) rfl rfl ca_55 (fun w h => bfdBit w 0 1 b5 (nb bs 1) (by have := nb_lt bs 1; omega) (by have := nb_lt bs 1; omega) (by have := nb_lt bs 1; omega) (by have := nb_lt bs 1; omega) (h.ro (j := 1) rfl))) ?_
  refine dq rfl (q_call (vs := [(.slice (cutA A c 4) (8 - 4) (c - 4))]) (v := (.int .u64 ((bN bs 4 4 : Nat) : Int))) rfl ca_34 (fun w h => NumberC w A n c bs (lo := 4) (hi := 8) (h.fact (j := 0) rfl) (k := 4) rfl (by decide) (by omega) (by omega))) ?_
  refine dq rfl (q_call (vs := [(.slice (cutA A c 8) (12 - 8) (c - 8))]) (v := (.int .u64 ((bN bs 8 4 : Nat) : Int))) rfl ca_34 (fun w h => NumberC w A n c bs (lo := 8) (hi := 12) (h.fact (j := 0) rfl) (k := 4) rfl (by decide) (by omega) (by omega))) ?_
  refine dq rfl (q_call (vs := [(.slice (cutA A c 12) (16 - 12) (c - 12))]) (v := (.int .u64 ((bN bs 12 4 : Nat) : Int))) rfl ca_34 (fun w h => NumberC w A n c bs (lo := 12) (hi := 16) (h.fact (j := 0) rfl) (k := 4) rfl (by decide) (by omega) (by omega))) ?_
  refine dq rfl (q_call (vs := [(.slice (cutA A c 16) (20 - 16) (c - 16))]) (v := (.int .u64 ((bN bs 16 4 : Nat) : Int))) rfl ca_34 (fun w h => NumberC w A n c bs (lo := 16) (hi := 20) (h.fact (j := 0) rfl) (k := 4) rfl (by decide) (by omega) (by omega))) ?_
  refine dq rfl (q_call (vs := [(.slice (cutA A c 20) (24 - 20) (c - 20))]) (v := (.int .u64 ((bN bs 20 4 : Nat) : Int))) rfl ca_34 (fun w h => NumberC w A n c bs (lo := 20) (hi := 24) (h.fact (j := 0) rfl) (k := 4) rfl (by decide) (by omega) (by omega))) ?_
  refine QL.nil ?_
  refine RG.step2 44 46 (by kernel_rfl) ?_ ?_
  · refine dop rfl (l_buildSlice (e := 39) (vs := [(0, (.int .u64 (((nb bs 0) / 32 : Nat) : Int))), (1, (.int .u64 (((nb bs 0) &&& 31 : Nat) : Int))), (2, (.int .u64 (((nb bs 1) / 64 : Nat) : Int))), (3, (.int .u64 ((((nb bs 1) / 32) &&& 1 : Nat) : Int))), (4, (.int .u64 ((((nb bs 1) / 16) &&& 1 : Nat) : Int))), (5, (.int .u64 ((((nb bs 1) / 8) &&& 1 : Nat) : Int))), (6, (.int .u64 ((((nb bs 1) / 4) &&& 1 : Nat) : Int))), (7, (.int .u64 ((((nb bs 1) / 2) &&& 1 : Nat) : Int))), (8, (.int .u64 ((((nb bs 1) / 1) &&& 1 : Nat) : Int))), (9, (.int .u64 ((nb bs 2 : Nat) : Int))), (10, (.int .u64 ((bN bs 4 4 : Nat) : Int))), (11, (.int .u64 ((bN bs 8 4 : Nat) : Int))), (12, (.int .u64 ((bN bs 12 4 : Nat) : Int))), (13, (.int .u64 ((bN bs 16 4 : Nat) : Int))), (14, (.int .u64 ((bN bs 20 4 : Nat) : Int)))]) (cs := [(.int .u64 (((nb bs 0) / 32 : Nat) : Int)), (.int .u64 (((nb bs 0) &&& 31 : Nat) : Int)), (.int .u64 (((nb bs 1) / 64 : Nat) : Int)), (.int .u64 ((((nb bs 1) / 32) &&& 1 : Nat) : Int)), (.int .u64 ((((nb bs 1) / 16) &&& 1 : Nat) : Int)), (.int .u64 ((((nb bs 1) / 8) &&& 1 : Nat) : Int)), (.int .u64 ((((nb bs 1) / 4) &&& 1 : Nat) : Int)), (.int .u64 ((((nb bs 1) / 2) &&& 1 : Nat) : Int)), (.int .u64 ((((nb bs 1) / 1) &&& 1 : Nat) : Int)), (.int .u64 ((nb bs 2 : Nat) : Int)), (.int .u64 ((bN bs 4 4 : Nat) : Int)), (.int .u64 ((bN bs 8 4 : Nat) : Int)), (.int .u64 ((bN bs 12 4 : Nat) : Int)), (.int .u64 ((bN bs 16 4 : Nat) : Int)), (.int .u64 ((bN bs 20 4 : Nat) : Int))]) (by decide) rfl (fun _ => by kernel_rfl) fun b65 => ⟨(fun _ h => (h.wk [(0, []), (1, [])] rfl)), ?_⟩)
    refine dtake (f := 2) [45] (by kernel_rfl) (St.closed _ _ _ _) (fun _ h => (h.wk [(0, []), (1, [])] rfl)) (by kernel_rfl) ?_
    refine dq rfl (q_call (vs := [(.slice none 0 0), (.slice (some ⟨b65, 0, none⟩) 15 15)]) (v := (.agg #[(.slice (some ⟨b65, 0, none⟩) 15 15), (.slice none 0 0), (.slice none 0 0), (.slice none 0 0)])) rfl ca_33 (fun w h => layerC w none 0 0 (some ⟨b65, 0, none⟩) 15 15  (St.enter (sp := []) (Kc := []) (bi := []) h rfl rfl rfl))) ?_
    refine QL.nil ?_
    refine RG.step1 46 (by kernel_rfl) ?_
    refine dop rfl (l_alloc (by decide) zero_29 fun b7 => ⟨(fun _ h => (h.wk [(0, []), (1, [])] rfl)), ?_⟩)
    refine RG.step1 47 (by kernel_rfl) ?_
    refine dop rfl (l_storeAgg (b := b7) (off := 0) (j := 3) (vs := [(.slice (some ⟨b65, 0, none⟩) 15 15), (.slice none 0 0), (.slice none 0 0), (.slice none 0 0)]) rfl rfl aggs_29 (by simp [Value.one1]) rfl rfl rfl (Nat.le_of_ble_eq_true rfl) ⟨(fun _ h => (h.wk [(0, []), (1, [])] rfl)), ?_⟩)
    refine dend (by kernel_rfl) ?_
    refine eseq ?_
    refine HT.norm [⟨b2, 29, [some (.slice none 0 0), some (.slice none 0 0), some (.slice none 0 0), some (.slice none 0 0)], true⟩, ⟨b5, 5, [some (.int .u8 ((nb bs 1 : Nat) : Int))], true⟩, (bfd_s6_k0 b65 bs), ⟨b7, 29, [some (.slice (some ⟨b65, 0, none⟩) 15 15), some (.slice none 0 0), some (.slice none 0 0), some (.slice none 0 0)], true⟩] [Byt A n c bs] rfl rfl ?_
    refine HT.seq ?_
    refine HT.seq ?_
    refine HT.plain ?_
    refine sMv rfl rfl ?_
    refine sqS (q_callC (vs := [(.int .i64 ((2 : Nat) : Int))]) (v := (.int .u64 ((((nb bs 1) / 4) &&& 1 : Nat) : Int))) rfl rfl ca_55 (fun w h => bfdBit w 2 4 b5 (nb bs 1) (by have := nb_lt bs 1; omega) (by have := nb_lt bs 1; omega) (by have := nb_lt bs 1; omega) (by have := nb_lt bs 1; omega) (h.ro (j := 1) rfl))) rfl ?_
    refine sqS (q_F (q_eq (p := ((nb bs 1) / 4) &&& 1) (q := 0) rfl rfl) (by have := Nat.div_le_self (nb bs 1) 4; have := zm1 ((nb bs 1) / 4); have := Nat.and_le_left (n := (nb bs 1) / 4) (m := 1); have := Nat.and_le_right (n := (nb bs 1) / 4) (m := 1); omega)) rfl ?_
    refine send ?_
    refine eseq ?_
    refine HT.no rfl ?_
    refine HT.skip ?_
    refine eseq ?_
    refine HT.seq ?_
    refine HT.seq ?_
    refine HT.plain ?_
    refine sMv rfl rfl ?_
    refine sqS (q_len (len := n) rfl Tryz.underlying22) rfl ?_
    refine sqS (q_F (q_lt (p := n) (q := 28) rfl rfl) (by omega)) rfl ?_
    refine sMv rfl rfl ?_
    refine sgqS rfl (q_move rfl) rfl ?_
    refine sgqS rfl (q_index (i := 25) (j := 0) rfl rfl Tryz.underlying22 nagg_5 (fun _ h => h) rfl (by omega)) rfl ?_
    refine sgqS rfl (q_byte (i := 25) (j := 0) rfl nagg_5 (fun _ h => h) rfl (by omega)) rfl ?_
    refine sgqS rfl (q_convn (p := nb bs 25) rfl Tryz.underlying5 Tryz.underlying3 (show nb bs 25 < 9223372036854775808 by have := nb_lt bs 25; omega)) rfl ?_
    refine sgqS rfl (q_move rfl) rfl ?_
    refine sgqS rfl (q_len (len := n) rfl Tryz.underlying22) rfl ?_
    refine sgqS rfl (q_sub (p := n) (q := 24) rfl rfl (by omega) (show n < 9223372036854775808 by omega)) rfl ?_
    refine sgqS rfl (q_F (q_ne (p := nb bs 25) (q := n - 24) rfl rfl) (by have := nb_lt bs 25; omega)) rfl ?_
    refine sqS (q_pick rfl (fun h => nomatch h) (fun _ => rfl)) rfl ?_
    refine send ?_
    refine eseq ?_
    refine HT.no rfl ?_
    refine HT.skip ?_
    refine eseq ?_
    refine HT.seq ?_
    refine HT.seq ?_
    refine HT.plain ?_
    refine sMv rfl rfl ?_
    refine sqS (q_index (i := 24) (j := 0) rfl rfl Tryz.underlying22 nagg_5 (fun _ h => h) rfl (by omega)) rfl ?_
    refine sqS (q_byte (i := 24) (j := 0) rfl nagg_5 (fun _ h => h) rfl (by omega)) rfl ?_
    refine sAs rfl rfl ?_
    refine send ?_
    refine eseq ?_
    refine HT.block ?_
    refine HT.seq ?_
    refine HT.plain ?_
    refine sMv rfl rfl ?_
    refine sqS (q_T (q_eq (p := nb bs 24) (q := 1) rfl rfl) (by have := nb_lt bs 24; omega)) rfl ?_
    refine sAs rfl rfl ?_
    refine send ?_
    refine eseq ?_
    refine HT.yes rfl ?_
    refine HT.seq ?_
    refine HT.drawn mixed (St.closed _ _ _ _) (St w [] [⟨b2, 29, [some (.slice none 0 0), some (.slice none 0 0), some (.slice none 0 0), some (.slice none 0 0)], true⟩, ⟨b5, 5, [some (.int .u8 ((nb bs 1 : Nat) : Int))], true⟩, ⟨b65, 39, [some (.int .u64 (((nb bs 0) / 32 : Nat) : Int)), some (.int .u64 (((nb bs 0) &&& 31 : Nat) : Int)), none, some (.int .u64 ((((nb bs 1) / 32) &&& 1 : Nat) : Int)), some (.int .u64 ((((nb bs 1) / 16) &&& 1 : Nat) : Int)), some (.int .u64 ((((nb bs 1) / 8) &&& 1 : Nat) : Int)), some (.int .u64 ((((nb bs 1) / 4) &&& 1 : Nat) : Int)), some (.int .u64 ((((nb bs 1) / 2) &&& 1 : Nat) : Int)), some (.int .u64 ((((nb bs 1) / 1) &&& 1 : Nat) : Int)), some (.int .u64 ((nb bs 2 : Nat) : Int)), some (.int .u64 ((bN bs 4 4 : Nat) : Int)), some (.int .u64 ((bN bs 8 4 : Nat) : Int)), some (.int .u64 ((bN bs 12 4 : Nat) : Int)), some (.int .u64 ((bN bs 16 4 : Nat) : Int)), some (.int .u64 ((bN bs 20 4 : Nat) : Int))], true⟩, ⟨b7, 29, [some (.slice (some ⟨b65, 0, none⟩) 15 15), some (.slice none 0 0), none, some (.slice none 0 0)], true⟩] [Byt A n c bs]) ?_
    refine dtake (f := 5) [0, 1, 2, 3, 5, 6] (by kernel_rfl) (St.closed _ _ _ _) (fun _ h => (h.wk [(0, []), (1, []), (2, [2]), (3, [2])] rfl)) (by kernel_rfl) ?_
    refine dq rfl (q_move rfl) ?_
    refine dq rfl (q_index (i := 26) (j := 0) rfl rfl Tryz.underlying22 nagg_5 (fun _ h => h) rfl (by omega)) ?_
    refine dq rfl (q_byte (i := 26) (j := 0) rfl nagg_5 (fun _ h => h) rfl (by omega)) ?_
    refine dq rfl (q_convn (p := nb bs 26) rfl Tryz.underlying5 Tryz.underlying39 (show nb bs 26 < 18446744073709551616 by have := nb_lt bs 26; omega)) ?_
    refine dq rfl (q_move rfl) ?_
    refine dq rfl (q_slice (lo := 27) (hi := n) rfl Tryz.underlying22 nagg_5 (.inr ⟨_, _, rfl, rfl⟩) (.inl ⟨rfl, rfl⟩) (by omega) (by omega)) ?_
    refine QL.nil ?_
    refine RG.step1 4 (by kernel_rfl) ?_
    refine dop rfl (l_buildSlice (e := 39) (vs := [(0, (.int .u64 ((1 : Nat) : Int))), (1, (.int .u64 ((nb bs 26 : Nat) : Int))), (2, (.int .u64 ((0 : Nat) : Int)))]) (cs := [(.int .u64 ((1 : Nat) : Int)), (.int .u64 ((nb bs 26 : Nat) : Int)), (.int .u64 ((0 : Nat) : Int))]) (by decide) rfl (fun _ => by kernel_rfl) fun b95 => ⟨(fun _ h => (h.wk [(0, []), (1, []), (2, [2]), (3, [2])] rfl)), ?_⟩)
    refine dtake (f := 3) [7] (by kernel_rfl) (St.closed _ _ _ _) (fun _ h => (h.wk [(0, []), (1, []), (2, [2]), (3, [2])] rfl)) (by kernel_rfl) ?_
    refine dq rfl (q_build (vs := [(0, (.slice (some ⟨b95, 0, none⟩) 3 3)), (1, (.slice (cutA A c 27) (n - 27) (c - 27)))]) (v := (.agg #[(.slice (some ⟨b95, 0, none⟩) 3 3), (.slice (cutA A c 27) (n - 27) (c - 27))])) rfl (fun _ => by kernel_rfl)) ?_
    refine QL.nil ?_
    refine RG.step1 8 (by kernel_rfl) ?_
    refine dop rfl (l_buildSlice (e := 49) (vs := [(0, (.agg #[(.slice (some ⟨b95, 0, none⟩) 3 3), (.slice (cutA A c 27) (n - 27) (c - 27))]))]) (cs := [(.slice (some ⟨b95, 0, none⟩) 3 3), (.slice (cutA A c 27) (n - 27) (c - 27))]) (by decide) rfl (fun _ => by kernel_rfl) fun b99 => ⟨(fun _ h => (h.wk [(0, []), (1, []), (2, [2]), (3, [2])] rfl)), ?_⟩)
    refine dtake (f := 1) [9] (by kernel_rfl) (St.closed _ _ _ _) (fun _ h => (h.wk [(0, []), (1, []), (2, [2]), (3, [2])] rfl)) (by kernel_rfl) ?_
    refine dq rfl (q_field (b := b7) (off := 0) rfl fo_29_2) ?_
    refine QL.nil ?_
    refine RG.step1 10 (by kernel_rfl) ?_
    refine dop rfl (l_store (b := b7) (off := 2) (j := 3) rfl rfl nagg_27 rfl rfl rfl rfl (dlt rfl) ⟨(fun _ h => (h.wk [(0, []), (1, []), (2, [2]), (3, [2])] rfl)), ?_⟩)
    refine dend (by kernel_rfl) ?_
    refine eseq ?_
    refine HT.norm [⟨b2, 29, [some (.slice none 0 0), some (.slice none 0 0), some (.slice none 0 0), some (.slice none 0 0)], true⟩, ⟨b5, 5, [some (.int .u8 ((nb bs 1 : Nat) : Int))], true⟩, (bfd_s6_k0 b65 bs), ⟨b7, 29, [some (.slice (some ⟨b65, 0, none⟩) 15 15), some (.slice none 0 0), some (.slice (some ⟨b99, 0, none⟩) 1 1), some (.slice none 0 0)], true⟩, ⟨b95, 39, [some (.int .u64 ((1 : Nat) : Int)), some (.int .u64 ((nb bs 26 : Nat) : Int)), some (.int .u64 ((0 : Nat) : Int))], true⟩, ⟨b99, 49, [some (.slice (some ⟨b95, 0, none⟩) 3 3), some (.slice (cutA A c 27) (n - 27) (c - 27))], true⟩] [Byt A n c bs] rfl rfl ?_
    refine HT.seq ?_
    refine HT.plain ?_
    refine sqS (q_loadAgg (b := b7) (off := 0) (j := 3) (vs := [(.slice (some ⟨b65, 0, none⟩) 15 15), (.slice none 0 0), (.slice (some ⟨b99, 0, none⟩) 1 1), (.slice none 0 0)]) rfl aggs_29 (fun _ h => h) rfl rfl rfl) rfl ?_
    refine sl_ (l_storeAgg (b := b2) (off := 0) (j := 0) (vs := [(.slice (some ⟨b65, 0, none⟩) 15 15), (.slice none 0 0), (.slice (some ⟨b99, 0, none⟩) 1 1), (.slice none 0 0)]) rfl rfl aggs_29 (by simp [Value.one1]) rfl rfl rfl (Nat.le_of_ble_eq_true rfl) ?_)
    refine sAs rfl rfl ?_
    refine sAs rfl rfl ?_
    refine send ?_
    refine eseq ?_
    refine HT.norm [⟨b2, 29, [some (.slice (some ⟨b65, 0, none⟩) 15 15), some (.slice none 0 0), some (.slice (some ⟨b99, 0, none⟩) 1 1), some (.slice none 0 0)], true⟩, ⟨b5, 5, [some (.int .u8 ((nb bs 1 : Nat) : Int))], true⟩, (bfd_s6_k0 b65 bs), ⟨b7, 29, [some (.slice (some ⟨b65, 0, none⟩) 15 15), some (.slice none 0 0), some (.slice (some ⟨b99, 0, none⟩) 1 1), some (.slice none 0 0)], true⟩, ⟨b95, 39, [some (.int .u64 ((1 : Nat) : Int)), some (.int .u64 ((nb bs 26 : Nat) : Int)), some (.int .u64 ((0 : Nat) : Int))], true⟩, ⟨b99, 49, [some (.slice (some ⟨b95, 0, none⟩) 3 3), some (.slice (cutA A c 27) (n - 27) (c - 27))], true⟩] [Byt A n c bs] rfl rfl ?_
    refine HT.ret ?_
    refine rt_in ?_
    refine rt_then ?_
    exact fun a ha w' hw => fin_ ha (resc3 ha Tryz.results41 rfl (ld_ aggs_29 hw (j := 0) rfl rfl (vs := [(.slice (some ⟨b65, 0, none⟩) 15 15), (.slice none 0 0), (.slice (some ⟨b99, 0, none⟩) 1 1), (.slice none 0 0)]) rfl) rfl rfl) ⟨b65, b99, b95, rfl, (hw.wk [(2, []), (5, []), (4, [])] rfl), fr0⟩
  · refine dop rfl (l_alloc (by decide) zero_29 fun b7 => ⟨(fun _ h => (h.wk [(0, []), (1, [])] rfl)), ?_⟩)
    refine RG.step1 44 (by kernel_rfl) ?_
    refine dop rfl (l_buildSlice (e := 39) (vs := [(0, (.int .u64 (((nb bs 0) / 32 : Nat) : Int))), (1, (.int .u64 (((nb bs 0) &&& 31 : Nat) : Int))), (2, (.int .u64 (((nb bs 1) / 64 : Nat) : Int))), (3, (.int .u64 ((((nb bs 1) / 32) &&& 1 : Nat) : Int))), (4, (.int .u64 ((((nb bs 1) / 16) &&& 1 : Nat) : Int))), (5, (.int .u64 ((((nb bs 1) / 8) &&& 1 : Nat) : Int))), (6, (.int .u64 ((((nb bs 1) / 4) &&& 1 : Nat) : Int))), (7, (.int .u64 ((((nb bs 1) / 2) &&& 1 : Nat) : Int))), (8, (.int .u64 ((((nb bs 1) / 1) &&& 1 : Nat) : Int))), (9, (.int .u64 ((nb bs 2 : Nat) : Int))), (10, (.int .u64 ((bN bs 4 4 : Nat) : Int))), (11, (.int .u64 ((bN bs 8 4 : Nat) : Int))), (12, (.int .u64 ((bN bs 12 4 : Nat) : Int))), (13, (.int .u64 ((bN bs 16 4 : Nat) : Int))), (14, (.int .u64 ((bN bs 20 4 : Nat) : Int)))]) (cs := [(.int .u64 (((nb bs 0) / 32 : Nat) : Int)), (.int .u64 (((nb bs 0) &&& 31 : Nat) : Int)), (.int .u64 (((nb bs 1) / 64 : Nat) : Int)), (.int .u64 ((((nb bs 1) / 32) &&& 1 : Nat) : Int)), (.int .u64 ((((nb bs 1) / 16) &&& 1 : Nat) : Int)), (.int .u64 ((((nb bs 1) / 8) &&& 1 : Nat) : Int)), (.int .u64 ((((nb bs 1) / 4) &&& 1 : Nat) : Int)), (.int .u64 ((((nb bs 1) / 2) &&& 1 : Nat) : Int)), (.int .u64 ((((nb bs 1) / 1) &&& 1 : Nat) : Int)), (.int .u64 ((nb bs 2 : Nat) : Int)), (.int .u64 ((bN bs 4 4 : Nat) : Int)), (.int .u64 ((bN bs 8 4 : Nat) : Int)), (.int .u64 ((bN bs 12 4 : Nat) : Int)), (.int .u64 ((bN bs 16 4 : Nat) : Int)), (.int .u64 ((bN bs 20 4 : Nat) : Int))]) (by decide) rfl (fun _ => by kernel_rfl) fun b65 => ⟨(fun _ h => (h.wk [(0, []), (1, [])] rfl)), ?_⟩)
    refine dtake (f := 1) [45] (by kernel_rfl) (St.closed _ _ _ _) (fun _ h => (h.wk [(0, []), (1, [])] rfl)) (by kernel_rfl) ?_
    refine dq rfl (q_call (vs := [(.slice none 0 0), (.slice (some ⟨b65, 0, none⟩) 15 15)]) (v := (.agg #[(.slice (some ⟨b65, 0, none⟩) 15 15), (.slice none 0 0), (.slice none 0 0), (.slice none 0 0)])) rfl ca_33 (fun w h => layerC w none 0 0 (some ⟨b65, 0, none⟩) 15 15  (St.enter (sp := []) (Kc := []) (bi := []) h rfl rfl rfl))) ?_
    refine QL.nil ?_
    refine RG.step1 47 (by kernel_rfl) ?_
    refine dop rfl (l_storeAgg (b := b7) (off := 0) (j := 2) (vs := [(.slice (some ⟨b65, 0, none⟩) 15 15), (.slice none 0 0), (.slice none 0 0), (.slice none 0 0)]) rfl rfl aggs_29 (by simp [Value.one1]) rfl rfl rfl (Nat.le_of_ble_eq_true rfl) ⟨(fun _ h => (h.wk [(0, []), (1, [])] rfl)), ?_⟩)
    refine dend (by kernel_rfl) ?_
    refine eseq ?_
    refine HT.norm [⟨b2, 29, [some (.slice none 0 0), some (.slice none 0 0), some (.slice none 0 0), some (.slice none 0 0)], true⟩, ⟨b5, 5, [some (.int .u8 ((nb bs 1 : Nat) : Int))], true⟩, ⟨b7, 29, [some (.slice (some ⟨b65, 0, none⟩) 15 15), some (.slice none 0 0), some (.slice none 0 0), some (.slice none 0 0)], true⟩, (bfd_s6_k0 b65 bs)] [Byt A n c bs] rfl rfl ?_
    refine HT.seq ?_
    refine HT.seq ?_
    refine HT.plain ?_
    refine sMv rfl rfl ?_
    refine sqS (q_callC (vs := [(.int .i64 ((2 : Nat) : Int))]) (v := (.int .u64 ((((nb bs 1) / 4) &&& 1 : Nat) : Int))) rfl rfl ca_55 (fun w h => bfdBit w 2 4 b5 (nb bs 1) (by have := nb_lt bs 1; omega) (by have := nb_lt bs 1; omega) (by have := nb_lt bs 1; omega) (by have := nb_lt bs 1; omega) (h.ro (j := 1) rfl))) rfl ?_
    refine sqS (q_F (q_eq (p := ((nb bs 1) / 4) &&& 1) (q := 0) rfl rfl) (by have := Nat.div_le_self (nb bs 1) 4; have := zm1 ((nb bs 1) / 4); have := Nat.and_le_left (n := (nb bs 1) / 4) (m := 1); have := Nat.and_le_right (n := (nb bs 1) / 4) (m := 1); omega)) rfl ?_
    refine send ?_
    refine eseq ?_
    refine HT.no rfl ?_
    refine HT.skip ?_
    refine eseq ?_
    refine HT.seq ?_
    refine HT.seq ?_
    refine HT.plain ?_
    refine sMv rfl rfl ?_
    refine sqS (q_len (len := n) rfl Tryz.underlying22) rfl ?_
    refine sqS (q_F (q_lt (p := n) (q := 28) rfl rfl) (by omega)) rfl ?_
    refine sMv rfl rfl ?_
    refine sgqS rfl (q_move rfl) rfl ?_
    refine sgqS rfl (q_index (i := 25) (j := 0) rfl rfl Tryz.underlying22 nagg_5 (fun _ h => h) rfl (by omega)) rfl ?_
    refine sgqS rfl (q_byte (i := 25) (j := 0) rfl nagg_5 (fun _ h => h) rfl (by omega)) rfl ?_
    refine sgqS rfl (q_convn (p := nb bs 25) rfl Tryz.underlying5 Tryz.underlying3 (show nb bs 25 < 9223372036854775808 by have := nb_lt bs 25; omega)) rfl ?_
    refine sgqS rfl (q_move rfl) rfl ?_
    refine sgqS rfl (q_len (len := n) rfl Tryz.underlying22) rfl ?_
    refine sgqS rfl (q_sub (p := n) (q := 24) rfl rfl (by omega) (show n < 9223372036854775808 by omega)) rfl ?_
    refine sgqS rfl (q_F (q_ne (p := nb bs 25) (q := n - 24) rfl rfl) (by have := nb_lt bs 25; omega)) rfl ?_
    refine sqS (q_pick rfl (fun h => nomatch h) (fun _ => rfl)) rfl ?_
    refine send ?_
    refine eseq ?_
    refine HT.no rfl ?_
    refine HT.skip ?_
    refine eseq ?_
    refine HT.seq ?_
    refine HT.seq ?_
    refine HT.plain ?_
    refine sMv rfl rfl ?_
    refine sqS (q_index (i := 24) (j := 0) rfl rfl Tryz.underlying22 nagg_5 (fun _ h => h) rfl (by omega)) rfl ?_
    refine sqS (q_byte (i := 24) (j := 0) rfl nagg_5 (fun _ h => h) rfl (by omega)) rfl ?_
    refine sAs rfl rfl ?_
    refine send ?_
    refine eseq ?_
    refine HT.block ?_
    refine HT.seq ?_
    refine HT.plain ?_
    refine sMv rfl rfl ?_
    refine sqS (q_T (q_eq (p := nb bs 24) (q := 1) rfl rfl) (by have := nb_lt bs 24; omega)) rfl ?_
    refine sAs rfl rfl ?_
    refine send ?_
    refine eseq ?_
    refine HT.yes rfl ?_
    refine HT.seq ?_
    refine HT.drawn mixed (St.closed _ _ _ _) (St w [] [⟨b2, 29, [some (.slice none 0 0), some (.slice none 0 0), some (.slice none 0 0), some (.slice none 0 0)], true⟩, ⟨b5, 5, [some (.int .u8 ((nb bs 1 : Nat) : Int))], true⟩, ⟨b7, 29, [some (.slice (some ⟨b65, 0, none⟩) 15 15), some (.slice none 0 0), none, some (.slice none 0 0)], true⟩, ⟨b65, 39, [some (.int .u64 (((nb bs 0) / 32 : Nat) : Int)), some (.int .u64 (((nb bs 0) &&& 31 : Nat) : Int)), none, some (.int .u64 ((((nb bs 1) / 32) &&& 1 : Nat) : Int)), some (.int .u64 ((((nb bs 1) / 16) &&& 1 : Nat) : Int)), some (.int .u64 ((((nb bs 1) / 8) &&& 1 : Nat) : Int)), some (.int .u64 ((((nb bs 1) / 4) &&& 1 : Nat) : Int)), some (.int .u64 ((((nb bs 1) / 2) &&& 1 : Nat) : Int)), some (.int .u64 ((((nb bs 1) / 1) &&& 1 : Nat) : Int)), some (.int .u64 ((nb bs 2 : Nat) : Int)), some (.int .u64 ((bN bs 4 4 : Nat) : Int)), some (.int .u64 ((bN bs 8 4 : Nat) : Int)), some (.int .u64 ((bN bs 12 4 : Nat) : Int)), some (.int .u64 ((bN bs 16 4 : Nat) : Int)), some (.int .u64 ((bN bs 20 4 : Nat) : Int))], true⟩] [Byt A n c bs]) ?_
    refine dtake (f := 5) [0, 1, 2, 3, 5, 6] (by kernel_rfl) (St.closed _ _ _ _) (fun _ h => (h.wk [(0, []), (1, []), (2, [2]), (3, [2])] rfl)) (by kernel_rfl) ?_
    refine dq rfl (q_move rfl) ?_
    refine dq rfl (q_index (i := 26) (j := 0) rfl rfl Tryz.underlying22 nagg_5 (fun _ h => h) rfl (by omega)) ?_
    refine dq rfl (q_byte (i := 26) (j := 0) rfl nagg_5 (fun _ h => h) rfl (by omega)) ?_
    refine dq rfl (q_convn (p := nb bs 26) rfl Tryz.underlying5 Tryz.underlying39 (show nb bs 26 < 18446744073709551616 by have := nb_lt bs 26; omega)) ?_
    refine dq rfl (q_move rfl) ?_
    refine dq rfl (q_slice (lo := 27) (hi := n) rfl Tryz.underlying22 nagg_5 (.inr ⟨_, _, rfl, rfl⟩) (.inl ⟨rfl, rfl⟩) (by omega) (by omega)) ?_
    refine QL.nil ?_
    refine RG.step1 4 (by kernel_rfl) ?_
    refine dop rfl (l_buildSlice (e := 39) (vs := [(0, (.int .u64 ((1 : Nat) : Int))), (1, (.int .u64 ((nb bs 26 : Nat) : Int))), (2, (.int .u64 ((0 : Nat) : Int)))]) (cs := [(.int .u64 ((1 : Nat) : Int)), (.int .u64 ((nb bs 26 : Nat) : Int)), (.int .u64 ((0 : Nat) : Int))]) (by decide) rfl (fun _ => by kernel_rfl) fun b95 => ⟨(fun _ h => (h.wk [(0, []), (1, []), (2, [2]), (3, [2])] rfl)), ?_⟩)
    refine dtake (f := 3) [7] (by kernel_rfl) (St.closed _ _ _ _) (fun _ h => (h.wk [(0, []), (1, []), (2, [2]), (3, [2])] rfl)) (by kernel_rfl) ?_
    refine dq rfl (q_build (vs := [(0, (.slice (some ⟨b95, 0, none⟩) 3 3)), (1, (.slice (cutA A c 27) (n - 27) (c - 27)))]) (v := (.agg #[(.slice (some ⟨b95, 0, none⟩) 3 3), (.slice (cutA A c 27) (n - 27) (c - 27))])) rfl (fun _ => by kernel_rfl)) ?_
    refine QL.nil ?_
    refine RG.step1 8 (by kernel_rfl) ?_
    refine dop rfl (l_buildSlice (e := 49) (vs := [(0, (.agg #[(.slice (some ⟨b95, 0, none⟩) 3 3), (.slice (cutA A c 27) (n - 27) (c - 27))]))]) (cs := [(.slice (some ⟨b95, 0, none⟩) 3 3), (.slice (cutA A c 27) (n - 27) (c - 27))]) (by decide) rfl (fun _ => by kernel_rfl) fun b99 => ⟨(fun _ h => (h.wk [(0, []), (1, []), (2, [2]), (3, [2])] rfl)), ?_⟩)
    refine dtake (f := 1) [9] (by kernel_rfl) (St.closed _ _ _ _) (fun _ h => (h.wk [(0, []), (1, []), (2, [2]), (3, [2])] rfl)) (by kernel_rfl) ?_
    refine dq rfl (q_field (b := b7) (off := 0) rfl fo_29_2) ?_
    refine QL.nil ?_
    refine RG.step1 10 (by kernel_rfl) ?_
    refine dop rfl (l_store (b := b7) (off := 2) (j := 2) rfl rfl nagg_27 rfl rfl rfl rfl (dlt rfl) ⟨(fun _ h => (h.wk [(0, []), (1, []), (2, [2]), (3, [2])] rfl)), ?_⟩)
    refine dend (by kernel_rfl) ?_
    refine eseq ?_
    refine HT.norm [⟨b2, 29, [some (.slice none 0 0), some (.slice none 0 0), some (.slice none 0 0), some (.slice none 0 0)], true⟩, ⟨b5, 5, [some (.int .u8 ((nb bs 1 : Nat) : Int))], true⟩, ⟨b7, 29, [some (.slice (some ⟨b65, 0, none⟩) 15 15), some (.slice none 0 0), some (.slice (some ⟨b99, 0, none⟩) 1 1), some (.slice none 0 0)], true⟩, (bfd_s6_k0 b65 bs), ⟨b95, 39, [some (.int .u64 ((1 : Nat) : Int)), some (.int .u64 ((nb bs 26 : Nat) : Int)), some (.int .u64 ((0 : Nat) : Int))], true⟩, ⟨b99, 49, [some (.slice (some ⟨b95, 0, none⟩) 3 3), some (.slice (cutA A c 27) (n - 27) (c - 27))], true⟩] [Byt A n c bs] rfl rfl ?_
    refine HT.seq ?_
    refine HT.plain ?_
    refine sqS (q_loadAgg (b := b7) (off := 0) (j := 2) (vs := [(.slice (some ⟨b65, 0, none⟩) 15 15), (.slice none 0 0), (.slice (some ⟨b99, 0, none⟩) 1 1), (.slice none 0 0)]) rfl aggs_29 (fun _ h => h) rfl rfl rfl) rfl ?_
    refine sl_ (l_storeAgg (b := b2) (off := 0) (j := 0) (vs := [(.slice (some ⟨b65, 0, none⟩) 15 15), (.slice none 0 0), (.slice (some ⟨b99, 0, none⟩) 1 1), (.slice none 0 0)]) rfl rfl aggs_29 (by simp [Value.one1]) rfl rfl rfl (Nat.le_of_ble_eq_true rfl) ?_)
    refine sAs rfl rfl ?_
    refine sAs rfl rfl ?_
    refine send ?_
    refine eseq ?_
    refine HT.norm [⟨b2, 29, [some (.slice (some ⟨b65, 0, none⟩) 15 15), some (.slice none 0 0), some (.slice (some ⟨b99, 0, none⟩) 1 1), some (.slice none 0 0)], true⟩, ⟨b5, 5, [some (.int .u8 ((nb bs 1 : Nat) : Int))], true⟩, ⟨b7, 29, [some (.slice (some ⟨b65, 0, none⟩) 15 15), some (.slice none 0 0), some (.slice (some ⟨b99, 0, none⟩) 1 1), some (.slice none 0 0)], true⟩, (bfd_s6_k0 b65 bs), ⟨b95, 39, [some (.int .u64 ((1 : Nat) : Int)), some (.int .u64 ((nb bs 26 : Nat) : Int)), some (.int .u64 ((0 : Nat) : Int))], true⟩, ⟨b99, 49, [some (.slice (some ⟨b95, 0, none⟩) 3 3), some (.slice (cutA A c 27) (n - 27) (c - 27))], true⟩] [Byt A n c bs] rfl rfl ?_
    refine HT.ret ?_
    refine rt_in ?_
    refine rt_then ?_
    exact fun a ha w' hw => fin_ ha (resc3 ha Tryz.results41 rfl (ld_ aggs_29 hw (j := 0) rfl rfl (vs := [(.slice (some ⟨b65, 0, none⟩) 15 15), (.slice none 0 0), (.slice (some ⟨b99, 0, none⟩) 1 1), (.slice none 0 0)]) rfl) rfl rfl) ⟨b65, b99, b95, rfl, (hw.wk [(3, []), (5, []), (4, [])] rfl), fr0⟩

theorem bfd_S6 (w : World) (A : Option Addr) (n : Nat) (c : Nat) (bs : List UInt8) (hn : n ≤ 2147483647) (ha : 24 ≤ n) (hb : nb bs 3 = n) (hc : nb bs 1 / 4 % 2 = 1) (hd : 28 ≤ n) (he : nb bs 25 = n - 24) (hf : nb bs 24 = 1) (hst : St w [] [] [Byt A n c bs] w) : Calls Tryz.prog 26 #[(.string ⟨#[98, 102, 100]⟩), (.slice A n c)] w (SP w (Byt A n c bs) (some (some ⟨[(nb bs 0) / 32, (nb bs 0) &&& 31, (nb bs 1) / 64, ((nb bs 1) / 32) &&& 1, ((nb bs 1) / 16) &&& 1, ((nb bs 1) / 8) &&& 1, ((nb bs 1) / 4) &&& 1, ((nb bs 1) / 2) &&& 1, ((nb bs 1) / 1) &&& 1, nb bs 2, bN bs 4 4, bN bs 8 4, bN bs 12 4, bN bs 16 4, bN bs 20 4], [], [([1, nb bs 26, 0], sl bs 27 n)], []⟩))) := by
  have hnc00 : n ≤ c := (hst.fact (j := 0) rfl).2.1
  refine enter (vs := [(.string ⟨#[98, 102, 100]⟩), (.slice A n c)]) Tryz.func26 rfl rfl rfl hst ?_
  refine HT.seq ?_
  refine HT.plain ?_
  refine sl_ (l_alloc (by decide) zero_29 fun b4 => ?_)
  refine sAs rfl rfl ?_
  refine sAs rfl rfl ?_
  refine send ?_
  refine eseq ?_
  refine HT.seq ?_
  refine HT.plain ?_
  refine sl_ (l_makeMap (by decide) fun b13 => ?_)
  refine sl_ (l_insert (es := es0) (ck := 0) rfl rfl rfl Tryz.underlying36 Tryz.underlying9 fi0 ?_)
  refine sl_ (l_insert (es := es1) (ck := 1) rfl rfl rfl Tryz.underlying36 Tryz.underlying9 fi1 ?_)
  refine sl_ (l_insert (es := es2) (ck := 2) rfl rfl rfl Tryz.underlying36 Tryz.underlying9 fi2 ?_)
  refine sl_ (l_insert (es := es3) (ck := 3) rfl rfl rfl Tryz.underlying36 Tryz.underlying9 fi3 ?_)
  refine sl_ (l_insert (es := es4) (ck := 4) rfl rfl rfl Tryz.underlying36 Tryz.underlying9 fi4 ?_)
  refine sl_ (l_insert (es := es5) (ck := 5) rfl rfl rfl Tryz.underlying36 Tryz.underlying9 fi5 ?_)
  refine sl_ (l_insert (es := es6) (ck := 6) rfl rfl rfl Tryz.underlying36 Tryz.underlying9 fi6 ?_)
  refine sl_ (l_insert (es := es7) (ck := 7) rfl rfl rfl Tryz.underlying36 Tryz.underlying9 fi7 ?_)
  refine sl_ (l_insert (es := es8) (ck := 8) rfl rfl rfl Tryz.underlying36 Tryz.underlying9 fi8 ?_)
  refine sl_ (l_insert (es := es9) (ck := 9) rfl rfl rfl Tryz.underlying36 Tryz.underlying9 fi9 ?_)
  refine sl_ (l_insert (es := es10) (ck := 10) rfl rfl rfl Tryz.underlying36 Tryz.underlying9 fi10 ?_)
  refine sl_ (l_insert (es := es11) (ck := 11) rfl rfl rfl Tryz.underlying36 Tryz.underlying9 fi11 ?_)
  refine sl_ (l_insert (es := es12) (ck := 12) rfl rfl rfl Tryz.underlying36 Tryz.underlying9 fi12 ?_)
  refine sl_ (l_insert (es := es13) (ck := 13) rfl rfl rfl Tryz.underlying36 Tryz.underlying9 fi13 ?_)
  refine sl_ (l_insert (es := es14) (ck := 14) rfl rfl rfl Tryz.underlying36 Tryz.underlying9 fi14 ?_)
  refine sl_ (l_insert (es := es15) (ck := 15) rfl rfl rfl Tryz.underlying36 Tryz.underlying9 fi15 ?_)
  refine sl_ (l_insert (es := es16) (ck := 16) rfl rfl rfl Tryz.underlying36 Tryz.underlying9 fi16 ?_)
  refine sl_ (l_insert (es := es17) (ck := 17) rfl rfl rfl Tryz.underlying36 Tryz.underlying9 fi17 ?_)
  refine sl_ (l_insert (es := es18) (ck := 18) rfl rfl rfl Tryz.underlying36 Tryz.underlying9 fi18 ?_)
  refine sl_ (l_insert (es := es19) (ck := 19) rfl rfl rfl Tryz.underlying36 Tryz.underlying9 fi19 ?_)
  refine sl_ (l_insert (es := es20) (ck := 20) rfl rfl rfl Tryz.underlying36 Tryz.underlying9 fi20 ?_)
  refine sq (SM.closed) (q_move rfl) rfl ?_
  refine sq (SM.closed) (q_move rfl) rfl ?_
  refine sq (SM.closed) (q_lookup (es := es21) (i := 15) (v := (.int .i64 ((24 : Nat) : Int))) (fun _ h => h) rfl rfl Tryz.underlying36 Tryz.underlying9 (by kernel_rfl)) rfl ?_
  refine sq (SM.closed) (q_assign rfl) rfl ?_
  refine send ?_
  refine eseq ?_
  refine HT.unmap ?_
  refine HT.seq ?_
  refine HT.seq ?_
  refine HT.plain ?_
  refine sMv rfl rfl ?_
  refine sqS (q_len (len := n) rfl Tryz.underlying22) rfl ?_
  refine sMv rfl rfl ?_
  refine sqS (q_F (q_lt (p := n) (q := 24) rfl rfl) (by omega)) rfl ?_
  refine send ?_
  refine eseq ?_
  refine HT.no rfl ?_
  refine HT.skip ?_
  refine eseq ?_
  refine HT.seq ?_
  refine HT.seq ?_
  refine HT.plain ?_
  refine sMv rfl rfl ?_
  refine send ?_
  refine eseq ?_
  refine HT.block ?_
  refine HT.seq ?_
  refine HT.plain ?_
  refine sqS (q_eqs rfl rfl (r := false) (by kernel_rfl)) rfl ?_
  refine sAs rfl rfl ?_
  refine send ?_
  refine eseq ?_
  refine HT.no rfl ?_
  refine HT.seq ?_
  refine HT.plain ?_
  refine sqS (q_eqs rfl rfl (r := false) (by kernel_rfl)) rfl ?_
  refine sAs rfl rfl ?_
  refine send ?_
  refine eseq ?_
  refine HT.no rfl ?_
  refine HT.seq ?_
  refine HT.plain ?_
  refine sqS (q_eqs rfl rfl (r := false) (by kernel_rfl)) rfl ?_
  refine sAs rfl rfl ?_
  refine send ?_
  refine eseq ?_
  refine HT.no rfl ?_
  refine HT.seq ?_
  refine HT.plain ?_
  refine sqS (q_eqs rfl rfl (r := false) (by kernel_rfl)) rfl ?_
  refine sAs rfl rfl ?_
  refine send ?_
  refine eseq ?_
  refine HT.no rfl ?_
  refine HT.seq ?_
  refine HT.plain ?_
  refine sqS (q_eqs rfl rfl (r := false) (by kernel_rfl)) rfl ?_
  refine sAs rfl rfl ?_
  refine send ?_
  refine eseq ?_
  refine HT.no rfl ?_
  refine HT.seq ?_
  refine HT.plain ?_
  refine sqS (q_eqs rfl rfl (r := false) (by kernel_rfl)) rfl ?_
  refine sAs rfl rfl ?_
  refine send ?_
  refine eseq ?_
  refine HT.no rfl ?_
  refine HT.seq ?_
  refine HT.plain ?_
  refine sqS (q_eqs rfl rfl (r := false) (by kernel_rfl)) rfl ?_
  refine sAs rfl rfl ?_
  refine send ?_
  refine eseq ?_
  refine HT.no rfl ?_
  refine HT.seq ?_
  refine HT.plain ?_
  refine sqS (q_eqs rfl rfl (r := false) (by kernel_rfl)) rfl ?_
  refine sAs rfl rfl ?_
  refine send ?_
  refine eseq ?_
  refine HT.no rfl ?_
  refine HT.seq ?_
  refine HT.plain ?_
  refine sqS (q_eqs rfl rfl (r := false) (by kernel_rfl)) rfl ?_
  refine sAs rfl rfl ?_
  refine send ?_
  refine eseq ?_
  refine HT.no rfl ?_
  refine HT.seq ?_
  refine HT.plain ?_
  refine sqS (q_eqs rfl rfl (r := false) (by kernel_rfl)) rfl ?_
  refine sAs rfl rfl ?_
  refine send ?_
  refine eseq ?_
  refine HT.no rfl ?_
  refine HT.seq ?_
  refine HT.plain ?_
  refine sqS (q_eqs rfl rfl (r := false) (by kernel_rfl)) rfl ?_
  refine sAs rfl rfl ?_
  refine send ?_
  refine eseq ?_
  refine HT.no rfl ?_
  refine HT.seq ?_
  refine HT.plain ?_
  refine sqS (q_eqs rfl rfl (r := false) (by kernel_rfl)) rfl ?_
  refine sAs rfl rfl ?_
  refine send ?_
  refine eseq ?_
  refine HT.no rfl ?_
  refine HT.seq ?_
  refine HT.plain ?_
  refine sqS (q_eqs rfl rfl (r := false) (by kernel_rfl)) rfl ?_
  refine sAs rfl rfl ?_
  refine send ?_
  refine eseq ?_
  refine HT.no rfl ?_
  refine HT.seq ?_
  refine HT.plain ?_
  refine sqS (q_eqs rfl rfl (r := false) (by kernel_rfl)) rfl ?_
  refine sAs rfl rfl ?_
  refine send ?_
  refine eseq ?_
  refine HT.no rfl ?_
  refine HT.seq ?_
  refine HT.plain ?_
  refine sqS (q_eqs rfl rfl (r := false) (by kernel_rfl)) rfl ?_
  refine sAs rfl rfl ?_
  refine send ?_
  refine eseq ?_
  refine HT.no rfl ?_
  refine HT.seq ?_
  refine HT.plain ?_
  refine sqS (q_eqs rfl rfl (r := true) (by kernel_rfl)) rfl ?_
  refine sAs rfl rfl ?_
  refine send ?_
  refine eseq ?_
  refine HT.yes rfl ?_
  refine HT.seq ?_
  refine HT.plain ?_
  refine sMv rfl rfl ?_
  refine sl_ (l_callX3 (vs := [(.slice A n c)]) (Kc := []) (Bc := [Byt A n c bs]) [] [0] [Byt A n c bs] (fun b65 b99 b95 => [⟨b4, 29, [some (.slice none 0 0), some (.slice none 0 0), some (.slice none 0 0), some (.slice none 0 0)], true⟩, ⟨b65, 39, [some (.int .u64 (((nb bs 0) / 32 : Nat) : Int)), some (.int .u64 (((nb bs 0) &&& 31 : Nat) : Int)), some (.int .u64 (((nb bs 1) / 64 : Nat) : Int)), some (.int .u64 ((((nb bs 1) / 32) &&& 1 : Nat) : Int)), some (.int .u64 ((((nb bs 1) / 16) &&& 1 : Nat) : Int)), some (.int .u64 ((((nb bs 1) / 8) &&& 1 : Nat) : Int)), some (.int .u64 ((((nb bs 1) / 4) &&& 1 : Nat) : Int)), some (.int .u64 ((((nb bs 1) / 2) &&& 1 : Nat) : Int)), some (.int .u64 ((((nb bs 1) / 1) &&& 1 : Nat) : Int)), some (.int .u64 ((nb bs 2 : Nat) : Int)), some (.int .u64 ((bN bs 4 4 : Nat) : Int)), some (.int .u64 ((bN bs 8 4 : Nat) : Int)), some (.int .u64 ((bN bs 12 4 : Nat) : Int)), some (.int .u64 ((bN bs 16 4 : Nat) : Int)), some (.int .u64 ((bN bs 20 4 : Nat) : Int))], true⟩, ⟨b99, 49, [some (.slice (some ⟨b95, 0, none⟩) 3 3), some (.slice (cutA A c 27) (n - 27) (c - 27))], true⟩, ⟨b95, 39, [some (.int .u64 ((1 : Nat) : Int)), some (.int .u64 ((nb bs 26 : Nat) : Int)), some (.int .u64 ((0 : Nat) : Int))], true⟩]) (fun b65 b99 b95 => [Byt A n c bs]) (by decide) rfl ca_41 (fun _ h => h) rfl rfl rfl rfl (fun w h => bfd_s6 w A n c bs (by omega) (by omega) (by omega) (by omega) (by omega) (by omega) (by omega) h) (fun _ _ _ => rfl) (fun _ _ _ => rfl) (fun _ _ _ => rfl) (fun _ _ _ => rfl) fun b65 b99 b95 hf1 he2 => ?_)
  refine sqS (q_extract (vs := [(.agg #[(.slice (some ⟨b65, 0, none⟩) 15 15), (.slice none 0 0), (.slice (some ⟨b99, 0, none⟩) 1 1), (.slice none 0 0)]), (.bool true), (.bool true)]) (i := 0) rfl rfl) rfl ?_
  refine sqS (q_extract (vs := [(.agg #[(.slice (some ⟨b65, 0, none⟩) 15 15), (.slice none 0 0), (.slice (some ⟨b99, 0, none⟩) 1 1), (.slice none 0 0)]), (.bool true), (.bool true)]) (i := 1) rfl rfl) rfl ?_
  refine sqS (q_extract (vs := [(.agg #[(.slice (some ⟨b65, 0, none⟩) 15 15), (.slice none 0 0), (.slice (some ⟨b99, 0, none⟩) 1 1), (.slice none 0 0)]), (.bool true), (.bool true)]) (i := 2) rfl rfl) rfl ?_
  refine sl_ (l_storeAgg (b := b4) (off := 0) (j := 0) (vs := [(.slice (some ⟨b65, 0, none⟩) 15 15), (.slice none 0 0), (.slice (some ⟨b99, 0, none⟩) 1 1), (.slice none 0 0)]) rfl rfl aggs_29 (by simp [Value.one1]) rfl rfl rfl (Nat.le_of_ble_eq_true rfl) ?_)
  refine sAs rfl rfl ?_
  refine sAs rfl rfl ?_
  refine send ?_
  refine eseq ?_
  refine HT.ret ?_
  refine rt_in ?_
  refine rt_then ?_
  exact fun a ha w' hw => fin_ ha (resc3 ha Tryz.results26 rfl (ld_ aggs_29 hw (j := 0) rfl rfl (vs := [(.slice (some ⟨b65, 0, none⟩) 15 15), (.slice none 0 0), (.slice (some ⟨b99, 0, none⟩) 1 1), (.slice none 0 0)]) rfl) rfl rfl) ⟨⟨⟨some ⟨b65, 0, none⟩, 15, 15, [(nb bs 0) / 32, (nb bs 0) &&& 31, (nb bs 1) / 64, ((nb bs 1) / 32) &&& 1, ((nb bs 1) / 16) &&& 1, ((nb bs 1) / 8) &&& 1, ((nb bs 1) / 4) &&& 1, ((nb bs 1) / 2) &&& 1, ((nb bs 1) / 1) &&& 1, nb bs 2, bN bs 4 4, bN bs 8 4, bN bs 12 4, bN bs 16 4, bN bs 20 4]⟩, none, 0, 0, [], some ⟨b99, 0, none⟩, 1, 1, [(⟨some ⟨b95, 0, none⟩, 3, 3, [1, nb bs 26, 0]⟩, ⟨cutA A c 27, n - 27, c - 27, sl bs 27 n⟩)], ⟨none, 0, 0, []⟩⟩, rfl, hw.pres, Own.lay (all1 (Own.cel hw (j := 1) (sz := 1) (r := []) rfl rfl rfl rfl (Nat.le_refl _)) (all1 (Own.nilCel 1) (all1 (Own.cel hw (j := 2) (sz := 2) (r := []) rfl rfl rfl rfl (Nat.le_refl _)) (all1 Own.nilByt (all1 (Own.cel hw (j := 3) (sz := 1) (r := []) rfl rfl rfl rfl (Nat.le_refl _)) (all1 (Own.cut hw (j := 0) (lo := 27) (hi := n) rfl (fun _ h => .inr h) (by omega) (by omega)) all0)))))), rfl⟩
end Go.Proofs.YtfkaafbeeegenaaGreat.Zed
