/- gtp: the reference, first part -/
import Derived.Test.YtfkaafbeeegenaaGreatRead
import Derived.Test.YtfkaafbeeegenaaGreatOff
import Derived.KernelRfl
namespace Go.Proofs.YtfkaafbeeegenaaGreat.Zed
set_option linter.unusedVariables false
set_option linter.unusedSimpArgs false
set_option maxRecDepth 100000
set_option maxHeartbeats 4000000
theorem ca_40 : callable Tryz.prog 40 = true := by kernel_rfl
theorem rowT_49 : rowT Tryz.prog 49 2 := ⟨_, _, rfl, rfl, rfl, rfl, by decide⟩
theorem ca_65 : callable Tryz.prog 65 = true := by kernel_rfl
theorem ca_98 : callable Tryz.prog 98 = true := by kernel_rfl
theorem ca_80 : callable Tryz.prog 80 = true := by kernel_rfl
theorem fo_124_1 : foff Tryz.prog 124 1 = some 2 := by kernel_rfl
theorem fo_124_2 : foff Tryz.prog 124 2 = some 3 := by kernel_rfl
theorem fo_124_3 : foff Tryz.prog 124 3 = some 4 := by kernel_rfl
theorem fo_124_5 : foff Tryz.prog 124 5 = some 6 := by kernel_rfl
theorem fo_124_6 : foff Tryz.prog 124 6 = some 7 := by kernel_rfl
theorem fo_124_4 : foff Tryz.prog 124 4 = some 5 := by kernel_rfl
theorem fo_124_7 : foff Tryz.prog 124 7 = some 8 := by kernel_rfl
theorem ca_91 : callable Tryz.prog 91 = true := by kernel_rfl
theorem fo_124_8 : foff Tryz.prog 124 8 = some 9 := by kernel_rfl
theorem nagg_70 : nagg Tryz.prog 70 = true := by kernel_rfl
theorem fo_124_9 : foff Tryz.prog 124 9 = some 10 := by kernel_rfl
theorem fo_124_0 : foff Tryz.prog 124 0 = some 0 := by kernel_rfl
theorem aggs_68 : aggs Tryz.prog 68 = some 2 := by kernel_rfl
theorem zero_110 : (Tryz.prog.info? 110).bind (·.zero) = some (.pointer none) := by kernel_rfl
theorem zero_114 : (Tryz.prog.info? 114).bind (·.zero) = some (.pointer none) := by kernel_rfl
theorem fo_124_10 : foff Tryz.prog 124 10 = some 11 := by kernel_rfl
theorem fo_124_11 : foff Tryz.prog 124 11 = some 12 := by kernel_rfl
theorem fo_124_12 : foff Tryz.prog 124 12 = some 13 := by kernel_rfl
theorem nagg_122 : nagg Tryz.prog 122 = true := by kernel_rfl
theorem me_121_LayerPayload : ∀ (b : Nat) (w : World), (method (Tryz.prog.types.size + Made.depth) 121 (.pointer (some ⟨b, 0, none⟩)) "LayerPayload").run Tryz.prog w = .ok (120, .pointer (some ⟨b, 0, none⟩)) w := fun b w => by kernel_rfl
theorem zero_126 : (Tryz.prog.info? 126).bind (·.zero) = some (.agg #[(.int .u8 ((0 : Nat) : Int)), (.slice none 0 0)]) := by kernel_rfl
theorem aggs_126 : aggs Tryz.prog 126 = some 2 := by kernel_rfl
theorem rowT_126 : rowT Tryz.prog 126 2 := ⟨_, _, rfl, rfl, rfl, rfl, by decide⟩
theorem size_126 : (Tryz.prog.info? 126).map (·.size) = some 2 := by kernel_rfl
theorem fo_126_0 : foff Tryz.prog 126 0 = some 0 := by kernel_rfl
theorem fo_126_1 : foff Tryz.prog 126 1 = some 1 := by kernel_rfl

theorem gtp_S0 (w : World) (A : Option Addr) (n : Nat) (c : Nat) (bs : List UInt8) (hn : n ≤ 2147483647) (ha : n < 8) (hst : St w [] [] [Byt A n c bs] w) : Calls Tryz.prog 26 #[(.string ⟨#[103, 116, 112]⟩), (.slice A n c)] w (SP w (Byt A n c bs) (some none)) := by
  have hnc00 : n ≤ c := (hst.fact (j := 0) rfl).2.1
  refine enter (vs := [(.string ⟨#[103, 116, 112]⟩), (.slice A n c)]) Tryz.func26 rfl rfl rfl hst ?_
  refine HT.seq ?_
  refine HT.plain ?_
  refine sl_ (l_alloc (by decide) zero_29 fun b4 => ?_)
  refine sAs rfl rfl ?_
  refine sAs rfl rfl ?_
  refine send ?_
  refine eseq ?_
  refine HT.seq ?_
  refine HT.plain ?_
  refine sl_ (l_makeMap (by decide) fun b13 => ?_)
  refine sl_ (l_insert (es := es0) (ck := 0) rfl rfl rfl Tryz.underlying36 Tryz.underlying9 fi0 ?_)
  refine sl_ (l_insert (es := es1) (ck := 1) rfl rfl rfl Tryz.underlying36 Tryz.underlying9 fi1 ?_)
  refine sl_ (l_insert (es := es2) (ck := 2) rfl rfl rfl Tryz.underlying36 Tryz.underlying9 fi2 ?_)
  refine sl_ (l_insert (es := es3) (ck := 3) rfl rfl rfl Tryz.underlying36 Tryz.underlying9 fi3 ?_)
  refine sl_ (l_insert (es := es4) (ck := 4) rfl rfl rfl Tryz.underlying36 Tryz.underlying9 fi4 ?_)
  refine sl_ (l_insert (es := es5) (ck := 5) rfl rfl rfl Tryz.underlying36 Tryz.underlying9 fi5 ?_)
  refine sl_ (l_insert (es := es6) (ck := 6) rfl rfl rfl Tryz.underlying36 Tryz.underlying9 fi6 ?_)
  refine sl_ (l_insert (es := es7) (ck := 7) rfl rfl rfl Tryz.underlying36 Tryz.underlying9 fi7 ?_)
  refine sl_ (l_insert (es := es8) (ck := 8) rfl rfl rfl Tryz.underlying36 Tryz.underlying9 fi8 ?_)
  refine sl_ (l_insert (es := es9) (ck := 9) rfl rfl rfl Tryz.underlying36 Tryz.underlying9 fi9 ?_)
  refine sl_ (l_insert (es := es10) (ck := 10) rfl rfl rfl Tryz.underlying36 Tryz.underlying9 fi10 ?_)
  refine sl_ (l_insert (es := es11) (ck := 11) rfl rfl rfl Tryz.underlying36 Tryz.underlying9 fi11 ?_)
  refine sl_ (l_insert (es := es12) (ck := 12) rfl rfl rfl Tryz.underlying36 Tryz.underlying9 fi12 ?_)
  refine sl_ (l_insert (es := es13) (ck := 13) rfl rfl rfl Tryz.underlying36 Tryz.underlying9 fi13 ?_)
  refine sl_ (l_insert (es := es14) (ck := 14) rfl rfl rfl Tryz.underlying36 Tryz.underlying9 fi14 ?_)
  refine sl_ (l_insert (es := es15) (ck := 15) rfl rfl rfl Tryz.underlying36 Tryz.underlying9 fi15 ?_)
  refine sl_ (l_insert (es := es16) (ck := 16) rfl rfl rfl Tryz.underlying36 Tryz.underlying9 fi16 ?_)
  refine sl_ (l_insert (es := es17) (ck := 17) rfl rfl rfl Tryz.underlying36 Tryz.underlying9 fi17 ?_)
  refine sl_ (l_insert (es := es18) (ck := 18) rfl rfl rfl Tryz.underlying36 Tryz.underlying9 fi18 ?_)
  refine sl_ (l_insert (es := es19) (ck := 19) rfl rfl rfl Tryz.underlying36 Tryz.underlying9 fi19 ?_)
  refine sl_ (l_insert (es := es20) (ck := 20) rfl rfl rfl Tryz.underlying36 Tryz.underlying9 fi20 ?_)
  refine sq (SM.closed) (q_move rfl) rfl ?_
  refine sq (SM.closed) (q_move rfl) rfl ?_
  refine sq (SM.closed) (q_lookup (es := es21) (i := 11) (v := (.int .i64 ((8 : Nat) : Int))) (fun _ h => h) rfl rfl Tryz.underlying36 Tryz.underlying9 (by kernel_rfl)) rfl ?_
  refine sq (SM.closed) (q_assign rfl) rfl ?_
  refine send ?_
  refine eseq ?_
  refine HT.unmap ?_
  refine HT.seq ?_
  refine HT.seq ?_
  refine HT.plain ?_
  refine sMv rfl rfl ?_
  refine sqS (q_len (len := n) rfl Tryz.underlying22) rfl ?_
  refine sMv rfl rfl ?_
  refine sqS (q_T (q_lt (p := n) (q := 8) rfl rfl) (by omega)) rfl ?_
  refine send ?_
  refine eseq ?_
  refine HT.yes rfl ?_
  refine HT.seq ?_
  refine HT.plain ?_
  refine sqS (q_build (vs := []) (v := (.agg #[(.slice none 0 0), (.slice none 0 0), (.slice none 0 0), (.slice none 0 0)])) rfl (fun _ => by kernel_rfl)) rfl ?_
  refine sl_ (l_storeAgg (b := b4) (off := 0) (j := 0) (vs := [(.slice none 0 0), (.slice none 0 0), (.slice none 0 0), (.slice none 0 0)]) rfl rfl aggs_29 (by simp [Value.one1]) rfl rfl rfl (Nat.le_of_ble_eq_true rfl) ?_)
  refine sAs rfl rfl ?_
  refine sAs rfl rfl ?_
  refine send ?_
  refine eseq ?_
  refine HT.ret ?_
  refine rt_then ?_
  exact fun a ha w' hw => fin_ ha (resc3 ha Tryz.results26 rfl (ld_ aggs_29 hw (j := 0) rfl rfl (vs := [(.slice none 0 0), (.slice none 0 0), (.slice none 0 0), (.slice none 0 0)]) rfl) rfl rfl) ⟨rfl, hw.pres⟩

theorem gtp_s1 (w : World) (A : Option Addr) (n : Nat) (c : Nat) (bs : List UInt8) (hn : n ≤ 2147483647) (ha : 8 ≤ n) (hb : n - 8 < bN bs 2 2) (hc : bN bs 2 2 < 65528) (hst : St w [] [] [Byt A n c bs] w) : Calls Tryz.prog 40 #[(.slice A n c)] w (fun e w' => e = .returned (.tuple #[(.agg #[(.slice none 0 0), (.slice none 0 0), (.slice none 0 0), (.slice none 0 0)]), (.bool false), (.bool true)]) ∧ Pres [] w w') := by
  have hnc00 : n ≤ c := (hst.fact (j := 0) rfl).2.1
  refine enter (vs := [(.slice A n c)]) Tryz.func40 rfl rfl rfl hst ?_
  refine HT.seq ?_
  refine HT.plain ?_
  refine sl_ (l_alloc (by decide) zero_29 fun b2 => ?_)
  refine sAs rfl rfl ?_
  refine sAs rfl rfl ?_
  refine send ?_
  refine eseq ?_
  refine HT.seq ?_
  refine HT.plain ?_
  refine sMv rfl rfl ?_
  refine sqS (q_index (i := 0) (j := 0) rfl rfl Tryz.underlying22 nagg_5 (fun _ h => h) rfl (by omega)) rfl ?_
  refine sqS (q_byte (i := 0) (j := 0) rfl nagg_5 (fun _ h => h) rfl (by omega)) rfl ?_
  refine sAs rfl rfl ?_
  refine send ?_
  refine eseq ?_
  refine HT.seq ?_
  refine HT.drawnS mixed (St.closed _ _ _ _) ?_
  refine dtake (f := 4) [0, 1, 2, 3, 4, 5, 6, 7, 8, 9, 10, 11, 12, 13, 14, 15, 16, 17, 18, 19, 20, 21, 22, 23, 24, 25, 26, 27, 28, 29, 30, 31, 32, 33] (by kernel_rfl) (St.closed _ _ _ _) (fun _ h => h) (by kernel_rfl) ?_
  refine dq rfl (q_move rfl) ?_
  refine dq rfl (q_slice (lo := 8) (hi := n) rfl Tryz.underlying22 nagg_5 (.inr ⟨_, _, rfl, rfl⟩) (.inl ⟨rfl, rfl⟩) (by omega) (by omega)) ?_
  refine dq rfl (q_move rfl) ?_
  refine dq rfl (q_shr (p := nb bs 0) (e := 5) (N := 32) rfl rfl (by decide) rfl) ?_
  refine dq rfl (q_convn (p := (nb bs 0) / 32) rfl Tryz.underlying5 Tryz.underlying39 (show (nb bs 0) / 32 < 18446744073709551616 by have := nb_lt bs 0; omega)) ?_
  refine dq rfl (q_move rfl) ?_
  refine dq rfl (q_shr (p := nb bs 0) (e := 4) (N := 16) rfl rfl (by decide) rfl) ?_
  refine dq rfl (q_and (p := (nb bs 0) / 16) (q := 1) rfl rfl rfl (show (nb bs 0) / 16 < 256 by have := nb_lt bs 0; omega) (by decide)) ?_
  refine dq rfl (q_convn (p := ((nb bs 0) / 16) &&& 1) rfl Tryz.underlying5 Tryz.underlying39 (show ((nb bs 0) / 16) &&& 1 < 18446744073709551616 by have := nb_lt bs 0; have := zm1 ((nb bs 0) / 16); have := Nat.and_le_left (n := (nb bs 0) / 16) (m := 1); have := Nat.and_le_right (n := (nb bs 0) / 16) (m := 1); omega)) ?_
  refine dq rfl (q_move rfl) ?_
  refine dq rfl (q_shr (p := nb bs 0) (e := 3) (N := 8) rfl rfl (by decide) rfl) ?_
  refine dq rfl (q_and (p := (nb bs 0) / 8) (q := 1) rfl rfl rfl (show (nb bs 0) / 8 < 256 by have := nb_lt bs 0; omega) (by decide)) ?_
  refine dq rfl (q_convn (p := ((nb bs 0) / 8) &&& 1) rfl Tryz.underlying5 Tryz.underlying39 (show ((nb bs 0) / 8) &&& 1 < 18446744073709551616 by have := nb_lt bs 0; have := zm1 ((nb bs 0) / 8); have := Nat.and_le_left (n := (nb bs 0) / 8) (m := 1); have := Nat.and_le_right (n := (nb bs 0) / 8) (m := 1); omega)) ?_
  refine dq rfl (q_move rfl) ?_
  refine dq rfl (q_shr (p := nb bs 0) (e := 2) (N := 4) rfl rfl (by decide) rfl) ?_
  refine dq rfl (q_and (p := (nb bs 0) / 4) (q := 1) rfl rfl rfl (show (nb bs 0) / 4 < 256 by have := nb_lt bs 0; omega) (by decide)) ?_
  refine dq rfl (q_convn (p := ((nb bs 0) / 4) &&& 1) rfl Tryz.underlying5 Tryz.underlying39 (show ((nb bs 0) / 4) &&& 1 < 18446744073709551616 by have := nb_lt bs 0; have := zm1 ((nb bs 0) / 4); have := Nat.and_le_left (n := (nb bs 0) / 4) (m := 1); have := Nat.and_le_right (n := (nb bs 0) / 4) (m := 1); omega)) ?_
  refine dq rfl (q_move rfl) ?_
  refine dq rfl (q_shr (p := nb bs 0) (e := 1) (N := 2) rfl rfl (by decide) rfl) ?_
  refine dq rfl (q_and (p := (nb bs 0) / 2) (q := 1) rfl rfl rfl (show (nb bs 0) / 2 < 256 by have := nb_lt bs 0; omega) (by decide)) ?_
  refine dq rfl (q_convn (p := ((nb bs 0) / 2) &&& 1) rfl Tryz.underlying5 Tryz.underlying39 (show ((nb bs 0) / 2) &&& 1 < 18446744073709551616 by have := nb_lt bs 0; have := zm1 ((nb bs 0) / 2); have := Nat.and_le_left (n := (nb bs 0) / 2) (m := 1); have := Nat.and_le_right (n := (nb bs 0) / 2) (m := 1); omega)) ?_
  refine dq rfl (q_move rfl) ?_
  refine dq rfl (q_and (p := nb bs 0) (q := 1) rfl rfl rfl (show nb bs 0 < 256 by have := nb_lt bs 0; omega) (by decide)) ?_
  refine dq rfl (q_convn (p := (nb bs 0) &&& 1) rfl Tryz.underlying5 Tryz.underlying39 (show (nb bs 0) &&& 1 < 18446744073709551616 by have := nb_lt bs 0; have := zm1 (nb bs 0); have := Nat.and_le_left (n := nb bs 0) (m := 1); have := Nat.and_le_right (n := nb bs 0) (m := 1); omega)) ?_
  refine dq rfl (q_move rfl) ?_
  refine dq rfl (q_index (i := 1) (j := 0) rfl rfl Tryz.underlying22 nagg_5 (fun _ h => h) rfl (by omega)) ?_
  refine dq rfl (q_byte (i := 1) (j := 0) rfl nagg_5 (fun _ h => h) rfl (by omega)) ?_
  refine dq rfl (q_convn (p := nb bs 1) rfl Tryz.underlying5 Tryz.underlying39 (show nb bs 1 < 18446744073709551616 by have := nb_lt bs 1; omega)) ?_
  refine dq rfl (q_move rfl) ?_
  refine dq rfl (q_slice (lo := 2) (hi := 4) rfl Tryz.underlying22 nagg_5 (.inr ⟨_, _, rfl, rfl⟩) (.inr ⟨_, _, rfl, rfl⟩) (by omega) (by omega)) ?_
  refine dq rfl (q_call (vs := [(.slice (cutA A c 2) (4 - 2) (c - 2))]) (v := (.int .u64 ((bN bs 2 2 : Nat) : Int))) rfl ca_34 (fun w h => NumberC w A n c bs (lo := 2) (hi := 4) (h.fact (j := 0) rfl) (k := 2) rfl (by decide) (by omega) (by omega))) ?_
  refine dq rfl (q_move rfl) ?_
  refine dq rfl (q_slice (lo := 4) (hi := 8) rfl Tryz.underlying22 nagg_5 (.inr ⟨_, _, rfl, rfl⟩) (.inr ⟨_, _, rfl, rfl⟩) (by omega) (by omega)) ?_
  refine dq rfl (q_call (vs := [(.slice (cutA A c 4) (8 - 4) (c - 4))]) (v := (.int .u64 ((bN bs 4 4 : Nat) : Int))) rfl ca_34 (fun w h => NumberC w A n c bs (lo := 4) (hi := 8) (h.fact (j := 0) rfl) (k := 4) rfl (by decide) (by omega) (by omega))) ?_
  refine QL.nil ?_
  refine RG.step2 34 36 (by kernel_rfl) ?_ ?_
  · refine dop rfl (l_buildSlice (e := 39) (vs := [(0, (.int .u64 (((nb bs 0) / 32 : Nat) : Int))), (1, (.int .u64 ((((nb bs 0) / 16) &&& 1 : Nat) : Int))), (2, (.int .u64 ((((nb bs 0) / 8) &&& 1 : Nat) : Int))), (3, (.int .u64 ((((nb bs 0) / 4) &&& 1 : Nat) : Int))), (4, (.int .u64 ((((nb bs 0) / 2) &&& 1 : Nat) : Int))), (5, (.int .u64 (((nb bs 0) &&& 1 : Nat) : Int))), (6, (.int .u64 ((nb bs 1 : Nat) : Int))), (7, (.int .u64 ((bN bs 2 2 : Nat) : Int))), (8, (.int .u64 ((bN bs 4 4 : Nat) : Int))), (9, (.int .u64 ((0 : Nat) : Int))), (10, (.int .u64 ((0 : Nat) : Int)))]) (cs := [(.int .u64 (((nb bs 0) / 32 : Nat) : Int)), (.int .u64 ((((nb bs 0) / 16) &&& 1 : Nat) : Int)), (.int .u64 ((((nb bs 0) / 8) &&& 1 : Nat) : Int)), (.int .u64 ((((nb bs 0) / 4) &&& 1 : Nat) : Int)), (.int .u64 ((((nb bs 0) / 2) &&& 1 : Nat) : Int)), (.int .u64 (((nb bs 0) &&& 1 : Nat) : Int)), (.int .u64 ((nb bs 1 : Nat) : Int)), (.int .u64 ((bN bs 2 2 : Nat) : Int)), (.int .u64 ((bN bs 4 4 : Nat) : Int)), (.int .u64 ((0 : Nat) : Int)), (.int .u64 ((0 : Nat) : Int))]) (by decide) rfl (fun _ => by kernel_rfl) fun b48 => ⟨(fun _ h => (h.wk [(0, [])] rfl)), ?_⟩)
    refine dtake (f := 2) [35] (by kernel_rfl) (St.closed _ _ _ _) (fun _ h => (h.wk [(0, [])] rfl)) (by kernel_rfl) ?_
    refine dq rfl (q_call (vs := [(.slice (cutA A c 8) (n - 8) (c - 8)), (.slice (some ⟨b48, 0, none⟩) 11 11)]) (v := (.agg #[(.slice (some ⟨b48, 0, none⟩) 11 11), (.slice none 0 0), (.slice none 0 0), (.slice (cutA A c 8) (n - 8) (c - 8))])) rfl ca_33 (fun w h => layerC w (cutA A c 8) (n - 8) (c - 8) (some ⟨b48, 0, none⟩) 11 11  (St.enter (sp := []) (Kc := []) (bi := []) h rfl rfl rfl))) ?_
    refine QL.nil ?_
    refine RG.step1 36 (by kernel_rfl) ?_
    refine dop rfl (l_alloc (by decide) zero_29 fun b6 => ⟨(fun _ h => (h.wk [(0, [])] rfl)), ?_⟩)
    refine RG.step1 37 (by kernel_rfl) ?_
    refine dop rfl (l_storeAgg (b := b6) (off := 0) (j := 2) (vs := [(.slice (some ⟨b48, 0, none⟩) 11 11), (.slice none 0 0), (.slice none 0 0), (.slice (cutA A c 8) (n - 8) (c - 8))]) rfl rfl aggs_29 (by simp [Value.one1]) rfl rfl rfl (Nat.le_of_ble_eq_true rfl) ⟨(fun _ h => (h.wk [(0, [])] rfl)), ?_⟩)
    refine dend (by kernel_rfl) ?_
    refine eseq ?_
    refine HT.seq ?_
    refine HT.seq ?_
    refine HT.plain ?_
    refine sMv rfl rfl ?_
    refine sqS (q_slice (lo := 2) (hi := 4) rfl Tryz.underlying22 nagg_5 (.inr ⟨_, _, rfl, rfl⟩) (.inr ⟨_, _, rfl, rfl⟩) (by omega) (by omega)) rfl ?_
    refine sqS (q_call (vs := [(.slice (cutA A c 2) (4 - 2) (c - 2))]) (v := (.int .u64 ((bN bs 2 2 : Nat) : Int))) rfl ca_34 (fun w h => NumberC w A n c bs (lo := 2) (hi := 4) (h.fact (j := 0) rfl) (k := 2) rfl (by decide) (by omega) (by omega))) rfl ?_
    refine sqS (q_convn (p := bN bs 2 2) rfl Tryz.underlying39 Tryz.underlying3 (show bN bs 2 2 < 9223372036854775808 by have := bN_lt bs 2 2 65536 rfl; omega)) rfl ?_
    refine sAs rfl rfl ?_
    refine send ?_
    refine eseq ?_
    refine HT.seq ?_
    refine HT.plain ?_
    refine sMv rfl rfl ?_
    refine sMv rfl rfl ?_
    refine sqS (q_len (len := n) rfl Tryz.underlying22) rfl ?_
    refine sqS (q_sub (p := n) (q := 8) rfl rfl (by omega) (show n < 9223372036854775808 by omega)) rfl ?_
    refine sqS (q_T (q_gt (p := bN bs 2 2) (q := n - 8) rfl rfl) (by have := bN_lt bs 2 2 65536 rfl; omega)) rfl ?_
    refine send ?_
    refine eseq ?_
    refine HT.yes rfl ?_
    refine HT.seq ?_
    refine HT.plain ?_
    refine sqS (q_build (vs := []) (v := (.agg #[(.slice none 0 0), (.slice none 0 0), (.slice none 0 0), (.slice none 0 0)])) rfl (fun _ => by kernel_rfl)) rfl ?_
    refine sMv rfl rfl ?_
    refine sqS (q_T (q_lt (p := bN bs 2 2) (q := 65528) rfl rfl) (by have := bN_lt bs 2 2 65536 rfl; omega)) rfl ?_
    refine sl_ (l_storeAgg (b := b2) (off := 0) (j := 0) (vs := [(.slice none 0 0), (.slice none 0 0), (.slice none 0 0), (.slice none 0 0)]) rfl rfl aggs_29 (by simp [Value.one1]) rfl rfl rfl (Nat.le_of_ble_eq_true rfl) ?_)
    refine sAs rfl rfl ?_
    refine sAs rfl rfl ?_
    refine send ?_
    refine eseq ?_
    refine HT.ret ?_
    refine rt_then ?_
    exact fun a ha w' hw => fin_ ha (resc3 ha Tryz.results40 rfl (ld_ aggs_29 hw (j := 0) rfl rfl (vs := [(.slice none 0 0), (.slice none 0 0), (.slice none 0 0), (.slice none 0 0)]) rfl) rfl rfl) ⟨rfl, hw.pres⟩
  · refine dop rfl (l_alloc (by decide) zero_29 fun b6 => ⟨(fun _ h => (h.wk [(0, [])] rfl)), ?_⟩)
    refine RG.step1 34 (by kernel_rfl) ?_
    refine dop rfl (l_buildSlice (e := 39) (vs := [(0, (.int .u64 (((nb bs 0) / 32 : Nat) : Int))), (1, (.int .u64 ((((nb bs 0) / 16) &&& 1 : Nat) : Int))), (2, (.int .u64 ((((nb bs 0) / 8) &&& 1 : Nat) : Int))), (3, (.int .u64 ((((nb bs 0) / 4) &&& 1 : Nat) : Int))), (4, (.int .u64 ((((nb bs 0) / 2) &&& 1 : Nat) : Int))), (5, (.int .u64 (((nb bs 0) &&& 1 : Nat) : Int))), (6, (.int .u64 ((nb bs 1 : Nat) : Int))), (7, (.int .u64 ((bN bs 2 2 : Nat) : Int))), (8, (.int .u64 ((bN bs 4 4 : Nat) : Int))), (9, (.int .u64 ((0 : Nat) : Int))), (10, (.int .u64 ((0 : Nat) : Int)))]) (cs := [(.int .u64 (((nb bs 0) / 32 : Nat) : Int)), (.int .u64 ((((nb bs 0) / 16) &&& 1 : Nat) : Int)), (.int .u64 ((((nb bs 0) / 8) &&& 1 : Nat) : Int)), (.int .u64 ((((nb bs 0) / 4) &&& 1 : Nat) : Int)), (.int .u64 ((((nb bs 0) / 2) &&& 1 : Nat) : Int)), (.int .u64 (((nb bs 0) &&& 1 : Nat) : Int)), (.int .u64 ((nb bs 1 : Nat) : Int)), (.int .u64 ((bN bs 2 2 : Nat) : Int)), (.int .u64 ((bN bs 4 4 : Nat) : Int)), (.int .u64 ((0 : Nat) : Int)), (.int .u64 ((0 : Nat) : Int))]) (by decide) rfl (fun _ => by kernel_rfl) fun b48 => ⟨(fun _ h => (h.wk [(0, [])] rfl)), ?_⟩)
    refine dtake (f := 1) [35] (by kernel_rfl) (St.closed _ _ _ _) (fun _ h => (h.wk [(0, [])] rfl)) (by kernel_rfl) ?_
    refine dq rfl (q_call (vs := [(.slice (cutA A c 8) (n - 8) (c - 8)), (.slice (some ⟨b48, 0, none⟩) 11 11)]) (v := (.agg #[(.slice (some ⟨b48, 0, none⟩) 11 11), (.slice none 0 0), (.slice none 0 0), (.slice (cutA A c 8) (n - 8) (c - 8))])) rfl ca_33 (fun w h => layerC w (cutA A c 8) (n - 8) (c - 8) (some ⟨b48, 0, none⟩) 11 11  (St.enter (sp := []) (Kc := []) (bi := []) h rfl rfl rfl))) ?_
    refine QL.nil ?_
    refine RG.step1 37 (by kernel_rfl) ?_
    refine dop rfl (l_storeAgg (b := b6) (off := 0) (j := 1) (vs := [(.slice (some ⟨b48, 0, none⟩) 11 11), (.slice none 0 0), (.slice none 0 0), (.slice (cutA A c 8) (n - 8) (c - 8))]) rfl rfl aggs_29 (by simp [Value.one1]) rfl rfl rfl (Nat.le_of_ble_eq_true rfl) ⟨(fun _ h => (h.wk [(0, [])] rfl)), ?_⟩)
    refine dend (by kernel_rfl) ?_
    refine eseq ?_
    refine HT.seq ?_
    refine HT.seq ?_
    refine HT.plain ?_
    refine sMv rfl rfl ?_
    refine sqS (q_slice (lo := 2) (hi := 4) rfl Tryz.underlying22 nagg_5 (.inr ⟨_, _, rfl, rfl⟩) (.inr ⟨_, _, rfl, rfl⟩) (by omega) (by omega)) rfl ?_
    refine sqS (q_call (vs := [(.slice (cutA A c 2) (4 - 2) (c - 2))]) (v := (.int .u64 ((bN bs 2 2 : Nat) : Int))) rfl ca_34 (fun w h => NumberC w A n c bs (lo := 2) (hi := 4) (h.fact (j := 0) rfl) (k := 2) rfl (by decide) (by omega) (by omega))) rfl ?_
    refine sqS (q_convn (p := bN bs 2 2) rfl Tryz.underlying39 Tryz.underlying3 (show bN bs 2 2 < 9223372036854775808 by have := bN_lt bs 2 2 65536 rfl; omega)) rfl ?_
    refine sAs rfl rfl ?_
    refine send ?_
    refine eseq ?_
    refine HT.seq ?_
    refine HT.plain ?_
    refine sMv rfl rfl ?_
    refine sMv rfl rfl ?_
    refine sqS (q_len (len := n) rfl Tryz.underlying22) rfl ?_
    refine sqS (q_sub (p := n) (q := 8) rfl rfl (by omega) (show n < 9223372036854775808 by omega)) rfl ?_
    refine sqS (q_T (q_gt (p := bN bs 2 2) (q := n - 8) rfl rfl) (by have := bN_lt bs 2 2 65536 rfl; omega)) rfl ?_
    refine send ?_
    refine eseq ?_
    refine HT.yes rfl ?_
    refine HT.seq ?_
    refine HT.plain ?_
    refine sqS (q_build (vs := []) (v := (.agg #[(.slice none 0 0), (.slice none 0 0), (.slice none 0 0), (.slice none 0 0)])) rfl (fun _ => by kernel_rfl)) rfl ?_
    refine sMv rfl rfl ?_
    refine sqS (q_T (q_lt (p := bN bs 2 2) (q := 65528) rfl rfl) (by have := bN_lt bs 2 2 65536 rfl; omega)) rfl ?_
    refine sl_ (l_storeAgg (b := b2) (off := 0) (j := 0) (vs := [(.slice none 0 0), (.slice none 0 0), (.slice none 0 0), (.slice none 0 0)]) rfl rfl aggs_29 (by simp [Value.one1]) rfl rfl rfl (Nat.le_of_ble_eq_true rfl) ?_)
    refine sAs rfl rfl ?_
    refine sAs rfl rfl ?_
    refine send ?_
    refine eseq ?_
    refine HT.ret ?_
    refine rt_then ?_
    exact fun a ha w' hw => fin_ ha (resc3 ha Tryz.results40 rfl (ld_ aggs_29 hw (j := 0) rfl rfl (vs := [(.slice none 0 0), (.slice none 0 0), (.slice none 0 0), (.slice none 0 0)]) rfl) rfl rfl) ⟨rfl, hw.pres⟩

theorem gtp_S1 (w : World) (A : Option Addr) (n : Nat) (c : Nat) (bs : List UInt8) (hn : n ≤ 2147483647) (ha : 8 ≤ n) (hb : n - 8 < bN bs 2 2) (hc : bN bs 2 2 < 65528) (hst : St w [] [] [Byt A n c bs] w) : Calls Tryz.prog 26 #[(.string ⟨#[103, 116, 112]⟩), (.slice A n c)] w (SP w (Byt A n c bs) (some none)) := by
  have hnc00 : n ≤ c := (hst.fact (j := 0) rfl).2.1
  refine enter (vs := [(.string ⟨#[103, 116, 112]⟩), (.slice A n c)]) Tryz.func26 rfl rfl rfl hst ?_
  refine HT.seq ?_
  refine HT.plain ?_
  refine sl_ (l_alloc (by decide) zero_29 fun b4 => ?_)
  refine sAs rfl rfl ?_
  refine sAs rfl rfl ?_
  refine send ?_
  refine eseq ?_
  refine HT.seq ?_
  refine HT.plain ?_
  refine sl_ (l_makeMap (by decide) fun b13 => ?_)
  refine sl_ (l_insert (es := es0) (ck := 0) rfl rfl rfl Tryz.underlying36 Tryz.underlying9 fi0 ?_)
  refine sl_ (l_insert (es := es1) (ck := 1) rfl rfl rfl Tryz.underlying36 Tryz.underlying9 fi1 ?_)
  refine sl_ (l_insert (es := es2) (ck := 2) rfl rfl rfl Tryz.underlying36 Tryz.underlying9 fi2 ?_)
  refine sl_ (l_insert (es := es3) (ck := 3) rfl rfl rfl Tryz.underlying36 Tryz.underlying9 fi3 ?_)
  refine sl_ (l_insert (es := es4) (ck := 4) rfl rfl rfl Tryz.underlying36 Tryz.underlying9 fi4 ?_)
  refine sl_ (l_insert (es := es5) (ck := 5) rfl rfl rfl Tryz.underlying36 Tryz.underlying9 fi5 ?_)
  refine sl_ (l_insert (es := es6) (ck := 6) rfl rfl rfl Tryz.underlying36 Tryz.underlying9 fi6 ?_)
  refine sl_ (l_insert (es := es7) (ck := 7) rfl rfl rfl Tryz.underlying36 Tryz.underlying9 fi7 ?_)
  refine sl_ (l_insert (es := es8) (ck := 8) rfl rfl rfl Tryz.underlying36 Tryz.underlying9 fi8 ?_)
  refine sl_ (l_insert (es := es9) (ck := 9) rfl rfl rfl Tryz.underlying36 Tryz.underlying9 fi9 ?_)
  refine sl_ (l_insert (es := es10) (ck := 10) rfl rfl rfl Tryz.underlying36 Tryz.underlying9 fi10 ?_)
  refine sl_ (l_insert (es := es11) (ck := 11) rfl rfl rfl Tryz.underlying36 Tryz.underlying9 fi11 ?_)
  refine sl_ (l_insert (es := es12) (ck := 12) rfl rfl rfl Tryz.underlying36 Tryz.underlying9 fi12 ?_)
  refine sl_ (l_insert (es := es13) (ck := 13) rfl rfl rfl Tryz.underlying36 Tryz.underlying9 fi13 ?_)
  refine sl_ (l_insert (es := es14) (ck := 14) rfl rfl rfl Tryz.underlying36 Tryz.underlying9 fi14 ?_)
  refine sl_ (l_insert (es := es15) (ck := 15) rfl rfl rfl Tryz.underlying36 Tryz.underlying9 fi15 ?_)
  refine sl_ (l_insert (es := es16) (ck := 16) rfl rfl rfl Tryz.underlying36 Tryz.underlying9 fi16 ?_)
  refine sl_ (l_insert (es := es17) (ck := 17) rfl rfl rfl Tryz.underlying36 Tryz.underlying9 fi17 ?_)
  refine sl_ (l_insert (es := es18) (ck := 18) rfl rfl rfl Tryz.underlying36 Tryz.underlying9 fi18 ?_)
  refine sl_ (l_insert (es := es19) (ck := 19) rfl rfl rfl Tryz.underlying36 Tryz.underlying9 fi19 ?_)
  refine sl_ (l_insert (es := es20) (ck := 20) rfl rfl rfl Tryz.underlying36 Tryz.underlying9 fi20 ?_)
  refine sq (SM.closed) (q_move rfl) rfl ?_
  refine sq (SM.closed) (q_move rfl) rfl ?_
  refine sq (SM.closed) (q_lookup (es := es21) (i := 11) (v := (.int .i64 ((8 : Nat) : Int))) (fun _ h => h) rfl rfl Tryz.underlying36 Tryz.underlying9 (by kernel_rfl)) rfl ?_
  refine sq (SM.closed) (q_assign rfl) rfl ?_
  refine send ?_
  refine eseq ?_
  refine HT.unmap ?_
  refine HT.seq ?_
  refine HT.seq ?_
  refine HT.plain ?_
  refine sMv rfl rfl ?_
  refine sqS (q_len (len := n) rfl Tryz.underlying22) rfl ?_
  refine sMv rfl rfl ?_
  refine sqS (q_F (q_lt (p := n) (q := 8) rfl rfl) (by omega)) rfl ?_
  refine send ?_
  refine eseq ?_
  refine HT.no rfl ?_
  refine HT.skip ?_
  refine eseq ?_
  refine HT.seq ?_
  refine HT.seq ?_
  refine HT.plain ?_
  refine sMv rfl rfl ?_
  refine send ?_
  refine eseq ?_
  refine HT.block ?_
  refine HT.seq ?_
  refine HT.plain ?_
  refine sqS (q_eqs rfl rfl (r := false) (by kernel_rfl)) rfl ?_
  refine sAs rfl rfl ?_
  refine send ?_
  refine eseq ?_
  refine HT.no rfl ?_
  refine HT.seq ?_
  refine HT.plain ?_
  refine sqS (q_eqs rfl rfl (r := false) (by kernel_rfl)) rfl ?_
  refine sAs rfl rfl ?_
  refine send ?_
  refine eseq ?_
  refine HT.no rfl ?_
  refine HT.seq ?_
  refine HT.plain ?_
  refine sqS (q_eqs rfl rfl (r := false) (by kernel_rfl)) rfl ?_
  refine sAs rfl rfl ?_
  refine send ?_
  refine eseq ?_
  refine HT.no rfl ?_
  refine HT.seq ?_
  refine HT.plain ?_
  refine sqS (q_eqs rfl rfl (r := false) (by kernel_rfl)) rfl ?_
  refine sAs rfl rfl ?_
  refine send ?_
  refine eseq ?_
  refine HT.no rfl ?_
  refine HT.seq ?_
  refine HT.plain ?_
  refine sqS (q_eqs rfl rfl (r := false) (by kernel_rfl)) rfl ?_
  refine sAs rfl rfl ?_
  refine send ?_
  refine eseq ?_
  refine HT.no rfl ?_
  refine HT.seq ?_
  refine HT.plain ?_
  refine sqS (q_eqs rfl rfl (r := false) (by kernel_rfl)) rfl ?_
  refine sAs rfl rfl ?_
  refine send ?_
  refine eseq ?_
  refine HT.no rfl ?_
  refine HT.seq ?_
  refine HT.plain ?_
  refine sqS (q_eqs rfl rfl (r := false) (by kernel_rfl)) rfl ?_
  refine sAs rfl rfl ?_
  refine send ?_
  refine eseq ?_
  refine HT.no rfl ?_
  refine HT.seq ?_
  refine HT.plain ?_
  refine sqS (q_eqs rfl rfl (r := false) (by kernel_rfl)) rfl ?_
  refine sAs rfl rfl ?_
  refine send ?_
  refine eseq ?_
  refine HT.no rfl ?_
  refine HT.seq ?_
  refine HT.plain ?_
  refine sqS (q_eqs rfl rfl (r := false) (by kernel_rfl)) rfl ?_
  refine sAs rfl rfl ?_
  refine send ?_
  refine eseq ?_
  refine HT.no rfl ?_
  refine HT.seq ?_
  refine HT.plain ?_
  refine sqS (q_eqs rfl rfl (r := false) (by kernel_rfl)) rfl ?_
  refine sAs rfl rfl ?_
  refine send ?_
  refine eseq ?_
  refine HT.no rfl ?_
  refine HT.seq ?_
  refine HT.plain ?_
  refine sqS (q_eqs rfl rfl (r := false) (by kernel_rfl)) rfl ?_
  refine sAs rfl rfl ?_
  refine send ?_
  refine eseq ?_
  refine HT.no rfl ?_
  refine HT.seq ?_
  refine HT.plain ?_
  refine sqS (q_eqs rfl rfl (r := true) (by kernel_rfl)) rfl ?_
  refine sAs rfl rfl ?_
  refine send ?_
  refine eseq ?_
  refine HT.yes rfl ?_
  refine HT.seq ?_
  refine HT.plain ?_
  refine sMv rfl rfl ?_
  refine sqS (q_call (vs := [(.slice A n c)]) (v := (.tuple #[(.agg #[(.slice none 0 0), (.slice none 0 0), (.slice none 0 0), (.slice none 0 0)]), (.bool false), (.bool true)])) rfl ca_40 (fun w h => gtp_s1 w A n c bs (by omega) (by omega) (by omega) (by omega) (St.enter (sp := []) (Kc := []) (bi := [0]) h rfl rfl rfl))) rfl ?_
  refine sqS (q_extract (vs := [(.agg #[(.slice none 0 0), (.slice none 0 0), (.slice none 0 0), (.slice none 0 0)]), (.bool false), (.bool true)]) (i := 0) rfl rfl) rfl ?_
  refine sqS (q_extract (vs := [(.agg #[(.slice none 0 0), (.slice none 0 0), (.slice none 0 0), (.slice none 0 0)]), (.bool false), (.bool true)]) (i := 1) rfl rfl) rfl ?_
  refine sqS (q_extract (vs := [(.agg #[(.slice none 0 0), (.slice none 0 0), (.slice none 0 0), (.slice none 0 0)]), (.bool false), (.bool true)]) (i := 2) rfl rfl) rfl ?_
  refine sl_ (l_storeAgg (b := b4) (off := 0) (j := 0) (vs := [(.slice none 0 0), (.slice none 0 0), (.slice none 0 0), (.slice none 0 0)]) rfl rfl aggs_29 (by simp [Value.one1]) rfl rfl rfl (Nat.le_of_ble_eq_true rfl) ?_)
  refine sAs rfl rfl ?_
  refine sAs rfl rfl ?_
  refine send ?_
  refine eseq ?_
  refine HT.ret ?_
  refine rt_in ?_
  refine rt_then ?_
  exact fun a ha w' hw => fin_ ha (resc3 ha Tryz.results26 rfl (ld_ aggs_29 hw (j := 0) rfl rfl (vs := [(.slice none 0 0), (.slice none 0 0), (.slice none 0 0), (.slice none 0 0)]) rfl) rfl rfl) ⟨rfl, hw.pres⟩

theorem gtp_s5 (w : World) (A : Option Addr) (n : Nat) (c : Nat) (bs : List UInt8) (hn : n ≤ 2147483647) (ha : 8 ≤ n) (hb : n - 8 < bN bs 2 2) (hc : 65528 ≤ bN bs 2 2) (hst : St w [] [] [Byt A n c bs] w) : Calls Tryz.prog 40 #[(.slice A n c)] w (fun e w' => e = .returned (.tuple #[(.agg #[(.slice none 0 0), (.slice none 0 0), (.slice none 0 0), (.slice none 0 0)]), (.bool false), (.bool false)]) ∧ Pres [] w w') := by
  have hnc00 : n ≤ c := (hst.fact (j := 0) rfl).2.1
  refine enter (vs := [(.slice A n c)]) Tryz.func40 rfl rfl rfl hst ?_
  refine HT.seq ?_
  refine HT.plain ?_
  refine sl_ (l_alloc (by decide) zero_29 fun b2 => ?_)
  refine sAs rfl rfl ?_
  refine sAs rfl rfl ?_
  refine send ?_
  refine eseq ?_
  refine HT.seq ?_
  refine HT.plain ?_
  refine sMv rfl rfl ?_
  refine sqS (q_index (i := 0) (j := 0) rfl rfl Tryz.underlying22 nagg_5 (fun _ h => h) rfl (by omega)) rfl ?_
  refine sqS (q_byte (i := 0) (j := 0) rfl nagg_5 (fun _ h => h) rfl (by omega)) rfl ?_
  refine sAs rfl rfl ?_
  refine send ?_
  refine eseq ?_
  refine HT.seq ?_
  refine HT.drawnS mixed (St.closed _ _ _ _) ?_
  refine dtake (f := 4) [0, 1, 2, 3, 4, 5, 6, 7, 8, 9, 10, 11, 12, 13, 14, 15, 16, 17, 18, 19, 20, 21, 22, 23, 24, 25, 26, 27, 28, 29, 30, 31, 32, 33] (by kernel_rfl) (St.closed _ _ _ _) (fun _ h => h) (by kernel_rfl) ?_
  refine dq rfl (q_move rfl) ?_
  refine dq rfl (q_slice (lo := 8) (hi := n) rfl Tryz.underlying22 nagg_5 (.inr ⟨_, _, rfl, rfl⟩) (.inl ⟨rfl, rfl⟩) (by omega) (by omega)) ?_
  refine dq rfl (q_move rfl) ?_
  refine dq rfl (q_shr (p := nb bs 0) (e := 5) (N := 32) rfl rfl (by decide) rfl) ?_
  refine dq rfl (q_convn (p := (nb bs 0) / 32) rfl Tryz.underlying5 Tryz.underlying39 (show (nb bs 0) / 32 < 18446744073709551616 by have := nb_lt bs 0; omega)) ?_
  refine dq rfl (q_move rfl) ?_
  refine dq rfl (q_shr (p := nb bs 0) (e := 4) (N := 16) rfl rfl (by decide) rfl) ?_
  refine dq rfl (q_and (p := (nb bs 0) / 16) (q := 1) rfl rfl rfl (show (nb bs 0) / 16 < 256 by have := nb_lt bs 0; omega) (by decide)) ?_
  refine dq rfl (q_convn (p := ((nb bs 0) / 16) &&& 1) rfl Tryz.underlying5 Tryz.underlying39 (show ((nb bs 0) / 16) &&& 1 < 18446744073709551616 by have := nb_lt bs 0; have := zm1 ((nb bs 0) / 16); have := Nat.and_le_left (n := (nb bs 0) / 16) (m := 1); have := Nat.and_le_right (n := (nb bs 0) / 16) (m := 1); omega)) ?_
  refine dq rfl (q_move rfl) ?_
  refine dq rfl (q_shr (p := nb bs 0) (e := 3) (N := 8) rfl rfl (by decide) rfl) ?_
  refine dq rfl (q_and (p := (nb bs 0) / 8) (q := 1) rfl rfl rfl (show (nb bs 0) / 8 < 256 by have := nb_lt bs 0; omega) (by decide)) ?_
  refine dq rfl (q_convn (p := ((nb bs 0) / 8) &&& 1) rfl Tryz.underlying5 Tryz.underlying39 (show ((nb bs 0) / 8) &&& 1 < 18446744073709551616 by have := nb_lt bs 0; have := zm1 ((nb bs 0) / 8); have := Nat.and_le_left (n := (nb bs 0) / 8) (m := 1); have := Nat.and_le_right (n := (nb bs 0) / 8) (m := 1); omega)) ?_
  refine dq rfl (q_move rfl) ?_
  refine dq rfl (q_shr (p := nb bs 0) (e := 2) (N := 4) rfl rfl (by decide) rfl) ?_
  refine dq rfl (q_and (p := (nb bs 0) / 4) (q := 1) rfl rfl rfl (show (nb bs 0) / 4 < 256 by have := nb_lt bs 0; omega) (by decide)) ?_
  refine dq rfl (q_convn (p := ((nb bs 0) / 4) &&& 1) rfl Tryz.underlying5 Tryz.underlying39 (show ((nb bs 0) / 4) &&& 1 < 18446744073709551616 by have := nb_lt bs 0; have := zm1 ((nb bs 0) / 4); have := Nat.and_le_left (n := (nb bs 0) / 4) (m := 1); have := Nat.and_le_right (n := (nb bs 0) / 4) (m := 1); omega)) ?_
  refine dq rfl (q_move rfl) ?_
  refine dq rfl (q_shr (p := nb bs 0) (e := 1) (N := 2) rfl rfl (by decide) rfl) ?_
  refine dq rfl (q_and (p := (nb bs 0) / 2) (q := 1) rfl rfl rfl (show (nb bs 0) / 2 < 256 by have := nb_lt bs 0; omega) (by decide)) ?_
  refine dq rfl (q_convn (p := ((nb bs 0) / 2) &&& 1) rfl Tryz.underlying5 Tryz.underlying39 (show ((nb bs 0) / 2) &&& 1 < 18446744073709551616 by have := nb_lt bs 0; have := zm1 ((nb bs 0) / 2); have := Nat.and_le_left (n := (nb bs 0) / 2) (m := 1); have := Nat.and_le_right (n := (nb bs 0) / 2) (m := 1); omega)) ?_
  refine dq rfl (q_move rfl) ?_
  refine dq rfl (q_and (p := nb bs 0) (q := 1) rfl rfl rfl (show nb bs 0 < 256 by have := nb_lt bs 0; omega) (by decide)) ?_
  refine dq rfl (q_convn (p := (nb bs 0) &&& 1) rfl Tryz.underlying5 Tryz.underlying39 (show (nb bs 0) &&& 1 < 18446744073709551616 by have := nb_lt bs 0; have := zm1 (nb bs 0); have := Nat.and_le_left (n := nb bs 0) (m := 1); have := Nat.and_le_right (n := nb bs 0) (m := 1); omega)) ?_
  refine dq rfl (q_move rfl) ?_
  refine dq rfl (q_index (i := 1) (j := 0) rfl rfl Tryz.underlying22 nagg_5 (fun _ h => h) rfl (by omega)) ?_
  refine dq rfl (q_byte (i := 1) (j := 0) rfl nagg_5 (fun _ h => h) rfl (by omega)) ?_
  refine dq rfl (q_convn (p := nb bs 1) rfl Tryz.underlying5 Tryz.underlying39 (show nb bs 1 < 18446744073709551616 by have := nb_lt bs 1; omega)) ?_
  refine dq rfl (q_move rfl) ?_
  refine dq rfl (q_slice (lo := 2) (hi := 4) rfl Tryz.underlying22 nagg_5 (.inr ⟨_, _, rfl, rfl⟩) (.inr ⟨_, _, rfl, rfl⟩) (by omega) (by omega)) ?_
  refine dq rfl (q_call (vs := [(.slice (cutA A c 2) (4 - 2) (c - 2))]) (v := (.int .u64 ((bN bs 2 2 : Nat) : Int))) rfl ca_34 (fun w h => NumberC w A n c bs (lo := 2) (hi := 4) (h.fact (j := 0) rfl) (k := 2) rfl (by decide) (by omega) (by omega))) ?_
  refine dq rfl (q_move rfl) ?_
  refine dq rfl (q_slice (lo := 4) (hi := 8) rfl Tryz.underlying22 nagg_5 (.inr ⟨_, _, rfl, rfl⟩) (.inr ⟨_, _, rfl, rfl⟩) (by omega) (by omega)) ?_
  refine dq rfl (q_call (vs := [(.slice (cutA A c 4) (8 - 4) (c - 4))]) (v := (.int .u64 ((bN bs 4 4 : Nat) : Int))) rfl ca_34 (fun w h => NumberC w A n c bs (lo := 4) (hi := 8) (h.fact (j := 0) rfl) (k := 4) rfl (by decide) (by omega) (by omega))) ?_
  refine QL.nil ?_
  refine RG.step2 34 36 (by kernel_rfl) ?_ ?_
  · refine dop rfl (l_buildSlice (e := 39) (vs := [(0, (.int .u64 (((nb bs 0) / 32 : Nat) : Int))), (1, (.int .u64 ((((nb bs 0) / 16) &&& 1 : Nat) : Int))), (2, (.int .u64 ((((nb bs 0) / 8) &&& 1 : Nat) : Int))), (3, (.int .u64 ((((nb bs 0) / 4) &&& 1 : Nat) : Int))), (4, (.int .u64 ((((nb bs 0) / 2) &&& 1 : Nat) : Int))), (5, (.int .u64 (((nb bs 0) &&& 1 : Nat) : Int))), (6, (.int .u64 ((nb bs 1 : Nat) : Int))), (7, (.int .u64 ((bN bs 2 2 : Nat) : Int))), (8, (.int .u64 ((bN bs 4 4 : Nat) : Int))), (9, (.int .u64 ((0 : Nat) : Int))), (10, (.int .u64 ((0 : Nat) : Int)))]) (cs := [(.int .u64 (((nb bs 0) / 32 : Nat) : Int)), (.int .u64 ((((nb bs 0) / 16) &&& 1 : Nat) : Int)), (.int .u64 ((((nb bs 0) / 8) &&& 1 : Nat) : Int)), (.int .u64 ((((nb bs 0) / 4) &&& 1 : Nat) : Int)), (.int .u64 ((((nb bs 0) / 2) &&& 1 : Nat) : Int)), (.int .u64 (((nb bs 0) &&& 1 : Nat) : Int)), (.int .u64 ((nb bs 1 : Nat) : Int)), (.int .u64 ((bN bs 2 2 : Nat) : Int)), (.int .u64 ((bN bs 4 4 : Nat) : Int)), (.int .u64 ((0 : Nat) : Int)), (.int .u64 ((0 : Nat) : Int))]) (by decide) rfl (fun _ => by kernel_rfl) fun b48 => ⟨(fun _ h => (h.wk [(0, [])] rfl)), ?_⟩)
    refine dtake (f := 2) [35] (by kernel_rfl) (St.closed _ _ _ _) (fun _ h => (h.wk [(0, [])] rfl)) (by kernel_rfl) ?_
    refine dq rfl (q_call (vs := [(.slice (cutA A c 8) (n - 8) (c - 8)), (.slice (some ⟨b48, 0, none⟩) 11 11)]) (v := (.agg #[(.slice (some ⟨b48, 0, none⟩) 11 11), (.slice none 0 0), (.slice none 0 0), (.slice (cutA A c 8) (n - 8) (c - 8))])) rfl ca_33 (fun w h => layerC w (cutA A c 8) (n - 8) (c - 8) (some ⟨b48, 0, none⟩) 11 11  (St.enter (sp := []) (Kc := []) (bi := []) h rfl rfl rfl))) ?_
    refine QL.nil ?_
    refine RG.step1 36 (by kernel_rfl) ?_
    refine dop rfl (l_alloc (by decide) zero_29 fun b6 => ⟨(fun _ h => (h.wk [(0, [])] rfl)), ?_⟩)
    refine RG.step1 37 (by kernel_rfl) ?_
    refine dop rfl (l_storeAgg (b := b6) (off := 0) (j := 2) (vs := [(.slice (some ⟨b48, 0, none⟩) 11 11), (.slice none 0 0), (.slice none 0 0), (.slice (cutA A c 8) (n - 8) (c - 8))]) rfl rfl aggs_29 (by simp [Value.one1]) rfl rfl rfl (Nat.le_of_ble_eq_true rfl) ⟨(fun _ h => (h.wk [(0, [])] rfl)), ?_⟩)
    refine dend (by kernel_rfl) ?_
    refine eseq ?_
    refine HT.seq ?_
    refine HT.seq ?_
    refine HT.plain ?_
    refine sMv rfl rfl ?_
    refine sqS (q_slice (lo := 2) (hi := 4) rfl Tryz.underlying22 nagg_5 (.inr ⟨_, _, rfl, rfl⟩) (.inr ⟨_, _, rfl, rfl⟩) (by omega) (by omega)) rfl ?_
    refine sqS (q_call (vs := [(.slice (cutA A c 2) (4 - 2) (c - 2))]) (v := (.int .u64 ((bN bs 2 2 : Nat) : Int))) rfl ca_34 (fun w h => NumberC w A n c bs (lo := 2) (hi := 4) (h.fact (j := 0) rfl) (k := 2) rfl (by decide) (by omega) (by omega))) rfl ?_
    refine sqS (q_convn (p := bN bs 2 2) rfl Tryz.underlying39 Tryz.underlying3 (show bN bs 2 2 < 9223372036854775808 by have := bN_lt bs 2 2 65536 rfl; omega)) rfl ?_
    refine sAs rfl rfl ?_
    refine send ?_
    refine eseq ?_
    refine HT.seq ?_
    refine HT.plain ?_
    refine sMv rfl rfl ?_
    refine sMv rfl rfl ?_
    refine sqS (q_len (len := n) rfl Tryz.underlying22) rfl ?_
    refine sqS (q_sub (p := n) (q := 8) rfl rfl (by omega) (show n < 9223372036854775808 by omega)) rfl ?_
    refine sqS (q_T (q_gt (p := bN bs 2 2) (q := n - 8) rfl rfl) (by have := bN_lt bs 2 2 65536 rfl; omega)) rfl ?_
    refine send ?_
    refine eseq ?_
    refine HT.yes rfl ?_
    refine HT.seq ?_
    refine HT.plain ?_
    refine sqS (q_build (vs := []) (v := (.agg #[(.slice none 0 0), (.slice none 0 0), (.slice none 0 0), (.slice none 0 0)])) rfl (fun _ => by kernel_rfl)) rfl ?_
    refine sMv rfl rfl ?_
    refine sqS (q_F (q_lt (p := bN bs 2 2) (q := 65528) rfl rfl) (by have := bN_lt bs 2 2 65536 rfl; omega)) rfl ?_
    refine sl_ (l_storeAgg (b := b2) (off := 0) (j := 0) (vs := [(.slice none 0 0), (.slice none 0 0), (.slice none 0 0), (.slice none 0 0)]) rfl rfl aggs_29 (by simp [Value.one1]) rfl rfl rfl (Nat.le_of_ble_eq_true rfl) ?_)
    refine sAs rfl rfl ?_
    refine sAs rfl rfl ?_
    refine send ?_
    refine eseq ?_
    refine HT.ret ?_
    refine rt_then ?_
    exact fun a ha w' hw => fin_ ha (resc3 ha Tryz.results40 rfl (ld_ aggs_29 hw (j := 0) rfl rfl (vs := [(.slice none 0 0), (.slice none 0 0), (.slice none 0 0), (.slice none 0 0)]) rfl) rfl rfl) ⟨rfl, hw.pres⟩
  · refine dop rfl (l_alloc (by decide) zero_29 fun b6 => ⟨(fun _ h => (h.wk [(0, [])] rfl)), ?_⟩)
    refine RG.step1 34 (by kernel_rfl) ?_
    refine dop rfl (l_buildSlice (e := 39) (vs := [(0, (.int .u64 (((nb bs 0) / 32 : Nat) : Int))), (1, (.int .u64 ((((nb bs 0) / 16) &&& 1 : Nat) : Int))), (2, (.int .u64 ((((nb bs 0) / 8) &&& 1 : Nat) : Int))), (3, (.int .u64 ((((nb bs 0) / 4) &&& 1 : Nat) : Int))), (4, (.int .u64 ((((nb bs 0) / 2) &&& 1 : Nat) : Int))), (5, (.int .u64 (((nb bs 0) &&& 1 : Nat) : Int))), (6, (.int .u64 ((nb bs 1 : Nat) : Int))), (7, (.int .u64 ((bN bs 2 2 : Nat) : Int))), (8, (.int .u64 ((bN bs 4 4 : Nat) : Int))), (9, (.int .u64 ((0 : Nat) : Int))), (10, (.int .u64 ((0 : Nat) : Int)))]) (cs := [(.int .u64 (((nb bs 0) / 32 : Nat) : Int)), (.int .u64 ((((nb bs 0) / 16) &&& 1 : Nat) : Int)), (.int .u64 ((((nb bs 0) / 8) &&& 1 : Nat) : Int)), (.int .u64 ((((nb bs 0) / 4) &&& 1 : Nat) : Int)), (.int .u64 ((((nb bs 0) / 2) &&& 1 : Nat) : Int)), (.int .u64 (((nb bs 0) &&& 1 : Nat) : Int)), (.int .u64 ((nb bs 1 : Nat) : Int)), (.int .u64 ((bN bs 2 2 : Nat) : Int)), (.int .u64 ((bN bs 4 4 : Nat) : Int)), (.int .u64 ((0 : Nat) : Int)), (.int .u64 ((0 : Nat) : Int))]) (by decide) rfl (fun _ => by kernel_rfl) fun b48 => ⟨(fun _ h => (h.wk [(0, [])] rfl)), ?_⟩)
    refine dtake (f := 1) [35] (by kernel_rfl) (St.closed _ _ _ _) (fun _ h => (h.wk [(0, [])] rfl)) (by kernel_rfl) ?_
    refine dq rfl (q_call (vs := [(.slice (cutA A c 8) (n - 8) (c - 8)), (.slice (some ⟨b48, 0, none⟩) 11 11)]) (v := (.agg #[(.slice (some ⟨b48, 0, none⟩) 11 11), (.slice none 0 0), (.slice none 0 0), (.slice (cutA A c 8) (n - 8) (c - 8))])) rfl ca_33 (fun w h => layerC w (cutA A c 8) (n - 8) (c - 8) (some ⟨b48, 0, none⟩) 11 11  (St.enter (sp := []) (Kc := []) (bi := []) h rfl rfl rfl))) ?_
    refine QL.nil ?_
    refine RG.step1 37 (by kernel_rfl) ?_
    refine dop rfl (l_storeAgg (b := b6) (off := 0) (j := 1) (vs := [(.slice (some ⟨b48, 0, none⟩) 11 11), (.slice none 0 0), (.slice none 0 0), (.slice (cutA A c 8) (n - 8) (c - 8))]) rfl rfl aggs_29 (by simp [Value.one1]) rfl rfl rfl (Nat.le_of_ble_eq_true rfl) ⟨(fun _ h => (h.wk [(0, [])] rfl)), ?_⟩)
    refine dend (by kernel_rfl) ?_
    refine eseq ?_
    refine HT.seq ?_
    refine HT.seq ?_
    refine HT.plain ?_
    refine sMv rfl rfl ?_
    refine sqS (q_slice (lo := 2) (hi := 4) rfl Tryz.underlying22 nagg_5 (.inr ⟨_, _, rfl, rfl⟩) (.inr ⟨_, _, rfl, rfl⟩) (by omega) (by omega)) rfl ?_
    refine sqS (q_call (vs := [(.slice (cutA A c 2) (4 - 2) (c - 2))]) (v := (.int .u64 ((bN bs 2 2 : Nat) : Int))) rfl ca_34 (fun w h => NumberC w A n c bs (lo := 2) (hi := 4) (h.fact (j := 0) rfl) (k := 2) rfl (by decide) (by omega) (by omega))) rfl ?_
    refine sqS (q_convn (p := bN bs 2 2) rfl Tryz.underlying39 Tryz.underlying3 (show bN bs 2 2 < 9223372036854775808 by have := bN_lt bs 2 2 65536 rfl; omega)) rfl ?_
    refine sAs rfl rfl ?_
    refine send ?_
    refine eseq ?_
    refine HT.seq ?_
    refine HT.plain ?_
    refine sMv rfl rfl ?_
    refine sMv rfl rfl ?_
    refine sqS (q_len (len := n) rfl Tryz.underlying22) rfl ?_
    refine sqS (q_sub (p := n) (q := 8) rfl rfl (by omega) (show n < 9223372036854775808 by omega)) rfl ?_
    refine sqS (q_T (q_gt (p := bN bs 2 2) (q := n - 8) rfl rfl) (by have := bN_lt bs 2 2 65536 rfl; omega)) rfl ?_
    refine send ?_
    refine eseq ?_
    refine HT.yes rfl ?_
    refine HT.seq ?_
    refine HT.plain ?_
    refine sqS (q_build (vs := []) (v := (.agg #[(.slice none 0 0), (.slice none 0 0), (.slice none 0 0), (.slice none 0 0)])) rfl (fun _ => by kernel_rfl)) rfl ?_
    refine sMv rfl rfl ?_
    refine sqS (q_F (q_lt (p := bN bs 2 2) (q := 65528) rfl rfl) (by have := bN_lt bs 2 2 65536 rfl; omega)) rfl ?_
    refine sl_ (l_storeAgg (b := b2) (off := 0) (j := 0) (vs := [(.slice none 0 0), (.slice none 0 0), (.slice none 0 0), (.slice none 0 0)]) rfl rfl aggs_29 (by simp [Value.one1]) rfl rfl rfl (Nat.le_of_ble_eq_true rfl) ?_)
    refine sAs rfl rfl ?_
    refine sAs rfl rfl ?_
    refine send ?_
    refine eseq ?_
    refine HT.ret ?_
    refine rt_then ?_
    exact fun a ha w' hw => fin_ ha (resc3 ha Tryz.results40 rfl (ld_ aggs_29 hw (j := 0) rfl rfl (vs := [(.slice none 0 0), (.slice none 0 0), (.slice none 0 0), (.slice none 0 0)]) rfl) rfl rfl) ⟨rfl, hw.pres⟩

theorem gtp_S5 (w : World) (A : Option Addr) (n : Nat) (c : Nat) (bs : List UInt8) (hn : n ≤ 2147483647) (ha : 8 ≤ n) (hb : n - 8 < bN bs 2 2) (hc : 65528 ≤ bN bs 2 2) (hst : St w [] [] [Byt A n c bs] w) : Calls Tryz.prog 26 #[(.string ⟨#[103, 116, 112]⟩), (.slice A n c)] w (SP w (Byt A n c bs) none) := by
  have hnc00 : n ≤ c := (hst.fact (j := 0) rfl).2.1
  refine enter (vs := [(.string ⟨#[103, 116, 112]⟩), (.slice A n c)]) Tryz.func26 rfl rfl rfl hst ?_
  refine HT.seq ?_
  refine HT.plain ?_
  refine sl_ (l_alloc (by decide) zero_29 fun b4 => ?_)
  refine sAs rfl rfl ?_
  refine sAs rfl rfl ?_
  refine send ?_
  refine eseq ?_
  refine HT.seq ?_
  refine HT.plain ?_
  refine sl_ (l_makeMap (by decide) fun b13 => ?_)
  refine sl_ (l_insert (es := es0) (ck := 0) rfl rfl rfl Tryz.underlying36 Tryz.underlying9 fi0 ?_)
  refine sl_ (l_insert (es := es1) (ck := 1) rfl rfl rfl Tryz.underlying36 Tryz.underlying9 fi1 ?_)
  refine sl_ (l_insert (es := es2) (ck := 2) rfl rfl rfl Tryz.underlying36 Tryz.underlying9 fi2 ?_)
  refine sl_ (l_insert (es := es3) (ck := 3) rfl rfl rfl Tryz.underlying36 Tryz.underlying9 fi3 ?_)
  refine sl_ (l_insert (es := es4) (ck := 4) rfl rfl rfl Tryz.underlying36 Tryz.underlying9 fi4 ?_)
  refine sl_ (l_insert (es := es5) (ck := 5) rfl rfl rfl Tryz.underlying36 Tryz.underlying9 fi5 ?_)
  refine sl_ (l_insert (es := es6) (ck := 6) rfl rfl rfl Tryz.underlying36 Tryz.underlying9 fi6 ?_)
  refine sl_ (l_insert (es := es7) (ck := 7) rfl rfl rfl Tryz.underlying36 Tryz.underlying9 fi7 ?_)
  refine sl_ (l_insert (es := es8) (ck := 8) rfl rfl rfl Tryz.underlying36 Tryz.underlying9 fi8 ?_)
  refine sl_ (l_insert (es := es9) (ck := 9) rfl rfl rfl Tryz.underlying36 Tryz.underlying9 fi9 ?_)
  refine sl_ (l_insert (es := es10) (ck := 10) rfl rfl rfl Tryz.underlying36 Tryz.underlying9 fi10 ?_)
  refine sl_ (l_insert (es := es11) (ck := 11) rfl rfl rfl Tryz.underlying36 Tryz.underlying9 fi11 ?_)
  refine sl_ (l_insert (es := es12) (ck := 12) rfl rfl rfl Tryz.underlying36 Tryz.underlying9 fi12 ?_)
  refine sl_ (l_insert (es := es13) (ck := 13) rfl rfl rfl Tryz.underlying36 Tryz.underlying9 fi13 ?_)
  refine sl_ (l_insert (es := es14) (ck := 14) rfl rfl rfl Tryz.underlying36 Tryz.underlying9 fi14 ?_)
  refine sl_ (l_insert (es := es15) (ck := 15) rfl rfl rfl Tryz.underlying36 Tryz.underlying9 fi15 ?_)
  refine sl_ (l_insert (es := es16) (ck := 16) rfl rfl rfl Tryz.underlying36 Tryz.underlying9 fi16 ?_)
  refine sl_ (l_insert (es := es17) (ck := 17) rfl rfl rfl Tryz.underlying36 Tryz.underlying9 fi17 ?_)
  refine sl_ (l_insert (es := es18) (ck := 18) rfl rfl rfl Tryz.underlying36 Tryz.underlying9 fi18 ?_)
  refine sl_ (l_insert (es := es19) (ck := 19) rfl rfl rfl Tryz.underlying36 Tryz.underlying9 fi19 ?_)
  refine sl_ (l_insert (es := es20) (ck := 20) rfl rfl rfl Tryz.underlying36 Tryz.underlying9 fi20 ?_)
  refine sq (SM.closed) (q_move rfl) rfl ?_
  refine sq (SM.closed) (q_move rfl) rfl ?_
  refine sq (SM.closed) (q_lookup (es := es21) (i := 11) (v := (.int .i64 ((8 : Nat) : Int))) (fun _ h => h) rfl rfl Tryz.underlying36 Tryz.underlying9 (by kernel_rfl)) rfl ?_
  refine sq (SM.closed) (q_assign rfl) rfl ?_
  refine send ?_
  refine eseq ?_
  refine HT.unmap ?_
  refine HT.seq ?_
  refine HT.seq ?_
  refine HT.plain ?_
  refine sMv rfl rfl ?_
  refine sqS (q_len (len := n) rfl Tryz.underlying22) rfl ?_
  refine sMv rfl rfl ?_
  refine sqS (q_F (q_lt (p := n) (q := 8) rfl rfl) (by omega)) rfl ?_
  refine send ?_
  refine eseq ?_
  refine HT.no rfl ?_
  refine HT.skip ?_
  refine eseq ?_
  refine HT.seq ?_
  refine HT.seq ?_
  refine HT.plain ?_
  refine sMv rfl rfl ?_
  refine send ?_
  refine eseq ?_
  refine HT.block ?_
  refine HT.seq ?_
  refine HT.plain ?_
  refine sqS (q_eqs rfl rfl (r := false) (by kernel_rfl)) rfl ?_
  refine sAs rfl rfl ?_
  refine send ?_
  refine eseq ?_
  refine HT.no rfl ?_
  refine HT.seq ?_
  refine HT.plain ?_
  refine sqS (q_eqs rfl rfl (r := false) (by kernel_rfl)) rfl ?_
  refine sAs rfl rfl ?_
  refine send ?_
  refine eseq ?_
  refine HT.no rfl ?_
  refine HT.seq ?_
  refine HT.plain ?_
  refine sqS (q_eqs rfl rfl (r := false) (by kernel_rfl)) rfl ?_
  refine sAs rfl rfl ?_
  refine send ?_
  refine eseq ?_
  refine HT.no rfl ?_
  refine HT.seq ?_
  refine HT.plain ?_
  refine sqS (q_eqs rfl rfl (r := false) (by kernel_rfl)) rfl ?_
  refine sAs rfl rfl ?_
  refine send ?_
  refine eseq ?_
  refine HT.no rfl ?_
  refine HT.seq ?_
  refine HT.plain ?_
  refine sqS (q_eqs rfl rfl (r := false) (by kernel_rfl)) rfl ?_
  refine sAs rfl rfl ?_
  refine send ?_
  refine eseq ?_
  refine HT.no rfl ?_
  refine HT.seq ?_
  refine HT.plain ?_
  refine sqS (q_eqs rfl rfl (r := false) (by kernel_rfl)) rfl ?_
  refine sAs rfl rfl ?_
  refine send ?_
  refine eseq ?_
  refine HT.no rfl ?_
  refine HT.seq ?_
  refine HT.plain ?_
  refine sqS (q_eqs rfl rfl (r := false) (by kernel_rfl)) rfl ?_
  refine sAs rfl rfl ?_
  refine send ?_
  refine eseq ?_
  refine HT.no rfl ?_
  refine HT.seq ?_
  refine HT.plain ?_
  refine sqS (q_eqs rfl rfl (r := false) (by kernel_rfl)) rfl ?_
  refine sAs rfl rfl ?_
  refine send ?_
  refine eseq ?_
  refine HT.no rfl ?_
  refine HT.seq ?_
  refine HT.plain ?_
  refine sqS (q_eqs rfl rfl (r := false) (by kernel_rfl)) rfl ?_
  refine sAs rfl rfl ?_
  refine send ?_
  refine eseq ?_
  refine HT.no rfl ?_
  refine HT.seq ?_
  refine HT.plain ?_
  refine sqS (q_eqs rfl rfl (r := false) (by kernel_rfl)) rfl ?_
  refine sAs rfl rfl ?_
  refine send ?_
  refine eseq ?_
  refine HT.no rfl ?_
  refine HT.seq ?_
  refine HT.plain ?_
  refine sqS (q_eqs rfl rfl (r := false) (by kernel_rfl)) rfl ?_
  refine sAs rfl rfl ?_
  refine send ?_
  refine eseq ?_
  refine HT.no rfl ?_
  refine HT.seq ?_
  refine HT.plain ?_
  refine sqS (q_eqs rfl rfl (r := true) (by kernel_rfl)) rfl ?_
  refine sAs rfl rfl ?_
  refine send ?_
  refine eseq ?_
  refine HT.yes rfl ?_
  refine HT.seq ?_
  refine HT.plain ?_
  refine sMv rfl rfl ?_
  refine sqS (q_call (vs := [(.slice A n c)]) (v := (.tuple #[(.agg #[(.slice none 0 0), (.slice none 0 0), (.slice none 0 0), (.slice none 0 0)]), (.bool false), (.bool false)])) rfl ca_40 (fun w h => gtp_s5 w A n c bs (by omega) (by omega) (by omega) (by omega) (St.enter (sp := []) (Kc := []) (bi := [0]) h rfl rfl rfl))) rfl ?_
  refine sqS (q_extract (vs := [(.agg #[(.slice none 0 0), (.slice none 0 0), (.slice none 0 0), (.slice none 0 0)]), (.bool false), (.bool false)]) (i := 0) rfl rfl) rfl ?_
  refine sqS (q_extract (vs := [(.agg #[(.slice none 0 0), (.slice none 0 0), (.slice none 0 0), (.slice none 0 0)]), (.bool false), (.bool false)]) (i := 1) rfl rfl) rfl ?_
  refine sqS (q_extract (vs := [(.agg #[(.slice none 0 0), (.slice none 0 0), (.slice none 0 0), (.slice none 0 0)]), (.bool false), (.bool false)]) (i := 2) rfl rfl) rfl ?_
  refine sl_ (l_storeAgg (b := b4) (off := 0) (j := 0) (vs := [(.slice none 0 0), (.slice none 0 0), (.slice none 0 0), (.slice none 0 0)]) rfl rfl aggs_29 (by simp [Value.one1]) rfl rfl rfl (Nat.le_of_ble_eq_true rfl) ?_)
  refine sAs rfl rfl ?_
  refine sAs rfl rfl ?_
  refine send ?_
  refine eseq ?_
  refine HT.ret ?_
  refine rt_in ?_
  refine rt_then ?_
  exact fun a ha w' hw => fin_ ha (resc3 ha Tryz.results26 rfl (ld_ aggs_29 hw (j := 0) rfl rfl (vs := [(.slice none 0 0), (.slice none 0 0), (.slice none 0 0), (.slice none 0 0)]) rfl) rfl rfl) ⟨⟨none, 0, 0, []⟩, ⟨none, 0, 0, []⟩, ⟨none, 0, 0, []⟩, ⟨none, 0, 0, []⟩, false, rfl, hw.pres⟩

theorem gtp_s6 (w : World) (A : Option Addr) (n : Nat) (c : Nat) (bs : List UInt8) (hn : n ≤ 2147483647) (ha : 8 ≤ n) (hb : bN bs 2 2 ≤ n - 8) (hc : nb bs 0 % 8 = 0) (hst : St w [] [] [Byt A n c bs] w) : Calls Tryz.prog 40 #[(.slice A n c)] w (CP1 w [] [Byt A n c bs] (fun b48 => (.tuple #[(.agg #[(.slice (some ⟨b48, 0, none⟩) 11 11), (.slice none 0 0), (.slice none 0 0), (.slice (cutA A c 8) (n - 8) (c - 8))]), (.bool true), (.bool true)])) (fun b48 => [⟨b48, 39, [some (.int .u64 (((nb bs 0) / 32 : Nat) : Int)), some (.int .u64 ((((nb bs 0) / 16) &&& 1 : Nat) : Int)), some (.int .u64 ((((nb bs 0) / 8) &&& 1 : Nat) : Int)), some (.int .u64 ((((nb bs 0) / 4) &&& 1 : Nat) : Int)), some (.int .u64 ((((nb bs 0) / 2) &&& 1 : Nat) : Int)), some (.int .u64 (((nb bs 0) &&& 1 : Nat) : Int)), some (.int .u64 ((nb bs 1 : Nat) : Int)), some (.int .u64 ((bN bs 2 2 : Nat) : Int)), some (.int .u64 ((bN bs 4 4 : Nat) : Int)), some (.int .u64 ((0 : Nat) : Int)), some (.int .u64 ((0 : Nat) : Int))], true⟩]) (fun b48 => [])) := by
  have hnc00 : n ≤ c := (hst.fact (j := 0) rfl).2.1
  refine enter (vs := [(.slice A n c)]) Tryz.func40 rfl rfl rfl hst ?_
  refine HT.seq ?_
  refine HT.plain ?_
  refine sl_ (l_alloc (by decide) zero_29 fun b2 => ?_)
  refine sAs rfl rfl ?_
  refine sAs rfl rfl ?_
  refine send ?_
  refine eseq ?_
  refine HT.seq ?_
  refine HT.plain ?_
  refine sMv rfl rfl ?_
  refine sqS (q_index (i := 0) (j := 0) rfl rfl Tryz.underlying22 nagg_5 (fun _ h => h) rfl (by omega)) rfl ?_
  refine sqS (q_byte (i := 0) (j := 0) rfl nagg_5 (fun _ h => h) rfl (by omega)) rfl ?_
  refine sAs rfl rfl ?_
  refine send ?_
  refine eseq ?_
  refine HT.seq ?_
  refine HT.drawnS mixed (St.closed _ _ _ _) ?_
  refine dtake (f := 4) [0, 1, 2, 3, 4, 5, 6, 7, 8, 9, 10, 11, 12, 13, 14, 15, 16, 17, 18, 19, 20, 21, 22, 23, 24, 25, 26, 27, 28, 29, 30, 31, 32, 33] (by kernel_rfl) (St.closed _ _ _ _) (fun _ h => h) (by kernel_rfl) ?_
  refine dq rfl (q_move rfl) ?_
  refine dq rfl (q_slice (lo := 8) (hi := n) rfl Tryz.underlying22 nagg_5 (.inr ⟨_, _, rfl, rfl⟩) (.inl ⟨rfl, rfl⟩) (by omega) (by omega)) ?_
  refine dq rfl (q_move rfl) ?_
  refine dq rfl (q_shr (p := nb bs 0) (e := 5) (N := 32) rfl rfl (by decide) rfl) ?_
  refine dq rfl (q_convn (p := (nb bs 0) / 32) rfl Tryz.underlying5 Tryz.underlying39 (show (nb bs 0) / 32 < 18446744073709551616 by have := nb_lt bs 0; omega)) ?_
  refine dq rfl (q_move rfl) ?_
  refine dq rfl (q_shr (p := nb bs 0) (e := 4) (N := 16) rfl rfl (by decide) rfl) ?_
  refine dq rfl (q_and (p := (nb bs 0) / 16) (q := 1) rfl rfl rfl (show (nb bs 0) / 16 < 256 by have := nb_lt bs 0; omega) (by decide)) ?_
  refine dq rfl (q_convn (p := ((nb bs 0) / 16) &&& 1) rfl Tryz.underlying5 Tryz.underlying39 (show ((nb bs 0) / 16) &&& 1 < 18446744073709551616 by have := nb_lt bs 0; have := zm1 ((nb bs 0) / 16); have := Nat.and_le_left (n := (nb bs 0) / 16) (m := 1); have := Nat.and_le_right (n := (nb bs 0) / 16) (m := 1); omega)) ?_
  refine dq rfl (q_move rfl) ?_
  refine dq rfl (q_shr (p := nb bs 0) (e := 3) (N := 8) rfl rfl (by decide) rfl) ?_
  refine dq rfl (q_and (p := (nb bs 0) / 8) (q := 1) rfl rfl rfl (show (nb bs 0) / 8 < 256 by have := nb_lt bs 0; omega) (by decide)) ?_
  refine dq rfl (q_convn (p := ((nb bs 0) / 8) &&& 1) rfl Tryz.underlying5 Tryz.underlying39 (show ((nb bs 0) / 8) &&& 1 < 18446744073709551616 by have := nb_lt bs 0; have := zm1 ((nb bs 0) / 8); have := Nat.and_le_left (n := (nb bs 0) / 8) (m := 1); have := Nat.and_le_right (n := (nb bs 0) / 8) (m := 1); omega)) ?_
  refine dq rfl (q_move rfl) ?_
  refine dq rfl (q_shr (p := nb bs 0) (e := 2) (N := 4) rfl rfl (by decide) rfl) ?_
  refine dq rfl (q_and (p := (nb bs 0) / 4) (q := 1) rfl rfl rfl (show (nb bs 0) / 4 < 256 by have := nb_lt bs 0; omega) (by decide)) ?_
  refine dq rfl (q_convn (p := ((nb bs 0) / 4) &&& 1) rfl Tryz.underlying5 Tryz.underlying39 (show ((nb bs 0) / 4) &&& 1 < 18446744073709551616 by have := nb_lt bs 0; have := zm1 ((nb bs 0) / 4); have := Nat.and_le_left (n := (nb bs 0) / 4) (m := 1); have := Nat.and_le_right (n := (nb bs 0) / 4) (m := 1); omega)) ?_
  refine dq rfl (q_move rfl) ?_
  refine dq rfl (q_shr (p := nb bs 0) (e := 1) (N := 2) rfl rfl (by decide) rfl) ?_
  refine dq rfl (q_and (p := (nb bs 0) / 2) (q := 1) rfl rfl rfl (show (nb bs 0) / 2 < 256 by have := nb_lt bs 0; omega) (by decide)) ?_
  refine dq rfl (q_convn (p := ((nb bs 0) / 2) &&& 1) rfl Tryz.underlying5 Tryz.underlying39 (show ((nb bs 0) / 2) &&& 1 < 18446744073709551616 by have := nb_lt bs 0; have := zm1 ((nb bs 0) / 2); have := Nat.and_le_left (n := (nb bs 0) / 2) (m := 1); have := Nat.and_le_right (n := (nb bs 0) / 2) (m := 1); omega)) ?_
  refine dq rfl (q_move rfl) ?_
  refine dq rfl (q_and (p := nb bs 0) (q := 1) rfl rfl rfl (show nb bs 0 < 256 by have := nb_lt bs 0; omega) (by decide)) ?_
  refine dq rfl (q_convn (p := (nb bs 0) &&& 1) rfl Tryz.underlying5 Tryz.underlying39 (show (nb bs 0) &&& 1 < 18446744073709551616 by have := nb_lt bs 0; have := zm1 (nb bs 0); have := Nat.and_le_left (n := nb bs 0) (m := 1); have := Nat.and_le_right (n := nb bs 0) (m := 1); omega)) ?_
  refine dq rfl (q_move rfl) ?_
  refine dq rfl (q_index (i := 1) (j := 0) rfl rfl Tryz.underlying22 nagg_5 (fun _ h => h) rfl (by omega)) ?_
  refine dq rfl (q_byte (i := 1) (j := 0) rfl nagg_5 (fun _ h => h) rfl (by omega)) ?_
  refine dq rfl (q_convn (p := nb bs 1) rfl Tryz.underlying5 Tryz.underlying39 (show nb bs 1 < 18446744073709551616 by have := nb_lt bs 1; omega)) ?_
  refine dq rfl (q_move rfl) ?_
  refine dq rfl (q_slice (lo := 2) (hi := 4) rfl Tryz.underlying22 nagg_5 (.inr ⟨_, _, rfl, rfl⟩) (.inr ⟨_, _, rfl, rfl⟩) (by omega) (by omega)) ?_
  refine dq rfl (q_call (vs := [(.slice (cutA A c 2) (4 - 2) (c - 2))]) (v := (.int .u64 ((bN bs 2 2 : Nat) : Int))) rfl ca_34 (fun w h => NumberC w A n c bs (lo := 2) (hi := 4) (h.fact (j := 0) rfl) (k := 2) rfl (by decide) (by omega) (by omega))) ?_
  refine dq rfl (q_move rfl) ?_
  refine dq rfl (q_slice (lo := 4) (hi := 8) rfl Tryz.underlying22 nagg_5 (.inr ⟨_, _, rfl, rfl⟩) (.inr ⟨_, _, rfl, rfl⟩) (by omega) (by omega)) ?_
  refine dq rfl (q_call (vs := [(.slice (cutA A c 4) (8 - 4) (c - 4))]) (v := (.int .u64 ((bN bs 4 4 : Nat) : Int))) rfl ca_34 (fun w h => NumberC w A n c bs (lo := 4) (hi := 8) (h.fact (j := 0) rfl) (k := 4) rfl (by decide) (by omega) (by omega))) ?_
  refine QL.nil ?_
  refine RG.step2 34 36 (by kernel_rfl) ?_ ?_
  · refine dop rfl (l_buildSlice (e := 39) (vs := [(0, (.int .u64 (((nb bs 0) / 32 : Nat) : Int))), (1, (.int .u64 ((((nb bs 0) / 16) &&& 1 : Nat) : Int))), (2, (.int .u64 ((((nb bs 0) / 8) &&& 1 : Nat) : Int))), (3, (.int .u64 ((((nb bs 0) / 4) &&& 1 : Nat) : Int))), (4, (.int .u64 ((((nb bs 0) / 2) &&& 1 : Nat) : Int))), (5, (.int .u64 (((nb bs 0) &&& 1 : Nat) : Int))), (6, (.int .u64 ((nb bs 1 : Nat) : Int))), (7, (.int .u64 ((bN bs 2 2 : Nat) : Int))), (8, (.int .u64 ((bN bs 4 4 : Nat) : Int))), (9, (.int .u64 ((0 : Nat) : Int))), (10, (.int .u64 ((0 : Nat) : Int)))]) (cs := [(.int .u64 (((nb bs 0) / 32 : Nat) : Int)), (.int .u64 ((((nb bs 0) / 16) &&& 1 : Nat) : Int)), (.int .u64 ((((nb bs 0) / 8) &&& 1 : Nat) : Int)), (.int .u64 ((((nb bs 0) / 4) &&& 1 : Nat) : Int)), (.int .u64 ((((nb bs 0) / 2) &&& 1 : Nat) : Int)), (.int .u64 (((nb bs 0) &&& 1 : Nat) : Int)), (.int .u64 ((nb bs 1 : Nat) : Int)), (.int .u64 ((bN bs 2 2 : Nat) : Int)), (.int .u64 ((bN bs 4 4 : Nat) : Int)), (.int .u64 ((0 : Nat) : Int)), (.int .u64 ((0 : Nat) : Int))]) (by decide) rfl (fun _ => by kernel_rfl) fun b48 => ⟨(fun _ h => (h.wk [(0, [])] rfl)), ?_⟩)
    refine dtake (f := 2) [35] (by kernel_rfl) (St.closed _ _ _ _) (fun _ h => (h.wk [(0, [])] rfl)) (by kernel_rfl) ?_
    refine dq rfl (q_call (vs := [(.slice (cutA A c 8) (n - 8) (c - 8)), (.slice (some ⟨b48, 0, none⟩) 11 11)]) (v := (.agg #[(.slice (some ⟨b48, 0, none⟩) 11 11), (.slice none 0 0), (.slice none 0 0), (.slice (cutA A c 8) (n - 8) (c - 8))])) rfl ca_33 (fun w h => layerC w (cutA A c 8) (n - 8) (c - 8) (some ⟨b48, 0, none⟩) 11 11  (St.enter (sp := []) (Kc := []) (bi := []) h rfl rfl rfl))) ?_
    refine QL.nil ?_
    refine RG.step1 36 (by kernel_rfl) ?_
    refine dop rfl (l_alloc (by decide) zero_29 fun b6 => ⟨(fun _ h => (h.wk [(0, [])] rfl)), ?_⟩)
    refine RG.step1 37 (by kernel_rfl) ?_
    refine dop rfl (l_storeAgg (b := b6) (off := 0) (j := 2) (vs := [(.slice (some ⟨b48, 0, none⟩) 11 11), (.slice none 0 0), (.slice none 0 0), (.slice (cutA A c 8) (n - 8) (c - 8))]) rfl rfl aggs_29 (by simp [Value.one1]) rfl rfl rfl (Nat.le_of_ble_eq_true rfl) ⟨(fun _ h => (h.wk [(0, [])] rfl)), ?_⟩)
    refine dend (by kernel_rfl) ?_
    refine eseq ?_
    refine HT.seq ?_
    refine HT.seq ?_
    refine HT.plain ?_
    refine sMv rfl rfl ?_
    refine sqS (q_slice (lo := 2) (hi := 4) rfl Tryz.underlying22 nagg_5 (.inr ⟨_, _, rfl, rfl⟩) (.inr ⟨_, _, rfl, rfl⟩) (by omega) (by omega)) rfl ?_
    refine sqS (q_call (vs := [(.slice (cutA A c 2) (4 - 2) (c - 2))]) (v := (.int .u64 ((bN bs 2 2 : Nat) : Int))) rfl ca_34 (fun w h => NumberC w A n c bs (lo := 2) (hi := 4) (h.fact (j := 0) rfl) (k := 2) rfl (by decide) (by omega) (by omega))) rfl ?_
    refine sqS (q_convn (p := bN bs 2 2) rfl Tryz.underlying39 Tryz.underlying3 (show bN bs 2 2 < 9223372036854775808 by have := bN_lt bs 2 2 65536 rfl; omega)) rfl ?_
    refine sAs rfl rfl ?_
    refine send ?_
    refine eseq ?_
    refine HT.seq ?_
    refine HT.plain ?_
    refine sMv rfl rfl ?_
    refine sMv rfl rfl ?_
    refine sqS (q_len (len := n) rfl Tryz.underlying22) rfl ?_
    refine sqS (q_sub (p := n) (q := 8) rfl rfl (by omega) (show n < 9223372036854775808 by omega)) rfl ?_
    refine sqS (q_F (q_gt (p := bN bs 2 2) (q := n - 8) rfl rfl) (by have := bN_lt bs 2 2 65536 rfl; omega)) rfl ?_
    refine send ?_
    refine eseq ?_
    refine HT.no rfl ?_
    refine HT.skip ?_
    refine eseq ?_
    refine HT.seq ?_
    refine HT.seq ?_
    refine HT.plain ?_
    refine sMv rfl rfl ?_
    refine sqS (q_and (p := nb bs 0) (q := 7) rfl rfl rfl (show nb bs 0 < 256 by have := nb_lt bs 0; omega) (by decide)) rfl ?_
    refine sqS (q_T (q_eq (p := (nb bs 0) &&& 7) (q := 0) rfl rfl) (by have := nb_lt bs 0; have := zm7 (nb bs 0); have := Nat.and_le_left (n := nb bs 0) (m := 7); have := Nat.and_le_right (n := nb bs 0) (m := 7); omega)) rfl ?_
    refine send ?_
    refine eseq ?_
    refine HT.yes rfl ?_
    refine HT.seq ?_
    refine HT.plain ?_
    refine sqS (q_loadAgg (b := b6) (off := 0) (j := 2) (vs := [(.slice (some ⟨b48, 0, none⟩) 11 11), (.slice none 0 0), (.slice none 0 0), (.slice (cutA A c 8) (n - 8) (c - 8))]) rfl aggs_29 (fun _ h => h) rfl rfl rfl) rfl ?_
    refine sl_ (l_storeAgg (b := b2) (off := 0) (j := 0) (vs := [(.slice (some ⟨b48, 0, none⟩) 11 11), (.slice none 0 0), (.slice none 0 0), (.slice (cutA A c 8) (n - 8) (c - 8))]) rfl rfl aggs_29 (by simp [Value.one1]) rfl rfl rfl (Nat.le_of_ble_eq_true rfl) ?_)
    refine sAs rfl rfl ?_
    refine sAs rfl rfl ?_
    refine send ?_
    refine eseq ?_
    refine HT.ret ?_
    refine rt_then ?_
    exact fun a ha w' hw => fin_ ha (resc3 ha Tryz.results40 rfl (ld_ aggs_29 hw (j := 0) rfl rfl (vs := [(.slice (some ⟨b48, 0, none⟩) 11 11), (.slice none 0 0), (.slice none 0 0), (.slice (cutA A c 8) (n - 8) (c - 8))]) rfl) rfl rfl) ⟨b48, rfl, (hw.wk [(1, [])] rfl), fr0⟩
  · refine dop rfl (l_alloc (by decide) zero_29 fun b6 => ⟨(fun _ h => (h.wk [(0, [])] rfl)), ?_⟩)
    refine RG.step1 34 (by kernel_rfl) ?_
    refine dop rfl (l_buildSlice (e := 39) (vs := [(0, (.int .u64 (((nb bs 0) / 32 : Nat) : Int))), (1, (.int .u64 ((((nb bs 0) / 16) &&& 1 : Nat) : Int))), (2, (.int .u64 ((((nb bs 0) / 8) &&& 1 : Nat) : Int))), (3, (.int .u64 ((((nb bs 0) / 4) &&& 1 : Nat) : Int))), (4, (.int .u64 ((((nb bs 0) / 2) &&& 1 : Nat) : Int))), (5, (.int .u64 (((nb bs 0) &&& 1 : Nat) : Int))), (6, (.int .u64 ((nb bs 1 : Nat) : Int))), (7, (.int .u64 ((bN bs 2 2 : Nat) : Int))), (8, (.int .u64 ((bN bs 4 4 : Nat) : Int))), (9, (.int .u64 ((0 : Nat) : Int))), (10, (.int .u64 ((0 : Nat) : Int)))]) (cs := [(.int .u64 (((nb bs 0) / 32 : Nat) : Int)), (.int .u64 ((((nb bs 0) / 16) &&& 1 : Nat) : Int)), (.int .u64 ((((nb bs 0) / 8) &&& 1 : Nat) : Int)), (.int .u64 ((((nb bs 0) / 4) &&& 1 : Nat) : Int)), (.int .u64 ((((nb bs 0) / 2) &&& 1 : Nat) : Int)), (.int .u64 (((nb bs 0) &&& 1 : Nat) : Int)), (.int .u64 ((nb bs 1 : Nat) : Int)), (.int .u64 ((bN bs 2 2 : Nat) : Int)), (.int .u64 ((bN bs 4 4 : Nat) : Int)), (.int .u64 ((0 : Nat) : Int)), (.int .u64 ((0 : Nat) : Int))]) (by decide) rfl (fun _ => by kernel_rfl) fun b48 => ⟨(fun _ h => (h.wk [(0, [])] rfl)), ?_⟩)
    refine dtake (f := 1) [35] (by kernel_rfl) (St.closed _ _ _ _) (fun _ h => (h.wk [(0, [])] rfl)) (by kernel_rfl) ?_
    refine dq rfl (q_call (vs := [(.slice (cutA A c 8) (n - 8) (c - 8)), (.slice (some ⟨b48, 0, none⟩) 11 11)]) (v := (.agg #[(.slice (some ⟨b48, 0, none⟩) 11 11), (.slice none 0 0), (.slice none 0 0), (.slice (cutA A c 8) (n - 8) (c - 8))])) rfl ca_33 (fun w h => layerC w (cutA A c 8) (n - 8) (c - 8) (some ⟨b48, 0, none⟩) 11 11  (St.enter (sp := []) (Kc := []) (bi := []) h rfl rfl rfl))) ?_
    refine QL.nil ?_
    refine RG.step1 37 (by kernel_rfl) ?_
    refine dop rfl (l_storeAgg (b := b6) (off := 0) (j := 1) (vs := [(.slice (some ⟨b48, 0, none⟩) 11 11), (.slice none 0 0), (.slice none 0 0), (.slice (cutA A c 8) (n - 8) (c - 8))]) rfl rfl aggs_29 (by simp [Value.one1]) rfl rfl rfl (Nat.le_of_ble_eq_true rfl) ⟨(fun _ h => (h.wk [(0, [])] rfl)), ?_⟩)
    refine dend (by kernel_rfl) ?_
    refine eseq ?_
    refine HT.seq ?_
    refine HT.seq ?_
    refine HT.plain ?_
    refine sMv rfl rfl ?_
    refine sqS (q_slice (lo := 2) (hi := 4) rfl Tryz.underlying22 nagg_5 (.inr ⟨_, _, rfl, rfl⟩) (.inr ⟨_, _, rfl, rfl⟩) (by omega) (by omega)) rfl ?_
    refine sqS (q_call (vs := [(.slice (cutA A c 2) (4 - 2) (c - 2))]) (v := (.int .u64 ((bN bs 2 2 : Nat) : Int))) rfl ca_34 (fun w h => NumberC w A n c bs (lo := 2) (hi := 4) (h.fact (j := 0) rfl) (k := 2) rfl (by decide) (by omega) (by omega))) rfl ?_
    refine sqS (q_convn (p := bN bs 2 2) rfl Tryz.underlying39 Tryz.underlying3 (show bN bs 2 2 < 9223372036854775808 by have := bN_lt bs 2 2 65536 rfl; omega)) rfl ?_
    refine sAs rfl rfl ?_
    refine send ?_
    refine eseq ?_
    refine HT.seq ?_
    refine HT.plain ?_
    refine sMv rfl rfl ?_
    refine sMv rfl rfl ?_
    refine sqS (q_len (len := n) rfl Tryz.underlying22) rfl ?_
    refine sqS (q_sub (p := n) (q := 8) rfl rfl (by omega) (show n < 9223372036854775808 by omega)) rfl ?_
    refine sqS (q_F (q_gt (p := bN bs 2 2) (q := n - 8) rfl rfl) (by have := bN_lt bs 2 2 65536 rfl; omega)) rfl ?_
    refine send ?_
    refine eseq ?_
    refine HT.no rfl ?_
    refine HT.skip ?_
    refine eseq ?_
    refine HT.seq ?_
    refine HT.seq ?_
    refine HT.plain ?_
    refine sMv rfl rfl ?_
    refine sqS (q_and (p := nb bs 0) (q := 7) rfl rfl rfl (show nb bs 0 < 256 by have := nb_lt bs 0; omega) (by decide)) rfl ?_
    refine sqS (q_T (q_eq (p := (nb bs 0) &&& 7) (q := 0) rfl rfl) (by have := nb_lt bs 0; have := zm7 (nb bs 0); have := Nat.and_le_left (n := nb bs 0) (m := 7); have := Nat.and_le_right (n := nb bs 0) (m := 7); omega)) rfl ?_
    refine send ?_
    refine eseq ?_
    refine HT.yes rfl ?_
    refine HT.seq ?_
    refine HT.plain ?_
    refine sqS (q_loadAgg (b := b6) (off := 0) (j := 1) (vs := [(.slice (some ⟨b48, 0, none⟩) 11 11), (.slice none 0 0), (.slice none 0 0), (.slice (cutA A c 8) (n - 8) (c - 8))]) rfl aggs_29 (fun _ h => h) rfl rfl rfl) rfl ?_
    refine sl_ (l_storeAgg (b := b2) (off := 0) (j := 0) (vs := [(.slice (some ⟨b48, 0, none⟩) 11 11), (.slice none 0 0), (.slice none 0 0), (.slice (cutA A c 8) (n - 8) (c - 8))]) rfl rfl aggs_29 (by simp [Value.one1]) rfl rfl rfl (Nat.le_of_ble_eq_true rfl) ?_)
    refine sAs rfl rfl ?_
    refine sAs rfl rfl ?_
    refine send ?_
    refine eseq ?_
    refine HT.ret ?_
    refine rt_then ?_
    exact fun a ha w' hw => fin_ ha (resc3 ha Tryz.results40 rfl (ld_ aggs_29 hw (j := 0) rfl rfl (vs := [(.slice (some ⟨b48, 0, none⟩) 11 11), (.slice none 0 0), (.slice none 0 0), (.slice (cutA A c 8) (n - 8) (c - 8))]) rfl) rfl rfl) ⟨b48, rfl, (hw.wk [(2, [])] rfl), fr0⟩

theorem gtp_S6 (w : World) (A : Option Addr) (n : Nat) (c : Nat) (bs : List UInt8) (hn : n ≤ 2147483647) (ha : 8 ≤ n) (hb : bN bs 2 2 ≤ n - 8) (hc : nb bs 0 % 8 = 0) (hst : St w [] [] [Byt A n c bs] w) : Calls Tryz.prog 26 #[(.string ⟨#[103, 116, 112]⟩), (.slice A n c)] w (SP w (Byt A n c bs) (some (some ⟨[(nb bs 0) / 32, ((nb bs 0) / 16) &&& 1, ((nb bs 0) / 8) &&& 1, ((nb bs 0) / 4) &&& 1, ((nb bs 0) / 2) &&& 1, (nb bs 0) &&& 1, nb bs 1, bN bs 2 2, bN bs 4 4, 0, 0], [], [], sl bs 8 n⟩))) := by
  have hnc00 : n ≤ c := (hst.fact (j := 0) rfl).2.1
  refine enter (vs := [(.string ⟨#[103, 116, 112]⟩), (.slice A n c)]) Tryz.func26 rfl rfl rfl hst ?_
  refine HT.seq ?_
  refine HT.plain ?_
  refine sl_ (l_alloc (by decide) zero_29 fun b4 => ?_)
  refine sAs rfl rfl ?_
  refine sAs rfl rfl ?_
  refine send ?_
  refine eseq ?_
  refine HT.seq ?_
  refine HT.plain ?_
  refine sl_ (l_makeMap (by decide) fun b13 => ?_)
  refine sl_ (l_insert (es := es0) (ck := 0) rfl rfl rfl Tryz.underlying36 Tryz.underlying9 fi0 ?_)
  refine sl_ (l_insert (es := es1) (ck := 1) rfl rfl rfl Tryz.underlying36 Tryz.underlying9 fi1 ?_)
  refine sl_ (l_insert (es := es2) (ck := 2) rfl rfl rfl Tryz.underlying36 Tryz.underlying9 fi2 ?_)
  refine sl_ (l_insert (es := es3) (ck := 3) rfl rfl rfl Tryz.underlying36 Tryz.underlying9 fi3 ?_)
  refine sl_ (l_insert (es := es4) (ck := 4) rfl rfl rfl Tryz.underlying36 Tryz.underlying9 fi4 ?_)
  refine sl_ (l_insert (es := es5) (ck := 5) rfl rfl rfl Tryz.underlying36 Tryz.underlying9 fi5 ?_)
  refine sl_ (l_insert (es := es6) (ck := 6) rfl rfl rfl Tryz.underlying36 Tryz.underlying9 fi6 ?_)
  refine sl_ (l_insert (es := es7) (ck := 7) rfl rfl rfl Tryz.underlying36 Tryz.underlying9 fi7 ?_)
  refine sl_ (l_insert (es := es8) (ck := 8) rfl rfl rfl Tryz.underlying36 Tryz.underlying9 fi8 ?_)
  refine sl_ (l_insert (es := es9) (ck := 9) rfl rfl rfl Tryz.underlying36 Tryz.underlying9 fi9 ?_)
  refine sl_ (l_insert (es := es10) (ck := 10) rfl rfl rfl Tryz.underlying36 Tryz.underlying9 fi10 ?_)
  refine sl_ (l_insert (es := es11) (ck := 11) rfl rfl rfl Tryz.underlying36 Tryz.underlying9 fi11 ?_)
  refine sl_ (l_insert (es := es12) (ck := 12) rfl rfl rfl Tryz.underlying36 Tryz.underlying9 fi12 ?_)
  refine sl_ (l_insert (es := es13) (ck := 13) rfl rfl rfl Tryz.underlying36 Tryz.underlying9 fi13 ?_)
  refine sl_ (l_insert (es := es14) (ck := 14) rfl rfl rfl Tryz.underlying36 Tryz.underlying9 fi14 ?_)
  refine sl_ (l_insert (es := es15) (ck := 15) rfl rfl rfl Tryz.underlying36 Tryz.underlying9 fi15 ?_)
  refine sl_ (l_insert (es := es16) (ck := 16) rfl rfl rfl Tryz.underlying36 Tryz.underlying9 fi16 ?_)
  refine sl_ (l_insert (es := es17) (ck := 17) rfl rfl rfl Tryz.underlying36 Tryz.underlying9 fi17 ?_)
  refine sl_ (l_insert (es := es18) (ck := 18) rfl rfl rfl Tryz.underlying36 Tryz.underlying9 fi18 ?_)
  refine sl_ (l_insert (es := es19) (ck := 19) rfl rfl rfl Tryz.underlying36 Tryz.underlying9 fi19 ?_)
  refine sl_ (l_insert (es := es20) (ck := 20) rfl rfl rfl Tryz.underlying36 Tryz.underlying9 fi20 ?_)
  refine sq (SM.closed) (q_move rfl) rfl ?_
  refine sq (SM.closed) (q_move rfl) rfl ?_
  refine sq (SM.closed) (q_lookup (es := es21) (i := 11) (v := (.int .i64 ((8 : Nat) : Int))) (fun _ h => h) rfl rfl Tryz.underlying36 Tryz.underlying9 (by kernel_rfl)) rfl ?_
  refine sq (SM.closed) (q_assign rfl) rfl ?_
  refine send ?_
  refine eseq ?_
  refine HT.unmap ?_
  refine HT.seq ?_
  refine HT.seq ?_
  refine HT.plain ?_
  refine sMv rfl rfl ?_
  refine sqS (q_len (len := n) rfl Tryz.underlying22) rfl ?_
  refine sMv rfl rfl ?_
  refine sqS (q_F (q_lt (p := n) (q := 8) rfl rfl) (by omega)) rfl ?_
  refine send ?_
  refine eseq ?_
  refine HT.no rfl ?_
  refine HT.skip ?_
  refine eseq ?_
  refine HT.seq ?_
  refine HT.seq ?_
  refine HT.plain ?_
  refine sMv rfl rfl ?_
  refine send ?_
  refine eseq ?_
  refine HT.block ?_
  refine HT.seq ?_
  refine HT.plain ?_
  refine sqS (q_eqs rfl rfl (r := false) (by kernel_rfl)) rfl ?_
  refine sAs rfl rfl ?_
  refine send ?_
  refine eseq ?_
  refine HT.no rfl ?_
  refine HT.seq ?_
  refine HT.plain ?_
  refine sqS (q_eqs rfl rfl (r := false) (by kernel_rfl)) rfl ?_
  refine sAs rfl rfl ?_
  refine send ?_
  refine eseq ?_
  refine HT.no rfl ?_
  refine HT.seq ?_
  refine HT.plain ?_
  refine sqS (q_eqs rfl rfl (r := false) (by kernel_rfl)) rfl ?_
  refine sAs rfl rfl ?_
  refine send ?_
  refine eseq ?_
  refine HT.no rfl ?_
  refine HT.seq ?_
  refine HT.plain ?_
  refine sqS (q_eqs rfl rfl (r := false) (by kernel_rfl)) rfl ?_
  refine sAs rfl rfl ?_
  refine send ?_
  refine eseq ?_
  refine HT.no rfl ?_
  refine HT.seq ?_
  refine HT.plain ?_
  refine sqS (q_eqs rfl rfl (r := false) (by kernel_rfl)) rfl ?_
  refine sAs rfl rfl ?_
  refine send ?_
  refine eseq ?_
  refine HT.no rfl ?_
  refine HT.seq ?_
  refine HT.plain ?_
  refine sqS (q_eqs rfl rfl (r := false) (by kernel_rfl)) rfl ?_
  refine sAs rfl rfl ?_
  refine send ?_
  refine eseq ?_
  refine HT.no rfl ?_
  refine HT.seq ?_
  refine HT.plain ?_
  refine sqS (q_eqs rfl rfl (r := false) (by kernel_rfl)) rfl ?_
  refine sAs rfl rfl ?_
  refine send ?_
  refine eseq ?_
  refine HT.no rfl ?_
  refine HT.seq ?_
  refine HT.plain ?_
  refine sqS (q_eqs rfl rfl (r := false) (by kernel_rfl)) rfl ?_
  refine sAs rfl rfl ?_
  refine send ?_
  refine eseq ?_
  refine HT.no rfl ?_
  refine HT.seq ?_
  refine HT.plain ?_
  refine sqS (q_eqs rfl rfl (r := false) (by kernel_rfl)) rfl ?_
  refine sAs rfl rfl ?_
  refine send ?_
  refine eseq ?_
  refine HT.no rfl ?_
  refine HT.seq ?_
  refine HT.plain ?_
  refine sqS (q_eqs rfl rfl (r := false) (by kernel_rfl)) rfl ?_
  refine sAs rfl rfl ?_
  refine send ?_
  refine eseq ?_
  refine HT.no rfl ?_
  refine HT.seq ?_
  refine HT.plain ?_
  refine sqS (q_eqs rfl rfl (r := false) (by kernel_rfl)) rfl ?_
  refine sAs rfl rfl ?_
  refine send ?_
  refine eseq ?_
  refine HT.no rfl ?_
  refine HT.seq ?_
  refine HT.plain ?_
  refine sqS (q_eqs rfl rfl (r := true) (by kernel_rfl)) rfl ?_
  refine sAs rfl rfl ?_
  refine send ?_
  refine eseq ?_
  refine HT.yes rfl ?_
  refine HT.seq ?_
  refine HT.plain ?_
  refine sMv rfl rfl ?_
  refine sl_ (l_callX1 (vs := [(.slice A n c)]) (Kc := []) (Bc := [Byt A n c bs]) [] [0] [Byt A n c bs] (fun b48 => [⟨b4, 29, [some (.slice none 0 0), some (.slice none 0 0), some (.slice none 0 0), some (.slice none 0 0)], true⟩, ⟨b48, 39, [some (.int .u64 (((nb bs 0) / 32 : Nat) : Int)), some (.int .u64 ((((nb bs 0) / 16) &&& 1 : Nat) : Int)), some (.int .u64 ((((nb bs 0) / 8) &&& 1 : Nat) : Int)), some (.int .u64 ((((nb bs 0) / 4) &&& 1 : Nat) : Int)), some (.int .u64 ((((nb bs 0) / 2) &&& 1 : Nat) : Int)), some (.int .u64 (((nb bs 0) &&& 1 : Nat) : Int)), some (.int .u64 ((nb bs 1 : Nat) : Int)), some (.int .u64 ((bN bs 2 2 : Nat) : Int)), some (.int .u64 ((bN bs 4 4 : Nat) : Int)), some (.int .u64 ((0 : Nat) : Int)), some (.int .u64 ((0 : Nat) : Int))], true⟩]) (fun b48 => [Byt A n c bs]) (by decide) rfl ca_40 (fun _ h => h) rfl rfl rfl rfl (fun w h => gtp_s6 w A n c bs (by omega) (by omega) (by omega) (by omega) h) (fun _ => rfl) (fun _ => rfl) (fun _ => rfl) (fun _ => rfl) fun b48 hf1 he2 => ?_)
  refine sqS (q_extract (vs := [(.agg #[(.slice (some ⟨b48, 0, none⟩) 11 11), (.slice none 0 0), (.slice none 0 0), (.slice (cutA A c 8) (n - 8) (c - 8))]), (.bool true), (.bool true)]) (i := 0) rfl rfl) rfl ?_
  refine sqS (q_extract (vs := [(.agg #[(.slice (some ⟨b48, 0, none⟩) 11 11), (.slice none 0 0), (.slice none 0 0), (.slice (cutA A c 8) (n - 8) (c - 8))]), (.bool true), (.bool true)]) (i := 1) rfl rfl) rfl ?_
  refine sqS (q_extract (vs := [(.agg #[(.slice (some ⟨b48, 0, none⟩) 11 11), (.slice none 0 0), (.slice none 0 0), (.slice (cutA A c 8) (n - 8) (c - 8))]), (.bool true), (.bool true)]) (i := 2) rfl rfl) rfl ?_
  refine sl_ (l_storeAgg (b := b4) (off := 0) (j := 0) (vs := [(.slice (some ⟨b48, 0, none⟩) 11 11), (.slice none 0 0), (.slice none 0 0), (.slice (cutA A c 8) (n - 8) (c - 8))]) rfl rfl aggs_29 (by simp [Value.one1]) rfl rfl rfl (Nat.le_of_ble_eq_true rfl) ?_)
  refine sAs rfl rfl ?_
  refine sAs rfl rfl ?_
  refine send ?_
  refine eseq ?_
  refine HT.ret ?_
  refine rt_in ?_
  refine rt_then ?_
  exact fun a ha w' hw => fin_ ha (resc3 ha Tryz.results26 rfl (ld_ aggs_29 hw (j := 0) rfl rfl (vs := [(.slice (some ⟨b48, 0, none⟩) 11 11), (.slice none 0 0), (.slice none 0 0), (.slice (cutA A c 8) (n - 8) (c - 8))]) rfl) rfl rfl) ⟨⟨⟨some ⟨b48, 0, none⟩, 11, 11, [(nb bs 0) / 32, ((nb bs 0) / 16) &&& 1, ((nb bs 0) / 8) &&& 1, ((nb bs 0) / 4) &&& 1, ((nb bs 0) / 2) &&& 1, (nb bs 0) &&& 1, nb bs 1, bN bs 2 2, bN bs 4 4, 0, 0]⟩, none, 0, 0, [], none, 0, 0, [], ⟨cutA A c 8, n - 8, c - 8, sl bs 8 n⟩⟩, rfl, hw.pres, Own.lay (all1 (Own.cel hw (j := 1) (sz := 1) (r := []) rfl rfl rfl rfl (Nat.le_refl _)) (all1 (Own.nilCel 1) (all1 (Own.nilCel 2) (all1 (Own.cut hw (j := 0) (lo := 8) (hi := n) rfl (fun _ h => .inr h) (by omega) (by omega)) all0)))), rfl⟩

theorem gtp_s7 (w : World) (A : Option Addr) (n : Nat) (c : Nat) (bs : List UInt8) (hn : n ≤ 2147483647) (ha : 8 ≤ n) (hb : bN bs 2 2 ≤ n - 8) (hc : nb bs 0 % 8 ≠ 0) (hd : n < 12) (hst : St w [] [] [Byt A n c bs] w) : Calls Tryz.prog 40 #[(.slice A n c)] w (fun e w' => e = .returned (.tuple #[(.agg #[(.slice none 0 0), (.slice none 0 0), (.slice none 0 0), (.slice none 0 0)]), (.bool false), (.bool false)]) ∧ Pres [] w w') := by
  have hnc00 : n ≤ c := (hst.fact (j := 0) rfl).2.1
  refine enter (vs := [(.slice A n c)]) Tryz.func40 rfl rfl rfl hst ?_
  refine HT.seq ?_
  refine HT.plain ?_
  refine sl_ (l_alloc (by decide) zero_29 fun b2 => ?_)
  refine sAs rfl rfl ?_
  refine sAs rfl rfl ?_
  refine send ?_
  refine eseq ?_
  refine HT.seq ?_
  refine HT.plain ?_
  refine sMv rfl rfl ?_
  refine sqS (q_index (i := 0) (j := 0) rfl rfl Tryz.underlying22 nagg_5 (fun _ h => h) rfl (by omega)) rfl ?_
  refine sqS (q_byte (i := 0) (j := 0) rfl nagg_5 (fun _ h => h) rfl (by omega)) rfl ?_
  refine sAs rfl rfl ?_
  refine send ?_
  refine eseq ?_
  refine HT.seq ?_
  refine HT.drawnS mixed (St.closed _ _ _ _) ?_
  refine dtake (f := 4) [0, 1, 2, 3, 4, 5, 6, 7, 8, 9, 10, 11, 12, 13, 14, 15, 16, 17, 18, 19, 20, 21, 22, 23, 24, 25, 26, 27, 28, 29, 30, 31, 32, 33] (by kernel_rfl) (St.closed _ _ _ _) (fun _ h => h) (by kernel_rfl) ?_
  refine dq rfl (q_move rfl) ?_
  refine dq rfl (q_slice (lo := 8) (hi := n) rfl Tryz.underlying22 nagg_5 (.inr ⟨_, _, rfl, rfl⟩) (.inl ⟨rfl, rfl⟩) (by omega) (by omega)) ?_
  refine dq rfl (q_move rfl) ?_
  refine dq rfl (q_shr (p := nb bs 0) (e := 5) (N := 32) rfl rfl (by decide) rfl) ?_
  refine dq rfl (q_convn (p := (nb bs 0) / 32) rfl Tryz.underlying5 Tryz.underlying39 (show (nb bs 0) / 32 < 18446744073709551616 by have := nb_lt bs 0; omega)) ?_
  refine dq rfl (q_move rfl) ?_
  refine dq rfl (q_shr (p := nb bs 0) (e := 4) (N := 16) rfl rfl (by decide) rfl) ?_
  refine dq rfl (q_and (p := (nb bs 0) / 16) (q := 1) rfl rfl rfl (show (nb bs 0) / 16 < 256 by have := nb_lt bs 0; omega) (by decide)) ?_
  refine dq rfl (q_convn (p := ((nb bs 0) / 16) &&& 1) rfl Tryz.underlying5 Tryz.underlying39 (show ((nb bs 0) / 16) &&& 1 < 18446744073709551616 by have := nb_lt bs 0; have := zm1 ((nb bs 0) / 16); have := Nat.and_le_left (n := (nb bs 0) / 16) (m := 1); have := Nat.and_le_right (n := (nb bs 0) / 16) (m := 1); omega)) ?_
  refine dq rfl (q_move rfl) ?_
  refine dq rfl (q_shr (p := nb bs 0) (e := 3) (N := 8) rfl rfl (by decide) rfl) ?_
  refine dq rfl (q_and (p := (nb bs 0) / 8) (q := 1) rfl rfl rfl (show (nb bs 0) / 8 < 256 by have := nb_lt bs 0; omega) (by decide)) ?_
  refine dq rfl (q_convn (p := ((nb bs 0) / 8) &&& 1) rfl Tryz.underlying5 Tryz.underlying39 (show ((nb bs 0) / 8) &&& 1 < 18446744073709551616 by have := nb_lt bs 0; have := zm1 ((nb bs 0) / 8); have := Nat.and_le_left (n := (nb bs 0) / 8) (m := 1); have := Nat.and_le_right (n := (nb bs 0) / 8) (m := 1); omega)) ?_
  refine dq rfl (q_move rfl) ?_
  refine dq rfl (q_shr (p := nb bs 0) (e := 2) (N := 4) rfl rfl (by decide) rfl) ?_
  refine dq rfl (q_and (p := (nb bs 0) / 4) (q := 1) rfl rfl rfl (show (nb bs 0) / 4 < 256 by have := nb_lt bs 0; omega) (by decide)) ?_
  refine dq rfl (q_convn (p := ((nb bs 0) / 4) &&& 1) rfl Tryz.underlying5 Tryz.underlying39 (show ((nb bs 0) / 4) &&& 1 < 18446744073709551616 by have := nb_lt bs 0; have := zm1 ((nb bs 0) / 4); have := Nat.and_le_left (n := (nb bs 0) / 4) (m := 1); have := Nat.and_le_right (n := (nb bs 0) / 4) (m := 1); omega)) ?_
  refine dq rfl (q_move rfl) ?_
  refine dq rfl (q_shr (p := nb bs 0) (e := 1) (N := 2) rfl rfl (by decide) rfl) ?_
  refine dq rfl (q_and (p := (nb bs 0) / 2) (q := 1) rfl rfl rfl (show (nb bs 0) / 2 < 256 by have := nb_lt bs 0; omega) (by decide)) ?_
  refine dq rfl (q_convn (p := ((nb bs 0) / 2) &&& 1) rfl Tryz.underlying5 Tryz.underlying39 (show ((nb bs 0) / 2) &&& 1 < 18446744073709551616 by have := nb_lt bs 0; have := zm1 ((nb bs 0) / 2); have := Nat.and_le_left (n := (nb bs 0) / 2) (m := 1); have := Nat.and_le_right (n := (nb bs 0) / 2) (m := 1); omega)) ?_
  refine dq rfl (q_move rfl) ?_
  refine dq rfl (q_and (p := nb bs 0) (q := 1) rfl rfl rfl (show nb bs 0 < 256 by have := nb_lt bs 0; omega) (by decide)) ?_
  refine dq rfl (q_convn (p := (nb bs 0) &&& 1) rfl Tryz.underlying5 Tryz.underlying39 (show (nb bs 0) &&& 1 < 18446744073709551616 by have := nb_lt bs 0; have := zm1 (nb bs 0); have := Nat.and_le_left (n := nb bs 0) (m := 1); have := Nat.and_le_right (n := nb bs 0) (m := 1); omega)) ?_
  refine dq rfl (q_move rfl) ?_
  refine dq rfl (q_index (i := 1) (j := 0) rfl rfl Tryz.underlying22 nagg_5 (fun _ h => h) rfl (by omega)) ?_
  refine dq rfl (q_byte (i := 1) (j := 0) rfl nagg_5 (fun _ h => h) rfl (by omega)) ?_
  refine dq rfl (q_convn (p := nb bs 1) rfl Tryz.underlying5 Tryz.underlying39 (show nb bs 1 < 18446744073709551616 by have := nb_lt bs 1; omega)) ?_
  refine dq rfl (q_move rfl) ?_
  refine dq rfl (q_slice (lo := 2) (hi := 4) rfl Tryz.underlying22 nagg_5 (.inr ⟨_, _, rfl, rfl⟩) (.inr ⟨_, _, rfl, rfl⟩) (by omega) (by omega)) ?_
  refine dq rfl (q_call (vs := [(.slice (cutA A c 2) (4 - 2) (c - 2))]) (v := (.int .u64 ((bN bs 2 2 : Nat) : Int))) rfl ca_34 (fun w h => NumberC w A n c bs (lo := 2) (hi := 4) (h.fact (j := 0) rfl) (k := 2) rfl (by decide) (by omega) (by omega))) ?_
  refine dq rfl (q_move rfl) ?_
  refine dq rfl (q_slice (lo := 4) (hi := 8) rfl Tryz.underlying22 nagg_5 (.inr ⟨_, _, rfl, rfl⟩) (.inr ⟨_, _, rfl, rfl⟩) (by omega) (by omega)) ?_
  refine dq rfl (q_call (vs := [(.slice (cutA A c 4) (8 - 4) (c - 4))]) (v := (.int .u64 ((bN bs 4 4 : Nat) : Int))) rfl ca_34 (fun w h => NumberC w A n c bs (lo := 4) (hi := 8) (h.fact (j := 0) rfl) (k := 4) rfl (by decide) (by omega) (by omega))) ?_
  refine QL.nil ?_
  refine RG.step2 34 36 (by kernel_rfl) ?_ ?_
  · refine dop rfl (l_buildSlice (e := 39) (vs := [(0, (.int .u64 (((nb bs 0) / 32 : Nat) : Int))), (1, (.int .u64 ((((nb bs 0) / 16) &&& 1 : Nat) : Int))), (2, (.int .u64 ((((nb bs 0) / 8) &&& 1 : Nat) : Int))), (3, (.int .u64 ((((nb bs 0) / 4) &&& 1 : Nat) : Int))), (4, (.int .u64 ((((nb bs 0) / 2) &&& 1 : Nat) : Int))), (5, (.int .u64 (((nb bs 0) &&& 1 : Nat) : Int))), (6, (.int .u64 ((nb bs 1 : Nat) : Int))), (7, (.int .u64 ((bN bs 2 2 : Nat) : Int))), (8, (.int .u64 ((bN bs 4 4 : Nat) : Int))), (9, (.int .u64 ((0 : Nat) : Int))), (10, (.int .u64 ((0 : Nat) : Int)))]) (cs := [(.int .u64 (((nb bs 0) / 32 : Nat) : Int)), (.int .u64 ((((nb bs 0) / 16) &&& 1 : Nat) : Int)), (.int .u64 ((((nb bs 0) / 8) &&& 1 : Nat) : Int)), (.int .u64 ((((nb bs 0) / 4) &&& 1 : Nat) : Int)), (.int .u64 ((((nb bs 0) / 2) &&& 1 : Nat) : Int)), (.int .u64 (((nb bs 0) &&& 1 : Nat) : Int)), (.int .u64 ((nb bs 1 : Nat) : Int)), (.int .u64 ((bN bs 2 2 : Nat) : Int)), (.int .u64 ((bN bs 4 4 : Nat) : Int)), (.int .u64 ((0 : Nat) : Int)), (.int .u64 ((0 : Nat) : Int))]) (by decide) rfl (fun _ => by kernel_rfl) fun b48 => ⟨(fun _ h => (h.wk [(0, [])] rfl)), ?_⟩)
    refine dtake (f := 2) [35] (by kernel_rfl) (St.closed _ _ _ _) (fun _ h => (h.wk [(0, [])] rfl)) (by kernel_rfl) ?_
    refine dq rfl (q_call (vs := [(.slice (cutA A c 8) (n - 8) (c - 8)), (.slice (some ⟨b48, 0, none⟩) 11 11)]) (v := (.agg #[(.slice (some ⟨b48, 0, none⟩) 11 11), (.slice none 0 0), (.slice none 0 0), (.slice (cutA A c 8) (n - 8) (c - 8))])) rfl ca_33 (fun w h => layerC w (cutA A c 8) (n - 8) (c - 8) (some ⟨b48, 0, none⟩) 11 11  (St.enter (sp := []) (Kc := []) (bi := []) h rfl rfl rfl))) ?_
    refine QL.nil ?_
    refine RG.step1 36 (by kernel_rfl) ?_
    refine dop rfl (l_alloc (by decide) zero_29 fun b6 => ⟨(fun _ h => (h.wk [(0, [])] rfl)), ?_⟩)
    refine RG.step1 37 (by kernel_rfl) ?_
    refine dop rfl (l_storeAgg (b := b6) (off := 0) (j := 2) (vs := [(.slice (some ⟨b48, 0, none⟩) 11 11), (.slice none 0 0), (.slice none 0 0), (.slice (cutA A c 8) (n - 8) (c - 8))]) rfl rfl aggs_29 (by simp [Value.one1]) rfl rfl rfl (Nat.le_of_ble_eq_true rfl) ⟨(fun _ h => (h.wk [(0, [])] rfl)), ?_⟩)
    refine dend (by kernel_rfl) ?_
    refine eseq ?_
    refine HT.seq ?_
    refine HT.seq ?_
    refine HT.plain ?_
    refine sMv rfl rfl ?_
    refine sqS (q_slice (lo := 2) (hi := 4) rfl Tryz.underlying22 nagg_5 (.inr ⟨_, _, rfl, rfl⟩) (.inr ⟨_, _, rfl, rfl⟩) (by omega) (by omega)) rfl ?_
    refine sqS (q_call (vs := [(.slice (cutA A c 2) (4 - 2) (c - 2))]) (v := (.int .u64 ((bN bs 2 2 : Nat) : Int))) rfl ca_34 (fun w h => NumberC w A n c bs (lo := 2) (hi := 4) (h.fact (j := 0) rfl) (k := 2) rfl (by decide) (by omega) (by omega))) rfl ?_
    refine sqS (q_convn (p := bN bs 2 2) rfl Tryz.underlying39 Tryz.underlying3 (show bN bs 2 2 < 9223372036854775808 by have := bN_lt bs 2 2 65536 rfl; omega)) rfl ?_
    refine sAs rfl rfl ?_
    refine send ?_
    refine eseq ?_
    refine HT.seq ?_
    refine HT.plain ?_
    refine sMv rfl rfl ?_
    refine sMv rfl rfl ?_
    refine sqS (q_len (len := n) rfl Tryz.underlying22) rfl ?_
    refine sqS (q_sub (p := n) (q := 8) rfl rfl (by omega) (show n < 9223372036854775808 by omega)) rfl ?_
    refine sqS (q_F (q_gt (p := bN bs 2 2) (q := n - 8) rfl rfl) (by have := bN_lt bs 2 2 65536 rfl; omega)) rfl ?_
    refine send ?_
    refine eseq ?_
    refine HT.no rfl ?_
    refine HT.skip ?_
    refine eseq ?_
    refine HT.seq ?_
    refine HT.seq ?_
    refine HT.plain ?_
    refine sMv rfl rfl ?_
    refine sqS (q_and (p := nb bs 0) (q := 7) rfl rfl rfl (show nb bs 0 < 256 by have := nb_lt bs 0; omega) (by decide)) rfl ?_
    refine sqS (q_F (q_eq (p := (nb bs 0) &&& 7) (q := 0) rfl rfl) (by have := nb_lt bs 0; have := zm7 (nb bs 0); have := Nat.and_le_left (n := nb bs 0) (m := 7); have := Nat.and_le_right (n := nb bs 0) (m := 7); omega)) rfl ?_
    refine send ?_
    refine eseq ?_
    refine HT.no rfl ?_
    refine HT.skip ?_
    refine eseq ?_
    refine HT.seq ?_
    refine HT.seq ?_
    refine HT.plain ?_
    refine sMv rfl rfl ?_
    refine sqS (q_len (len := n) rfl Tryz.underlying22) rfl ?_
    refine sqS (q_T (q_lt (p := n) (q := 12) rfl rfl) (by omega)) rfl ?_
    refine sMv rfl rfl ?_
    refine sskip rfl rfl ?_
    refine sskip rfl rfl ?_
    refine sskip rfl rfl ?_
    refine sskip rfl rfl ?_
    refine sqS (q_pick rfl (fun _ => rfl) (fun h => nomatch h)) rfl ?_
    refine send ?_
    refine eseq ?_
    refine HT.yes rfl ?_
    refine HT.seq ?_
    refine HT.plain ?_
    refine sqS (q_build (vs := []) (v := (.agg #[(.slice none 0 0), (.slice none 0 0), (.slice none 0 0), (.slice none 0 0)])) rfl (fun _ => by kernel_rfl)) rfl ?_
    refine sl_ (l_storeAgg (b := b2) (off := 0) (j := 0) (vs := [(.slice none 0 0), (.slice none 0 0), (.slice none 0 0), (.slice none 0 0)]) rfl rfl aggs_29 (by simp [Value.one1]) rfl rfl rfl (Nat.le_of_ble_eq_true rfl) ?_)
    refine sAs rfl rfl ?_
    refine sAs rfl rfl ?_
    refine send ?_
    refine eseq ?_
    refine HT.ret ?_
    refine rt_then ?_
    exact fun a ha w' hw => fin_ ha (resc3 ha Tryz.results40 rfl (ld_ aggs_29 hw (j := 0) rfl rfl (vs := [(.slice none 0 0), (.slice none 0 0), (.slice none 0 0), (.slice none 0 0)]) rfl) rfl rfl) ⟨rfl, hw.pres⟩
  · refine dop rfl (l_alloc (by decide) zero_29 fun b6 => ⟨(fun _ h => (h.wk [(0, [])] rfl)), ?_⟩)
    refine RG.step1 34 (by kernel_rfl) ?_
    refine dop rfl (l_buildSlice (e := 39) (vs := [(0, (.int .u64 (((nb bs 0) / 32 : Nat) : Int))), (1, (.int .u64 ((((nb bs 0) / 16) &&& 1 : Nat) : Int))), (2, (.int .u64 ((((nb bs 0) / 8) &&& 1 : Nat) : Int))), (3, (.int .u64 ((((nb bs 0) / 4) &&& 1 : Nat) : Int))), (4, (.int .u64 ((((nb bs 0) / 2) &&& 1 : Nat) : Int))), (5, (.int .u64 (((nb bs 0) &&& 1 : Nat) : Int))), (6, (.int .u64 ((nb bs 1 : Nat) : Int))), (7, (.int .u64 ((bN bs 2 2 : Nat) : Int))), (8, (.int .u64 ((bN bs 4 4 : Nat) : Int))), (9, (.int .u64 ((0 : Nat) : Int))), (10, (.int .u64 ((0 : Nat) : Int)))]) (cs := [(.int .u64 (((nb bs 0) / 32 : Nat) : Int)), (.int .u64 ((((nb bs 0) / 16) &&& 1 : Nat) : Int)), (.int .u64 ((((nb bs 0) / 8) &&& 1 : Nat) : Int)), (.int .u64 ((((nb bs 0) / 4) &&& 1 : Nat) : Int)), (.int .u64 ((((nb bs 0) / 2) &&& 1 : Nat) : Int)), (.int .u64 (((nb bs 0) &&& 1 : Nat) : Int)), (.int .u64 ((nb bs 1 : Nat) : Int)), (.int .u64 ((bN bs 2 2 : Nat) : Int)), (.int .u64 ((bN bs 4 4 : Nat) : Int)), (.int .u64 ((0 : Nat) : Int)), (.int .u64 ((0 : Nat) : Int))]) (by decide) rfl (fun _ => by kernel_rfl) fun b48 => ⟨(fun _ h => (h.wk [(0, [])] rfl)), ?_⟩)
    refine dtake (f := 1) [35] (by kernel_rfl) (St.closed _ _ _ _) (fun _ h => (h.wk [(0, [])] rfl)) (by kernel_rfl) ?_
    refine dq rfl (q_call (vs := [(.slice (cutA A c 8) (n - 8) (c - 8)), (.slice (some ⟨b48, 0, none⟩) 11 11)]) (v := (.agg #[(.slice (some ⟨b48, 0, none⟩) 11 11), (.slice none 0 0), (.slice none 0 0), (.slice (cutA A c 8) (n - 8) (c - 8))])) rfl ca_33 (fun w h => layerC w (cutA A c 8) (n - 8) (c - 8) (some ⟨b48, 0, none⟩) 11 11  (St.enter (sp := []) (Kc := []) (bi := []) h rfl rfl rfl))) ?_
    refine QL.nil ?_
    refine RG.step1 37 (by kernel_rfl) ?_
    refine dop rfl (l_storeAgg (b := b6) (off := 0) (j := 1) (vs := [(.slice (some ⟨b48, 0, none⟩) 11 11), (.slice none 0 0), (.slice none 0 0), (.slice (cutA A c 8) (n - 8) (c - 8))]) rfl rfl aggs_29 (by simp [Value.one1]) rfl rfl rfl (Nat.le_of_ble_eq_true rfl) ⟨(fun _ h => (h.wk [(0, [])] rfl)), ?_⟩)
    refine dend (by kernel_rfl) ?_
    refine eseq ?_
    refine HT.seq ?_
    refine HT.seq ?_
    refine HT.plain ?_
    refine sMv rfl rfl ?_
    refine sqS (q_slice (lo := 2) (hi := 4) rfl Tryz.underlying22 nagg_5 (.inr ⟨_, _, rfl, rfl⟩) (.inr ⟨_, _, rfl, rfl⟩) (by omega) (by omega)) rfl ?_
    refine sqS (q_call (vs := [(.slice (cutA A c 2) (4 - 2) (c - 2))]) (v := (.int .u64 ((bN bs 2 2 : Nat) : Int))) rfl ca_34 (fun w h => NumberC w A n c bs (lo := 2) (hi := 4) (h.fact (j := 0) rfl) (k := 2) rfl (by decide) (by omega) (by omega))) rfl ?_
    refine sqS (q_convn (p := bN bs 2 2) rfl Tryz.underlying39 Tryz.underlying3 (show bN bs 2 2 < 9223372036854775808 by have := bN_lt bs 2 2 65536 rfl; omega)) rfl ?_
    refine sAs rfl rfl ?_
    refine send ?_
    refine eseq ?_
    refine HT.seq ?_
    refine HT.plain ?_
    refine sMv rfl rfl ?_
    refine sMv rfl rfl ?_
    refine sqS (q_len (len := n) rfl Tryz.underlying22) rfl ?_
    refine sqS (q_sub (p := n) (q := 8) rfl rfl (by omega) (show n < 9223372036854775808 by omega)) rfl ?_
    refine sqS (q_F (q_gt (p := bN bs 2 2) (q := n - 8) rfl rfl) (by have := bN_lt bs 2 2 65536 rfl; omega)) rfl ?_
    refine send ?_
    refine eseq ?_
    refine HT.no rfl ?_
    refine HT.skip ?_
    refine eseq ?_
    refine HT.seq ?_
    refine HT.seq ?_
    refine HT.plain ?_
    refine sMv rfl rfl ?_
    refine sqS (q_and (p := nb bs 0) (q := 7) rfl rfl rfl (show nb bs 0 < 256 by have := nb_lt bs 0; omega) (by decide)) rfl ?_
    refine sqS (q_F (q_eq (p := (nb bs 0) &&& 7) (q := 0) rfl rfl) (by have := nb_lt bs 0; have := zm7 (nb bs 0); have := Nat.and_le_left (n := nb bs 0) (m := 7); have := Nat.and_le_right (n := nb bs 0) (m := 7); omega)) rfl ?_
    refine send ?_
    refine eseq ?_
    refine HT.no rfl ?_
    refine HT.skip ?_
    refine eseq ?_
    refine HT.seq ?_
    refine HT.seq ?_
    refine HT.plain ?_
    refine sMv rfl rfl ?_
    refine sqS (q_len (len := n) rfl Tryz.underlying22) rfl ?_
    refine sqS (q_T (q_lt (p := n) (q := 12) rfl rfl) (by omega)) rfl ?_
    refine sMv rfl rfl ?_
    refine sskip rfl rfl ?_
    refine sskip rfl rfl ?_
    refine sskip rfl rfl ?_
    refine sskip rfl rfl ?_
    refine sqS (q_pick rfl (fun _ => rfl) (fun h => nomatch h)) rfl ?_
    refine send ?_
    refine eseq ?_
    refine HT.yes rfl ?_
    refine HT.seq ?_
    refine HT.plain ?_
    refine sqS (q_build (vs := []) (v := (.agg #[(.slice none 0 0), (.slice none 0 0), (.slice none 0 0), (.slice none 0 0)])) rfl (fun _ => by kernel_rfl)) rfl ?_
    refine sl_ (l_storeAgg (b := b2) (off := 0) (j := 0) (vs := [(.slice none 0 0), (.slice none 0 0), (.slice none 0 0), (.slice none 0 0)]) rfl rfl aggs_29 (by simp [Value.one1]) rfl rfl rfl (Nat.le_of_ble_eq_true rfl) ?_)
    refine sAs rfl rfl ?_
    refine sAs rfl rfl ?_
    refine send ?_
    refine eseq ?_
    refine HT.ret ?_
    refine rt_then ?_
    exact fun a ha w' hw => fin_ ha (resc3 ha Tryz.results40 rfl (ld_ aggs_29 hw (j := 0) rfl rfl (vs := [(.slice none 0 0), (.slice none 0 0), (.slice none 0 0), (.slice none 0 0)]) rfl) rfl rfl) ⟨rfl, hw.pres⟩

theorem gtp_S7 (w : World) (A : Option Addr) (n : Nat) (c : Nat) (bs : List UInt8) (hn : n ≤ 2147483647) (ha : 8 ≤ n) (hb : bN bs 2 2 ≤ n - 8) (hc : nb bs 0 % 8 ≠ 0) (hd : n < 12) (hst : St w [] [] [Byt A n c bs] w) : Calls Tryz.prog 26 #[(.string ⟨#[103, 116, 112]⟩), (.slice A n c)] w (SP w (Byt A n c bs) none) := by
  have hnc00 : n ≤ c := (hst.fact (j := 0) rfl).2.1
  refine enter (vs := [(.string ⟨#[103, 116, 112]⟩), (.slice A n c)]) Tryz.func26 rfl rfl rfl hst ?_
  refine HT.seq ?_
  refine HT.plain ?_
  refine sl_ (l_alloc (by decide) zero_29 fun b4 => ?_)
  refine sAs rfl rfl ?_
  refine sAs rfl rfl ?_
  refine send ?_
  refine eseq ?_
  refine HT.seq ?_
  refine HT.plain ?_
  refine sl_ (l_makeMap (by decide) fun b13 => ?_)
  refine sl_ (l_insert (es := es0) (ck := 0) rfl rfl rfl Tryz.underlying36 Tryz.underlying9 fi0 ?_)
  refine sl_ (l_insert (es := es1) (ck := 1) rfl rfl rfl Tryz.underlying36 Tryz.underlying9 fi1 ?_)
  refine sl_ (l_insert (es := es2) (ck := 2) rfl rfl rfl Tryz.underlying36 Tryz.underlying9 fi2 ?_)
  refine sl_ (l_insert (es := es3) (ck := 3) rfl rfl rfl Tryz.underlying36 Tryz.underlying9 fi3 ?_)
  refine sl_ (l_insert (es := es4) (ck := 4) rfl rfl rfl Tryz.underlying36 Tryz.underlying9 fi4 ?_)
  refine sl_ (l_insert (es := es5) (ck := 5) rfl rfl rfl Tryz.underlying36 Tryz.underlying9 fi5 ?_)
  refine sl_ (l_insert (es := es6) (ck := 6) rfl rfl rfl Tryz.underlying36 Tryz.underlying9 fi6 ?_)
  refine sl_ (l_insert (es := es7) (ck := 7) rfl rfl rfl Tryz.underlying36 Tryz.underlying9 fi7 ?_)
  refine sl_ (l_insert (es := es8) (ck := 8) rfl rfl rfl Tryz.underlying36 Tryz.underlying9 fi8 ?_)
  refine sl_ (l_insert (es := es9) (ck := 9) rfl rfl rfl Tryz.underlying36 Tryz.underlying9 fi9 ?_)
  refine sl_ (l_insert (es := es10) (ck := 10) rfl rfl rfl Tryz.underlying36 Tryz.underlying9 fi10 ?_)
  refine sl_ (l_insert (es := es11) (ck := 11) rfl rfl rfl Tryz.underlying36 Tryz.underlying9 fi11 ?_)
  refine sl_ (l_insert (es := es12) (ck := 12) rfl rfl rfl Tryz.underlying36 Tryz.underlying9 fi12 ?_)
  refine sl_ (l_insert (es := es13) (ck := 13) rfl rfl rfl Tryz.underlying36 Tryz.underlying9 fi13 ?_)
  refine sl_ (l_insert (es := es14) (ck := 14) rfl rfl rfl Tryz.underlying36 Tryz.underlying9 fi14 ?_)
  refine sl_ (l_insert (es := es15) (ck := 15) rfl rfl rfl Tryz.underlying36 Tryz.underlying9 fi15 ?_)
  refine sl_ (l_insert (es := es16) (ck := 16) rfl rfl rfl Tryz.underlying36 Tryz.underlying9 fi16 ?_)
  refine sl_ (l_insert (es := es17) (ck := 17) rfl rfl rfl Tryz.underlying36 Tryz.underlying9 fi17 ?_)
  refine sl_ (l_insert (es := es18) (ck := 18) rfl rfl rfl Tryz.underlying36 Tryz.underlying9 fi18 ?_)
  refine sl_ (l_insert (es := es19) (ck := 19) rfl rfl rfl Tryz.underlying36 Tryz.underlying9 fi19 ?_)
  refine sl_ (l_insert (es := es20) (ck := 20) rfl rfl rfl Tryz.underlying36 Tryz.underlying9 fi20 ?_)
  refine sq (SM.closed) (q_move rfl) rfl ?_
  refine sq (SM.closed) (q_move rfl) rfl ?_
  refine sq (SM.closed) (q_lookup (es := es21) (i := 11) (v := (.int .i64 ((8 : Nat) : Int))) (fun _ h => h) rfl rfl Tryz.underlying36 Tryz.underlying9 (by kernel_rfl)) rfl ?_
  refine sq (SM.closed) (q_assign rfl) rfl ?_
  refine send ?_
  refine eseq ?_
  refine HT.unmap ?_
  refine HT.seq ?_
  refine HT.seq ?_
  refine HT.plain ?_
  refine sMv rfl rfl ?_
  refine sqS (q_len (len := n) rfl Tryz.underlying22) rfl ?_
  refine sMv rfl rfl ?_
  refine sqS (q_F (q_lt (p := n) (q := 8) rfl rfl) (by omega)) rfl ?_
  refine send ?_
  refine eseq ?_
  refine HT.no rfl ?_
  refine HT.skip ?_
  refine eseq ?_
  refine HT.seq ?_
  refine HT.seq ?_
  refine HT.plain ?_
  refine sMv rfl rfl ?_
  refine send ?_
  refine eseq ?_
  refine HT.block ?_
  refine HT.seq ?_
  refine HT.plain ?_
  refine sqS (q_eqs rfl rfl (r := false) (by kernel_rfl)) rfl ?_
  refine sAs rfl rfl ?_
  refine send ?_
  refine eseq ?_
  refine HT.no rfl ?_
  refine HT.seq ?_
  refine HT.plain ?_
  refine sqS (q_eqs rfl rfl (r := false) (by kernel_rfl)) rfl ?_
  refine sAs rfl rfl ?_
  refine send ?_
  refine eseq ?_
  refine HT.no rfl ?_
  refine HT.seq ?_
  refine HT.plain ?_
  refine sqS (q_eqs rfl rfl (r := false) (by kernel_rfl)) rfl ?_
  refine sAs rfl rfl ?_
  refine send ?_
  refine eseq ?_
  refine HT.no rfl ?_
  refine HT.seq ?_
  refine HT.plain ?_
  refine sqS (q_eqs rfl rfl (r := false) (by kernel_rfl)) rfl ?_
  refine sAs rfl rfl ?_
  refine send ?_
  refine eseq ?_
  refine HT.no rfl ?_
  refine HT.seq ?_
  refine HT.plain ?_
  refine sqS (q_eqs rfl rfl (r := false) (by kernel_rfl)) rfl ?_
  refine sAs rfl rfl ?_
  refine send ?_
  refine eseq ?_
  refine HT.no rfl ?_
  refine HT.seq ?_
  refine HT.plain ?_
  refine sqS (q_eqs rfl rfl (r := false) (by kernel_rfl)) rfl ?_
  refine sAs rfl rfl ?_
  refine send ?_
  refine eseq ?_
  refine HT.no rfl ?_
  refine HT.seq ?_
  refine HT.plain ?_
  refine sqS (q_eqs rfl rfl (r := false) (by kernel_rfl)) rfl ?_
  refine sAs rfl rfl ?_
  refine send ?_
  refine eseq ?_
  refine HT.no rfl ?_
  refine HT.seq ?_
  refine HT.plain ?_
  refine sqS (q_eqs rfl rfl (r := false) (by kernel_rfl)) rfl ?_
  refine sAs rfl rfl ?_
  refine send ?_
  refine eseq ?_
  refine HT.no rfl ?_
  refine HT.seq ?_
  refine HT.plain ?_
  refine sqS (q_eqs rfl rfl (r := false) (by kernel_rfl)) rfl ?_
  refine sAs rfl rfl ?_
  refine send ?_
  refine eseq ?_
  refine HT.no rfl ?_
  refine HT.seq ?_
  refine HT.plain ?_
  refine sqS (q_eqs rfl rfl (r := false) (by kernel_rfl)) rfl ?_
  refine sAs rfl rfl ?_
  refine send ?_
  refine eseq ?_
  refine HT.no rfl ?_
  refine HT.seq ?_
  refine HT.plain ?_
  refine sqS (q_eqs rfl rfl (r := false) (by kernel_rfl)) rfl ?_
  refine sAs rfl rfl ?_
  refine send ?_
  refine eseq ?_
  refine HT.no rfl ?_
  refine HT.seq ?_
  refine HT.plain ?_
  refine sqS (q_eqs rfl rfl (r := true) (by kernel_rfl)) rfl ?_
  refine sAs rfl rfl ?_
  refine send ?_
  refine eseq ?_
  refine HT.yes rfl ?_
  refine HT.seq ?_
  refine HT.plain ?_
  refine sMv rfl rfl ?_
  refine sqS (q_call (vs := [(.slice A n c)]) (v := (.tuple #[(.agg #[(.slice none 0 0), (.slice none 0 0), (.slice none 0 0), (.slice none 0 0)]), (.bool false), (.bool false)])) rfl ca_40 (fun w h => gtp_s7 w A n c bs (by omega) (by omega) (by omega) (by omega) (by omega) (St.enter (sp := []) (Kc := []) (bi := [0]) h rfl rfl rfl))) rfl ?_
  refine sqS (q_extract (vs := [(.agg #[(.slice none 0 0), (.slice none 0 0), (.slice none 0 0), (.slice none 0 0)]), (.bool false), (.bool false)]) (i := 0) rfl rfl) rfl ?_
  refine sqS (q_extract (vs := [(.agg #[(.slice none 0 0), (.slice none 0 0), (.slice none 0 0), (.slice none 0 0)]), (.bool false), (.bool false)]) (i := 1) rfl rfl) rfl ?_
  refine sqS (q_extract (vs := [(.agg #[(.slice none 0 0), (.slice none 0 0), (.slice none 0 0), (.slice none 0 0)]), (.bool false), (.bool false)]) (i := 2) rfl rfl) rfl ?_
  refine sl_ (l_storeAgg (b := b4) (off := 0) (j := 0) (vs := [(.slice none 0 0), (.slice none 0 0), (.slice none 0 0), (.slice none 0 0)]) rfl rfl aggs_29 (by simp [Value.one1]) rfl rfl rfl (Nat.le_of_ble_eq_true rfl) ?_)
  refine sAs rfl rfl ?_
  refine sAs rfl rfl ?_
  refine send ?_
  refine eseq ?_
  refine HT.ret ?_
  refine rt_in ?_
  refine rt_then ?_
  exact fun a ha w' hw => fin_ ha (resc3 ha Tryz.results26 rfl (ld_ aggs_29 hw (j := 0) rfl rfl (vs := [(.slice none 0 0), (.slice none 0 0), (.slice none 0 0), (.slice none 0 0)]) rfl) rfl rfl) ⟨⟨none, 0, 0, []⟩, ⟨none, 0, 0, []⟩, ⟨none, 0, 0, []⟩, ⟨none, 0, 0, []⟩, false, rfl, hw.pres⟩

theorem gtp_s8 (w : World) (A : Option Addr) (n : Nat) (c : Nat) (bs : List UInt8) (hn : n ≤ 2147483647) (ha : 8 ≤ n) (hb : bN bs 2 2 ≤ n - 8) (hc : nb bs 0 % 8 ≠ 0) (hd : 12 ≤ n) (he : bN bs 2 2 < 4) (hst : St w [] [] [Byt A n c bs] w) : Calls Tryz.prog 40 #[(.slice A n c)] w (fun e w' => e = .returned (.tuple #[(.agg #[(.slice none 0 0), (.slice none 0 0), (.slice none 0 0), (.slice none 0 0)]), (.bool false), (.bool false)]) ∧ Pres [] w w') := by
  have hnc00 : n ≤ c := (hst.fact (j := 0) rfl).2.1
  refine enter (vs := [(.slice A n c)]) Tryz.func40 rfl rfl rfl hst ?_
  refine HT.seq ?_
  refine HT.plain ?_
  refine sl_ (l_alloc (by decide) zero_29 fun b2 => ?_)
  refine sAs rfl rfl ?_
  refine sAs rfl rfl ?_
  refine send ?_
  refine eseq ?_
  refine HT.seq ?_
  refine HT.plain ?_
  refine sMv rfl rfl ?_
  refine sqS (q_index (i := 0) (j := 0) rfl rfl Tryz.underlying22 nagg_5 (fun _ h => h) rfl (by omega)) rfl ?_
  refine sqS (q_byte (i := 0) (j := 0) rfl nagg_5 (fun _ h => h) rfl (by omega)) rfl ?_
  refine sAs rfl rfl ?_
  refine send ?_
  refine eseq ?_
  refine HT.seq ?_
  refine HT.drawnS mixed (St.closed _ _ _ _) ?_
  refine dtake (f := 4) [0, 1, 2, 3, 4, 5, 6, 7, 8, 9, 10, 11, 12, 13, 14, 15, 16, 17, 18, 19, 20, 21, 22, 23, 24, 25, 26, 27, 28, 29, 30, 31, 32, 33] (by kernel_rfl) (St.closed _ _ _ _) (fun _ h => h) (by kernel_rfl) ?_
  refine dq rfl (q_move rfl) ?_
  refine dq rfl (q_slice (lo := 8) (hi := n) rfl Tryz.underlying22 nagg_5 (.inr ⟨_, _, rfl, rfl⟩) (.inl ⟨rfl, rfl⟩) (by omega) (by omega)) ?_
  refine dq rfl (q_move rfl) ?_
  refine dq rfl (q_shr (p := nb bs 0) (e := 5) (N := 32) rfl rfl (by decide) rfl) ?_
  refine dq rfl (q_convn (p := (nb bs 0) / 32) rfl Tryz.underlying5 Tryz.underlying39 (show (nb bs 0) / 32 < 18446744073709551616 by have := nb_lt bs 0; omega)) ?_
  refine dq rfl (q_move rfl) ?_
  refine dq rfl (q_shr (p := nb bs 0) (e := 4) (N := 16) rfl rfl (by decide) rfl) ?_
  refine dq rfl (q_and (p := (nb bs 0) / 16) (q := 1) rfl rfl rfl (show (nb bs 0) / 16 < 256 by have := nb_lt bs 0; omega) (by decide)) ?_
  refine dq rfl (q_convn (p := ((nb bs 0) / 16) &&& 1) rfl Tryz.underlying5 Tryz.underlying39 (show ((nb bs 0) / 16) &&& 1 < 18446744073709551616 by have := nb_lt bs 0; have := zm1 ((nb bs 0) / 16); have := Nat.and_le_left (n := (nb bs 0) / 16) (m := 1); have := Nat.and_le_right (n := (nb bs 0) / 16) (m := 1); omega)) ?_
  refine dq rfl (q_move rfl) ?_
  refine dq rfl (q_shr (p := nb bs 0) (e := 3) (N := 8) rfl rfl (by decide) rfl) ?_
  refine dq rfl (q_and (p := (nb bs 0) / 8) (q := 1) rfl rfl rfl (show (nb bs 0) / 8 < 256 by have := nb_lt bs 0; omega) (by decide)) ?_
  refine dq rfl (q_convn (p := ((nb bs 0) / 8) &&& 1) rfl Tryz.underlying5 Tryz.underlying39 (show ((nb bs 0) / 8) &&& 1 < 18446744073709551616 by have := nb_lt bs 0; have := zm1 ((nb bs 0) / 8); have := Nat.and_le_left (n := (nb bs 0) / 8) (m := 1); have := Nat.and_le_right (n := (nb bs 0) / 8) (m := 1); omega)) ?_
  refine dq rfl (q_move rfl) ?_
  refine dq rfl (q_shr (p := nb bs 0) (e := 2) (N := 4) rfl rfl (by decide) rfl) ?_
  refine dq rfl (q_and (p := (nb bs 0) / 4) (q := 1) rfl rfl rfl (show (nb bs 0) / 4 < 256 by have := nb_lt bs 0; omega) (by decide)) ?_
  refine dq rfl (q_convn (p := ((nb bs 0) / 4) &&& 1) rfl Tryz.underlying5 Tryz.underlying39 (show ((nb bs 0) / 4) &&& 1 < 18446744073709551616 by have := nb_lt bs 0; have := zm1 ((nb bs 0) / 4); have := Nat.and_le_left (n := (nb bs 0) / 4) (m := 1); have := Nat.and_le_right (n := (nb bs 0) / 4) (m := 1); omega)) ?_
  refine dq rfl (q_move rfl) ?_
  refine dq rfl (q_shr (p := nb bs 0) (e := 1) (N := 2) rfl rfl (by decide) rfl) ?_
  refine dq rfl (q_and (p := (nb bs 0) / 2) (q := 1) rfl rfl rfl (show (nb bs 0) / 2 < 256 by have := nb_lt bs 0; omega) (by decide)) ?_
  refine dq rfl (q_convn (p := ((nb bs 0) / 2) &&& 1) rfl Tryz.underlying5 Tryz.underlying39 (show ((nb bs 0) / 2) &&& 1 < 18446744073709551616 by have := nb_lt bs 0; have := zm1 ((nb bs 0) / 2); have := Nat.and_le_left (n := (nb bs 0) / 2) (m := 1); have := Nat.and_le_right (n := (nb bs 0) / 2) (m := 1); omega)) ?_
  refine dq rfl (q_move rfl) ?_
  refine dq rfl (q_and (p := nb bs 0) (q := 1) rfl rfl rfl (show nb bs 0 < 256 by have := nb_lt bs 0; omega) (by decide)) ?_
  refine dq rfl (q_convn (p := (nb bs 0) &&& 1) rfl Tryz.underlying5 Tryz.underlying39 (show (nb bs 0) &&& 1 < 18446744073709551616 by have := nb_lt bs 0; have := zm1 (nb bs 0); have := Nat.and_le_left (n := nb bs 0) (m := 1); have := Nat.and_le_right (n := nb bs 0) (m := 1); omega)) ?_
  refine dq rfl (q_move rfl) ?_
  refine dq rfl (q_index (i := 1) (j := 0) rfl rfl Tryz.underlying22 nagg_5 (fun _ h => h) rfl (by omega)) ?_
  refine dq rfl (q_byte (i := 1) (j := 0) rfl nagg_5 (fun _ h => h) rfl (by omega)) ?_
  refine dq rfl (q_convn (p := nb bs 1) rfl Tryz.underlying5 Tryz.underlying39 (show nb bs 1 < 18446744073709551616 by have := nb_lt bs 1; omega)) ?_
  refine dq rfl (q_move rfl) ?_
  refine dq rfl (q_slice (lo := 2) (hi := 4) rfl Tryz.underlying22 nagg_5 (.inr ⟨_, _, rfl, rfl⟩) (.inr ⟨_, _, rfl, rfl⟩) (by omega) (by omega)) ?_
  refine dq rfl (q_call (vs := [(.slice (cutA A c 2) (4 - 2) (c - 2))]) (v := (.int .u64 ((bN bs 2 2 : Nat) : Int))) rfl ca_34 (fun w h => NumberC w A n c bs (lo := 2) (hi := 4) (h.fact (j := 0) rfl) (k := 2) rfl (by decide) (by omega) (by omega))) ?_
  refine dq rfl (q_move rfl) ?_
  refine dq rfl (q_slice (lo := 4) (hi := 8) rfl Tryz.underlying22 nagg_5 (.inr ⟨_, _, rfl, rfl⟩) (.inr ⟨_, _, rfl, rfl⟩) (by omega) (by omega)) ?_
  refine dq rfl (q_call (vs := [(.slice (cutA A c 4) (8 - 4) (c - 4))]) (v := (.int .u64 ((bN bs 4 4 : Nat) : Int))) rfl ca_34 (fun w h => NumberC w A n c bs (lo := 4) (hi := 8) (h.fact (j := 0) rfl) (k := 4) rfl (by decide) (by omega) (by omega))) ?_
  refine QL.nil ?_
  refine RG.step2 34 36 (by kernel_rfl) ?_ ?_
  · refine dop rfl (l_buildSlice (e := 39) (vs := [(0, (.int .u64 (((nb bs 0) / 32 : Nat) : Int))), (1, (.int .u64 ((((nb bs 0) / 16) &&& 1 : Nat) : Int))), (2, (.int .u64 ((((nb bs 0) / 8) &&& 1 : Nat) : Int))), (3, (.int .u64 ((((nb bs 0) / 4) &&& 1 : Nat) : Int))), (4, (.int .u64 ((((nb bs 0) / 2) &&& 1 : Nat) : Int))), (5, (.int .u64 (((nb bs 0) &&& 1 : Nat) : Int))), (6, (.int .u64 ((nb bs 1 : Nat) : Int))), (7, (.int .u64 ((bN bs 2 2 : Nat) : Int))), (8, (.int .u64 ((bN bs 4 4 : Nat) : Int))), (9, (.int .u64 ((0 : Nat) : Int))), (10, (.int .u64 ((0 : Nat) : Int)))]) (cs := [(.int .u64 (((nb bs 0) / 32 : Nat) : Int)), (.int .u64 ((((nb bs 0) / 16) &&& 1 : Nat) : Int)), (.int .u64 ((((nb bs 0) / 8) &&& 1 : Nat) : Int)), (.int .u64 ((((nb bs 0) / 4) &&& 1 : Nat) : Int)), (.int .u64 ((((nb bs 0) / 2) &&& 1 : Nat) : Int)), (.int .u64 (((nb bs 0) &&& 1 : Nat) : Int)), (.int .u64 ((nb bs 1 : Nat) : Int)), (.int .u64 ((bN bs 2 2 : Nat) : Int)), (.int .u64 ((bN bs 4 4 : Nat) : Int)), (.int .u64 ((0 : Nat) : Int)), (.int .u64 ((0 : Nat) : Int))]) (by decide) rfl (fun _ => by kernel_rfl) fun b48 => ⟨(fun _ h => (h.wk [(0, [])] rfl)), ?_⟩)
    refine dtake (f := 2) [35] (by kernel_rfl) (St.closed _ _ _ _) (fun _ h => (h.wk [(0, [])] rfl)) (by kernel_rfl) ?_
    refine dq rfl (q_call (vs := [(.slice (cutA A c 8) (n - 8) (c - 8)), (.slice (some ⟨b48, 0, none⟩) 11 11)]) (v := (.agg #[(.slice (some ⟨b48, 0, none⟩) 11 11), (.slice none 0 0), (.slice none 0 0), (.slice (cutA A c 8) (n - 8) (c - 8))])) rfl ca_33 (fun w h => layerC w (cutA A c 8) (n - 8) (c - 8) (some ⟨b48, 0, none⟩) 11 11  (St.enter (sp := []) (Kc := []) (bi := []) h rfl rfl rfl))) ?_
    refine QL.nil ?_
    refine RG.step1 36 (by kernel_rfl) ?_
    refine dop rfl (l_alloc (by decide) zero_29 fun b6 => ⟨(fun _ h => (h.wk [(0, [])] rfl)), ?_⟩)
    refine RG.step1 37 (by kernel_rfl) ?_
    refine dop rfl (l_storeAgg (b := b6) (off := 0) (j := 2) (vs := [(.slice (some ⟨b48, 0, none⟩) 11 11), (.slice none 0 0), (.slice none 0 0), (.slice (cutA A c 8) (n - 8) (c - 8))]) rfl rfl aggs_29 (by simp [Value.one1]) rfl rfl rfl (Nat.le_of_ble_eq_true rfl) ⟨(fun _ h => (h.wk [(0, [])] rfl)), ?_⟩)
    refine dend (by kernel_rfl) ?_
    refine eseq ?_
    refine HT.seq ?_
    refine HT.seq ?_
    refine HT.plain ?_
    refine sMv rfl rfl ?_
    refine sqS (q_slice (lo := 2) (hi := 4) rfl Tryz.underlying22 nagg_5 (.inr ⟨_, _, rfl, rfl⟩) (.inr ⟨_, _, rfl, rfl⟩) (by omega) (by omega)) rfl ?_
    refine sqS (q_call (vs := [(.slice (cutA A c 2) (4 - 2) (c - 2))]) (v := (.int .u64 ((bN bs 2 2 : Nat) : Int))) rfl ca_34 (fun w h => NumberC w A n c bs (lo := 2) (hi := 4) (h.fact (j := 0) rfl) (k := 2) rfl (by decide) (by omega) (by omega))) rfl ?_
    refine sqS (q_convn (p := bN bs 2 2) rfl Tryz.underlying39 Tryz.underlying3 (show bN bs 2 2 < 9223372036854775808 by have := bN_lt bs 2 2 65536 rfl; omega)) rfl ?_
    refine sAs rfl rfl ?_
    refine send ?_
    refine eseq ?_
    refine HT.seq ?_
    refine HT.plain ?_
    refine sMv rfl rfl ?_
    refine sMv rfl rfl ?_
    refine sqS (q_len (len := n) rfl Tryz.underlying22) rfl ?_
    refine sqS (q_sub (p := n) (q := 8) rfl rfl (by omega) (show n < 9223372036854775808 by omega)) rfl ?_
    refine sqS (q_F (q_gt (p := bN bs 2 2) (q := n - 8) rfl rfl) (by have := bN_lt bs 2 2 65536 rfl; omega)) rfl ?_
    refine send ?_
    refine eseq ?_
    refine HT.no rfl ?_
    refine HT.skip ?_
    refine eseq ?_
    refine HT.seq ?_
    refine HT.seq ?_
    refine HT.plain ?_
    refine sMv rfl rfl ?_
    refine sqS (q_and (p := nb bs 0) (q := 7) rfl rfl rfl (show nb bs 0 < 256 by have := nb_lt bs 0; omega) (by decide)) rfl ?_
    refine sqS (q_F (q_eq (p := (nb bs 0) &&& 7) (q := 0) rfl rfl) (by have := nb_lt bs 0; have := zm7 (nb bs 0); have := Nat.and_le_left (n := nb bs 0) (m := 7); have := Nat.and_le_right (n := nb bs 0) (m := 7); omega)) rfl ?_
    refine send ?_
    refine eseq ?_
    refine HT.no rfl ?_
    refine HT.skip ?_
    refine eseq ?_
    refine HT.seq ?_
    refine HT.seq ?_
    refine HT.plain ?_
    refine sMv rfl rfl ?_
    refine sqS (q_len (len := n) rfl Tryz.underlying22) rfl ?_
    refine sqS (q_F (q_lt (p := n) (q := 12) rfl rfl) (by omega)) rfl ?_
    refine sMv rfl rfl ?_
    refine sgqS rfl (q_move rfl) rfl ?_
    refine sgqS rfl (q_slice (lo := 2) (hi := 4) rfl Tryz.underlying22 nagg_5 (.inr ⟨_, _, rfl, rfl⟩) (.inr ⟨_, _, rfl, rfl⟩) (by omega) (by omega)) rfl ?_
    refine sgqS rfl (q_call (vs := [(.slice (cutA A c 2) (4 - 2) (c - 2))]) (v := (.int .u64 ((bN bs 2 2 : Nat) : Int))) rfl ca_34 (fun w h => NumberC w A n c bs (lo := 2) (hi := 4) (h.fact (j := 0) rfl) (k := 2) rfl (by decide) (by omega) (by omega))) rfl ?_
    refine sgqS rfl (q_T (q_lt (p := bN bs 2 2) (q := 4) rfl rfl) (by have := bN_lt bs 2 2 65536 rfl; omega)) rfl ?_
    refine sqS (q_pick rfl (fun h => nomatch h) (fun _ => rfl)) rfl ?_
    refine send ?_
    refine eseq ?_
    refine HT.yes rfl ?_
    refine HT.seq ?_
    refine HT.plain ?_
    refine sqS (q_build (vs := []) (v := (.agg #[(.slice none 0 0), (.slice none 0 0), (.slice none 0 0), (.slice none 0 0)])) rfl (fun _ => by kernel_rfl)) rfl ?_
    refine sl_ (l_storeAgg (b := b2) (off := 0) (j := 0) (vs := [(.slice none 0 0), (.slice none 0 0), (.slice none 0 0), (.slice none 0 0)]) rfl rfl aggs_29 (by simp [Value.one1]) rfl rfl rfl (Nat.le_of_ble_eq_true rfl) ?_)
    refine sAs rfl rfl ?_
    refine sAs rfl rfl ?_
    refine send ?_
    refine eseq ?_
    refine HT.ret ?_
    refine rt_then ?_
    exact fun a ha w' hw => fin_ ha (resc3 ha Tryz.results40 rfl (ld_ aggs_29 hw (j := 0) rfl rfl (vs := [(.slice none 0 0), (.slice none 0 0), (.slice none 0 0), (.slice none 0 0)]) rfl) rfl rfl) ⟨rfl, hw.pres⟩
  · refine dop rfl (l_alloc (by decide) zero_29 fun b6 => ⟨(fun _ h => (h.wk [(0, [])] rfl)), ?_⟩)
    refine RG.step1 34 (by kernel_rfl) ?_
    refine dop rfl (l_buildSlice (e := 39) (vs := [(0, (.int .u64 (((nb bs 0) / 32 : Nat) : Int))), (1, (.int .u64 ((((nb bs 0) / 16) &&& 1 : Nat) : Int))), (2, (.int .u64 ((((nb bs 0) / 8) &&& 1 : Nat) : Int))), (3, (.int .u64 ((((nb bs 0) / 4) &&& 1 : Nat) : Int))), (4, (.int .u64 ((((nb bs 0) / 2) &&& 1 : Nat) : Int))), (5, (.int .u64 (((nb bs 0) &&& 1 : Nat) : Int))), (6, (.int .u64 ((nb bs 1 : Nat) : Int))), (7, (.int .u64 ((bN bs 2 2 : Nat) : Int))), (8, (.int .u64 ((bN bs 4 4 : Nat) : Int))), (9, (.int .u64 ((0 : Nat) : Int))), (10, (.int .u64 ((0 : Nat) : Int)))]) (cs := [(.int .u64 (((nb bs 0) / 32 : Nat) : Int)), (.int .u64 ((((nb bs 0) / 16) &&& 1 : Nat) : Int)), (.int .u64 ((((nb bs 0) / 8) &&& 1 : Nat) : Int)), (.int .u64 ((((nb bs 0) / 4) &&& 1 : Nat) : Int)), (.int .u64 ((((nb bs 0) / 2) &&& 1 : Nat) : Int)), (.int .u64 (((nb bs 0) &&& 1 : Nat) : Int)), (.int .u64 ((nb bs 1 : Nat) : Int)), (.int .u64 ((bN bs 2 2 : Nat) : Int)), (.int .u64 ((bN bs 4 4 : Nat) : Int)), (.int .u64 ((0 : Nat) : Int)), (.int .u64 ((0 : Nat) : Int))]) (by decide) rfl (fun _ => by kernel_rfl) fun b48 => ⟨(fun _ h => (h.wk [(0, [])] rfl)), ?_⟩)
    refine dtake (f := 1) [35] (by kernel_rfl) (St.closed _ _ _ _) (fun _ h => (h.wk [(0, [])] rfl)) (by kernel_rfl) ?_
    refine dq rfl (q_call (vs := [(.slice (cutA A c 8) (n - 8) (c - 8)), (.slice (some ⟨b48, 0, none⟩) 11 11)]) (v := (.agg #[(.slice (some ⟨b48, 0, none⟩) 11 11), (.slice none 0 0), (.slice none 0 0), (.slice (cutA A c 8) (n - 8) (c - 8))])) rfl ca_33 (fun w h => layerC w (cutA A c 8) (n - 8) (c - 8) (some ⟨b48, 0, none⟩) 11 11  (St.enter (sp := []) (Kc := []) (bi := []) h rfl rfl rfl))) ?_
    refine QL.nil ?_
    refine RG.step1 37 (by kernel_rfl) ?_
    refine dop rfl (l_storeAgg (b := b6) (off := 0) (j := 1) (vs := [(.slice (some ⟨b48, 0, none⟩) 11 11), (.slice none 0 0), (.slice none 0 0), (.slice (cutA A c 8) (n - 8) (c - 8))]) rfl rfl aggs_29 (by simp [Value.one1]) rfl rfl rfl (Nat.le_of_ble_eq_true rfl) ⟨(fun _ h => (h.wk [(0, [])] rfl)), ?_⟩)
    refine dend (by kernel_rfl) ?_
    refine eseq ?_
    refine HT.seq ?_
    refine HT.seq ?_
    refine HT.plain ?_
    refine sMv rfl rfl ?_
    refine sqS (q_slice (lo := 2) (hi := 4) rfl Tryz.underlying22 nagg_5 (.inr ⟨_, _, rfl, rfl⟩) (.inr ⟨_, _, rfl, rfl⟩) (by omega) (by omega)) rfl ?_
    refine sqS (q_call (vs := [(.slice (cutA A c 2) (4 - 2) (c - 2))]) (v := (.int .u64 ((bN bs 2 2 : Nat) : Int))) rfl ca_34 (fun w h => NumberC w A n c bs (lo := 2) (hi := 4) (h.fact (j := 0) rfl) (k := 2) rfl (by decide) (by omega) (by omega))) rfl ?_
    refine sqS (q_convn (p := bN bs 2 2) rfl Tryz.underlying39 Tryz.underlying3 (show bN bs 2 2 < 9223372036854775808 by have := bN_lt bs 2 2 65536 rfl; omega)) rfl ?_
    refine sAs rfl rfl ?_
    refine send ?_
    refine eseq ?_
    refine HT.seq ?_
    refine HT.plain ?_
    refine sMv rfl rfl ?_
    refine sMv rfl rfl ?_
    refine sqS (q_len (len := n) rfl Tryz.underlying22) rfl ?_
    refine sqS (q_sub (p := n) (q := 8) rfl rfl (by omega) (show n < 9223372036854775808 by omega)) rfl ?_
    refine sqS (q_F (q_gt (p := bN bs 2 2) (q := n - 8) rfl rfl) (by have := bN_lt bs 2 2 65536 rfl; omega)) rfl ?_
    refine send ?_
    refine eseq ?_
    refine HT.no rfl ?_
    refine HT.skip ?_
    refine eseq ?_
    refine HT.seq ?_
    refine HT.seq ?_
    refine HT.plain ?_
    refine sMv rfl rfl ?_
    refine sqS (q_and (p := nb bs 0) (q := 7) rfl rfl rfl (show nb bs 0 < 256 by have := nb_lt bs 0; omega) (by decide)) rfl ?_
    refine sqS (q_F (q_eq (p := (nb bs 0) &&& 7) (q := 0) rfl rfl) (by have := nb_lt bs 0; have := zm7 (nb bs 0); have := Nat.and_le_left (n := nb bs 0) (m := 7); have := Nat.and_le_right (n := nb bs 0) (m := 7); omega)) rfl ?_
    refine send ?_
    refine eseq ?_
    refine HT.no rfl ?_
    refine HT.skip ?_
    refine eseq ?_
    refine HT.seq ?_
    refine HT.seq ?_
    refine HT.plain ?_
    refine sMv rfl rfl ?_
    refine sqS (q_len (len := n) rfl Tryz.underlying22) rfl ?_
    refine sqS (q_F (q_lt (p := n) (q := 12) rfl rfl) (by omega)) rfl ?_
    refine sMv rfl rfl ?_
    refine sgqS rfl (q_move rfl) rfl ?_
    refine sgqS rfl (q_slice (lo := 2) (hi := 4) rfl Tryz.underlying22 nagg_5 (.inr ⟨_, _, rfl, rfl⟩) (.inr ⟨_, _, rfl, rfl⟩) (by omega) (by omega)) rfl ?_
    refine sgqS rfl (q_call (vs := [(.slice (cutA A c 2) (4 - 2) (c - 2))]) (v := (.int .u64 ((bN bs 2 2 : Nat) : Int))) rfl ca_34 (fun w h => NumberC w A n c bs (lo := 2) (hi := 4) (h.fact (j := 0) rfl) (k := 2) rfl (by decide) (by omega) (by omega))) rfl ?_
    refine sgqS rfl (q_T (q_lt (p := bN bs 2 2) (q := 4) rfl rfl) (by have := bN_lt bs 2 2 65536 rfl; omega)) rfl ?_
    refine sqS (q_pick rfl (fun h => nomatch h) (fun _ => rfl)) rfl ?_
    refine send ?_
    refine eseq ?_
    refine HT.yes rfl ?_
    refine HT.seq ?_
    refine HT.plain ?_
    refine sqS (q_build (vs := []) (v := (.agg #[(.slice none 0 0), (.slice none 0 0), (.slice none 0 0), (.slice none 0 0)])) rfl (fun _ => by kernel_rfl)) rfl ?_
    refine sl_ (l_storeAgg (b := b2) (off := 0) (j := 0) (vs := [(.slice none 0 0), (.slice none 0 0), (.slice none 0 0), (.slice none 0 0)]) rfl rfl aggs_29 (by simp [Value.one1]) rfl rfl rfl (Nat.le_of_ble_eq_true rfl) ?_)
    refine sAs rfl rfl ?_
    refine sAs rfl rfl ?_
    refine send ?_
    refine eseq ?_
    refine HT.ret ?_
    refine rt_then ?_
    exact fun a ha w' hw => fin_ ha (resc3 ha Tryz.results40 rfl (ld_ aggs_29 hw (j := 0) rfl rfl (vs := [(.slice none 0 0), (.slice none 0 0), (.slice none 0 0), (.slice none 0 0)]) rfl) rfl rfl) ⟨rfl, hw.pres⟩

theorem gtp_S8 (w : World) (A : Option Addr) (n : Nat) (c : Nat) (bs : List UInt8) (hn : n ≤ 2147483647) (ha : 8 ≤ n) (hb : bN bs 2 2 ≤ n - 8) (hc : nb bs 0 % 8 ≠ 0) (hd : 12 ≤ n) (he : bN bs 2 2 < 4) (hst : St w [] [] [Byt A n c bs] w) : Calls Tryz.prog 26 #[(.string ⟨#[103, 116, 112]⟩), (.slice A n c)] w (SP w (Byt A n c bs) none) := by
  have hnc00 : n ≤ c := (hst.fact (j := 0) rfl).2.1
  refine enter (vs := [(.string ⟨#[103, 116, 112]⟩), (.slice A n c)]) Tryz.func26 rfl rfl rfl hst ?_
  refine HT.seq ?_
  refine HT.plain ?_
  refine sl_ (l_alloc (by decide) zero_29 fun b4 => ?_)
  refine sAs rfl rfl ?_
  refine sAs rfl rfl ?_
  refine send ?_
  refine eseq ?_
  refine HT.seq ?_
  refine HT.plain ?_
  refine sl_ (l_makeMap (by decide) fun b13 => ?_)
  refine sl_ (l_insert (es := es0) (ck := 0) rfl rfl rfl Tryz.underlying36 Tryz.underlying9 fi0 ?_)
  refine sl_ (l_insert (es := es1) (ck := 1) rfl rfl rfl Tryz.underlying36 Tryz.underlying9 fi1 ?_)
  refine sl_ (l_insert (es := es2) (ck := 2) rfl rfl rfl Tryz.underlying36 Tryz.underlying9 fi2 ?_)
  refine sl_ (l_insert (es := es3) (ck := 3) rfl rfl rfl Tryz.underlying36 Tryz.underlying9 fi3 ?_)
  refine sl_ (l_insert (es := es4) (ck := 4) rfl rfl rfl Tryz.underlying36 Tryz.underlying9 fi4 ?_)
  refine sl_ (l_insert (es := es5) (ck := 5) rfl rfl rfl Tryz.underlying36 Tryz.underlying9 fi5 ?_)
  refine sl_ (l_insert (es := es6) (ck := 6) rfl rfl rfl Tryz.underlying36 Tryz.underlying9 fi6 ?_)
  refine sl_ (l_insert (es := es7) (ck := 7) rfl rfl rfl Tryz.underlying36 Tryz.underlying9 fi7 ?_)
  refine sl_ (l_insert (es := es8) (ck := 8) rfl rfl rfl Tryz.underlying36 Tryz.underlying9 fi8 ?_)
  refine sl_ (l_insert (es := es9) (ck := 9) rfl rfl rfl Tryz.underlying36 Tryz.underlying9 fi9 ?_)
  refine sl_ (l_insert (es := es10) (ck := 10) rfl rfl rfl Tryz.underlying36 Tryz.underlying9 fi10 ?_)
  refine sl_ (l_insert (es := es11) (ck := 11) rfl rfl rfl Tryz.underlying36 Tryz.underlying9 fi11 ?_)
  refine sl_ (l_insert (es := es12) (ck := 12) rfl rfl rfl Tryz.underlying36 Tryz.underlying9 fi12 ?_)
  refine sl_ (l_insert (es := es13) (ck := 13) rfl rfl rfl Tryz.underlying36 Tryz.underlying9 fi13 ?_)
  refine sl_ (l_insert (es := es14) (ck := 14) rfl rfl rfl Tryz.underlying36 Tryz.underlying9 fi14 ?_)
  refine sl_ (l_insert (es := es15) (ck := 15) rfl rfl rfl Tryz.underlying36 Tryz.underlying9 fi15 ?_)
  refine sl_ (l_insert (es := es16) (ck := 16) rfl rfl rfl Tryz.underlying36 Tryz.underlying9 fi16 ?_)
  refine sl_ (l_insert (es := es17) (ck := 17) rfl rfl rfl Tryz.underlying36 Tryz.underlying9 fi17 ?_)
  refine sl_ (l_insert (es := es18) (ck := 18) rfl rfl rfl Tryz.underlying36 Tryz.underlying9 fi18 ?_)
  refine sl_ (l_insert (es := es19) (ck := 19) rfl rfl rfl Tryz.underlying36 Tryz.underlying9 fi19 ?_)
  refine sl_ (l_insert (es := es20) (ck := 20) rfl rfl rfl Tryz.underlying36 Tryz.underlying9 fi20 ?_)
  refine sq (SM.closed) (q_move rfl) rfl ?_
  refine sq (SM.closed) (q_move rfl) rfl ?_
  refine sq (SM.closed) (q_lookup (es := es21) (i := 11) (v := (.int .i64 ((8 : Nat) : Int))) (fun _ h => h) rfl rfl Tryz.underlying36 Tryz.underlying9 (by kernel_rfl)) rfl ?_
  refine sq (SM.closed) (q_assign rfl) rfl ?_
  refine send ?_
  refine eseq ?_
  refine HT.unmap ?_
  refine HT.seq ?_
  refine HT.seq ?_
  refine HT.plain ?_
  refine sMv rfl rfl ?_
  refine sqS (q_len (len := n) rfl Tryz.underlying22) rfl ?_
  refine sMv rfl rfl ?_
  refine sqS (q_F (q_lt (p := n) (q := 8) rfl rfl) (by omega)) rfl ?_
  refine send ?_
  refine eseq ?_
  refine HT.no rfl ?_
  refine HT.skip ?_
  refine eseq ?_
  refine HT.seq ?_
  refine HT.seq ?_
  refine HT.plain ?_
  refine sMv rfl rfl ?_
  refine send ?_
  refine eseq ?_
  refine HT.block ?_
  refine HT.seq ?_
  refine HT.plain ?_
  refine sqS (q_eqs rfl rfl (r := false) (by kernel_rfl)) rfl ?_
  refine sAs rfl rfl ?_
  refine send ?_
  refine eseq ?_
  refine HT.no rfl ?_
  refine HT.seq ?_
  refine HT.plain ?_
  refine sqS (q_eqs rfl rfl (r := false) (by kernel_rfl)) rfl ?_
  refine sAs rfl rfl ?_
  refine send ?_
  refine eseq ?_
  refine HT.no rfl ?_
  refine HT.seq ?_
  refine HT.plain ?_
  refine sqS (q_eqs rfl rfl (r := false) (by kernel_rfl)) rfl ?_
  refine sAs rfl rfl ?_
  refine send ?_
  refine eseq ?_
  refine HT.no rfl ?_
  refine HT.seq ?_
  refine HT.plain ?_
  refine sqS (q_eqs rfl rfl (r := false) (by kernel_rfl)) rfl ?_
  refine sAs rfl rfl ?_
  refine send ?_
  refine eseq ?_
  refine HT.no rfl ?_
  refine HT.seq ?_
  refine HT.plain ?_
  refine sqS (q_eqs rfl rfl (r := false) (by kernel_rfl)) rfl ?_
  refine sAs rfl rfl ?_
  refine send ?_
  refine eseq ?_
  refine HT.no rfl ?_
  refine HT.seq ?_
  refine HT.plain ?_
  refine sqS (q_eqs rfl rfl (r := false) (by kernel_rfl)) rfl ?_
  refine sAs rfl rfl ?_
  refine send ?_
  refine eseq ?_
  refine HT.no rfl ?_
  refine HT.seq ?_
  refine HT.plain ?_
  refine sqS (q_eqs rfl rfl (r := false) (by kernel_rfl)) rfl ?_
  refine sAs rfl rfl ?_
  refine send ?_
  refine eseq ?_
  refine HT.no rfl ?_
  refine HT.seq ?_
  refine HT.plain ?_
  refine sqS (q_eqs rfl rfl (r := false) (by kernel_rfl)) rfl ?_
  refine sAs rfl rfl ?_
  refine send ?_
  refine eseq ?_
  refine HT.no rfl ?_
  refine HT.seq ?_
  refine HT.plain ?_
  refine sqS (q_eqs rfl rfl (r := false) (by kernel_rfl)) rfl ?_
  refine sAs rfl rfl ?_
  refine send ?_
  refine eseq ?_
  refine HT.no rfl ?_
  refine HT.seq ?_
  refine HT.plain ?_
  refine sqS (q_eqs rfl rfl (r := false) (by kernel_rfl)) rfl ?_
  refine sAs rfl rfl ?_
  refine send ?_
  refine eseq ?_
  refine HT.no rfl ?_
  refine HT.seq ?_
  refine HT.plain ?_
  refine sqS (q_eqs rfl rfl (r := false) (by kernel_rfl)) rfl ?_
  refine sAs rfl rfl ?_
  refine send ?_
  refine eseq ?_
  refine HT.no rfl ?_
  refine HT.seq ?_
  refine HT.plain ?_
  refine sqS (q_eqs rfl rfl (r := true) (by kernel_rfl)) rfl ?_
  refine sAs rfl rfl ?_
  refine send ?_
  refine eseq ?_
  refine HT.yes rfl ?_
  refine HT.seq ?_
  refine HT.plain ?_
  refine sMv rfl rfl ?_
  refine sqS (q_call (vs := [(.slice A n c)]) (v := (.tuple #[(.agg #[(.slice none 0 0), (.slice none 0 0), (.slice none 0 0), (.slice none 0 0)]), (.bool false), (.bool false)])) rfl ca_40 (fun w h => gtp_s8 w A n c bs (by omega) (by omega) (by omega) (by omega) (by omega) (by omega) (St.enter (sp := []) (Kc := []) (bi := [0]) h rfl rfl rfl))) rfl ?_
  refine sqS (q_extract (vs := [(.agg #[(.slice none 0 0), (.slice none 0 0), (.slice none 0 0), (.slice none 0 0)]), (.bool false), (.bool false)]) (i := 0) rfl rfl) rfl ?_
  refine sqS (q_extract (vs := [(.agg #[(.slice none 0 0), (.slice none 0 0), (.slice none 0 0), (.slice none 0 0)]), (.bool false), (.bool false)]) (i := 1) rfl rfl) rfl ?_
  refine sqS (q_extract (vs := [(.agg #[(.slice none 0 0), (.slice none 0 0), (.slice none 0 0), (.slice none 0 0)]), (.bool false), (.bool false)]) (i := 2) rfl rfl) rfl ?_
  refine sl_ (l_storeAgg (b := b4) (off := 0) (j := 0) (vs := [(.slice none 0 0), (.slice none 0 0), (.slice none 0 0), (.slice none 0 0)]) rfl rfl aggs_29 (by simp [Value.one1]) rfl rfl rfl (Nat.le_of_ble_eq_true rfl) ?_)
  refine sAs rfl rfl ?_
  refine sAs rfl rfl ?_
  refine send ?_
  refine eseq ?_
  refine HT.ret ?_
  refine rt_in ?_
  refine rt_then ?_
  exact fun a ha w' hw => fin_ ha (resc3 ha Tryz.results26 rfl (ld_ aggs_29 hw (j := 0) rfl rfl (vs := [(.slice none 0 0), (.slice none 0 0), (.slice none 0 0), (.slice none 0 0)]) rfl) rfl rfl) ⟨⟨none, 0, 0, []⟩, ⟨none, 0, 0, []⟩, ⟨none, 0, 0, []⟩, ⟨none, 0, 0, []⟩, false, rfl, hw.pres⟩

theorem gtp_s9 (w : World) (A : Option Addr) (n : Nat) (c : Nat) (bs : List UInt8) (hn : n ≤ 2147483647) (ha : 8 ≤ n) (hb : bN bs 2 2 ≤ n - 8) (hc : nb bs 0 % 8 ≠ 0) (hd : 12 ≤ n) (he : 4 ≤ bN bs 2 2) (hf : nb bs 0 / 2 % 2 = 0) (hst : St w [] [] [Byt A n c bs] w) : Calls Tryz.prog 40 #[(.slice A n c)] w (CP1 w [] [Byt A n c bs] (fun b48 => (.tuple #[(.agg #[(.slice (some ⟨b48, 0, none⟩) 11 11), (.slice none 0 0), (.slice none 0 0), (.slice (cutA A c 8) (n - 8) (c - 8))]), (.bool true), (.bool false)])) (fun b48 => [⟨b48, 39, [some (.int .u64 (((nb bs 0) / 32 : Nat) : Int)), some (.int .u64 ((((nb bs 0) / 16) &&& 1 : Nat) : Int)), some (.int .u64 ((((nb bs 0) / 8) &&& 1 : Nat) : Int)), some (.int .u64 ((((nb bs 0) / 4) &&& 1 : Nat) : Int)), some (.int .u64 ((((nb bs 0) / 2) &&& 1 : Nat) : Int)), some (.int .u64 (((nb bs 0) &&& 1 : Nat) : Int)), some (.int .u64 ((nb bs 1 : Nat) : Int)), some (.int .u64 ((bN bs 2 2 : Nat) : Int)), some (.int .u64 ((bN bs 4 4 : Nat) : Int)), some (.int .u64 ((bN bs 8 2 : Nat) : Int)), some (.int .u64 ((nb bs 10 : Nat) : Int))], true⟩]) (fun b48 => [])) := by
  have hnc00 : n ≤ c := (hst.fact (j := 0) rfl).2.1
  refine enter (vs := [(.slice A n c)]) Tryz.func40 rfl rfl rfl hst ?_
  refine HT.seq ?_
  refine HT.plain ?_
  refine sl_ (l_alloc (by decide) zero_29 fun b2 => ?_)
  refine sAs rfl rfl ?_
  refine sAs rfl rfl ?_
  refine send ?_
  refine eseq ?_
  refine HT.seq ?_
  refine HT.plain ?_
  refine sMv rfl rfl ?_
  refine sqS (q_index (i := 0) (j := 0) rfl rfl Tryz.underlying22 nagg_5 (fun _ h => h) rfl (by omega)) rfl ?_
  refine sqS (q_byte (i := 0) (j := 0) rfl nagg_5 (fun _ h => h) rfl (by omega)) rfl ?_
  refine sAs rfl rfl ?_
  refine send ?_
  refine eseq ?_
  refine HT.seq ?_
  refine HT.drawnS mixed (St.closed _ _ _ _) ?_
  refine dtake (f := 4) [0, 1, 2, 3, 4, 5, 6, 7, 8, 9, 10, 11, 12, 13, 14, 15, 16, 17, 18, 19, 20, 21, 22, 23, 24, 25, 26, 27, 28, 29, 30, 31, 32, 33] (by kernel_rfl) (St.closed _ _ _ _) (fun _ h => h) (by kernel_rfl) ?_
  refine dq rfl (q_move rfl) ?_
  refine dq rfl (q_slice (lo := 8) (hi := n) rfl Tryz.underlying22 nagg_5 (.inr ⟨_, _, rfl, rfl⟩) (.inl ⟨rfl, rfl⟩) (by omega) (by omega)) ?_
  refine dq rfl (q_move rfl) ?_
  refine dq rfl (q_shr (p := nb bs 0) (e := 5) (N := 32) rfl rfl (by decide) rfl) ?_
  refine dq rfl (q_convn (p := (nb bs 0) / 32) rfl Tryz.underlying5 Tryz.underlying39 (show (nb bs 0) / 32 < 18446744073709551616 by have := nb_lt bs 0; omega)) ?_
  refine dq rfl (q_move rfl) ?_
  refine dq rfl (q_shr (p := nb bs 0) (e := 4) (N := 16) rfl rfl (by decide) rfl) ?_
  refine dq rfl (q_and (p := (nb bs 0) / 16) (q := 1) rfl rfl rfl (show (nb bs 0) / 16 < 256 by have := nb_lt bs 0; omega) (by decide)) ?_
  refine dq rfl (q_convn (p := ((nb bs 0) / 16) &&& 1) rfl Tryz.underlying5 Tryz.underlying39 (show ((nb bs 0) / 16) &&& 1 < 18446744073709551616 by have := nb_lt bs 0; have := zm1 ((nb bs 0) / 16); have := Nat.and_le_left (n := (nb bs 0) / 16) (m := 1); have := Nat.and_le_right (n := (nb bs 0) / 16) (m := 1); omega)) ?_
  refine dq rfl (q_move rfl) ?_
  refine dq rfl (q_shr (p := nb bs 0) (e := 3) (N := 8) rfl rfl (by decide) rfl) ?_
  refine dq rfl (q_and (p := (nb bs 0) / 8) (q := 1) rfl rfl rfl (show (nb bs 0) / 8 < 256 by have := nb_lt bs 0; omega) (by decide)) ?_
  refine dq rfl (q_convn (p := ((nb bs 0) / 8) &&& 1) rfl Tryz.underlying5 Tryz.underlying39 (show ((nb bs 0) / 8) &&& 1 < 18446744073709551616 by have := nb_lt bs 0; have := zm1 ((nb bs 0) / 8); have := Nat.and_le_left (n := (nb bs 0) / 8) (m := 1); have := Nat.and_le_right (n := (nb bs 0) / 8) (m := 1); omega)) ?_
  refine dq rfl (q_move rfl) ?_
  refine dq rfl (q_shr (p := nb bs 0) (e := 2) (N := 4) rfl rfl (by decide) rfl) ?_
  refine dq rfl (q_and (p := (nb bs 0) / 4) (q := 1) rfl rfl rfl (show (nb bs 0) / 4 < 256 by have := nb_lt bs 0; omega) (by decide)) ?_
  refine dq rfl (q_convn (p := ((nb bs 0) / 4) &&& 1) rfl Tryz.underlying5 Tryz.underlying39 (show ((nb bs 0) / 4) &&& 1 < 18446744073709551616 by have := nb_lt bs 0; have := zm1 ((nb bs 0) / 4); have := Nat.and_le_left (n := (nb bs 0) / 4) (m := 1); have := Nat.and_le_right (n := (nb bs 0) / 4) (m := 1); omega)) ?_
  refine dq rfl (q_move rfl) ?_
  refine dq rfl (q_shr (p := nb bs 0) (e := 1) (N := 2) rfl rfl (by decide) rfl) ?_
  refine dq rfl (q_and (p := (nb bs 0) / 2) (q := 1) rfl rfl rfl (show (nb bs 0) / 2 < 256 by have := nb_lt bs 0; omega) (by decide)) ?_
  refine dq rfl (q_convn (p := ((nb bs 0) / 2) &&& 1) rfl Tryz.underlying5 Tryz.underlying39 (show ((nb bs 0) / 2) &&& 1 < 18446744073709551616 by have := nb_lt bs 0; have := zm1 ((nb bs 0) / 2); have := Nat.and_le_left (n := (nb bs 0) / 2) (m := 1); have := Nat.and_le_right (n := (nb bs 0) / 2) (m := 1); omega)) ?_
  refine dq rfl (q_move rfl) ?_
  refine dq rfl (q_and (p := nb bs 0) (q := 1) rfl rfl rfl (show nb bs 0 < 256 by have := nb_lt bs 0; omega) (by decide)) ?_
  refine dq rfl (q_convn (p := (nb bs 0) &&& 1) rfl Tryz.underlying5 Tryz.underlying39 (show (nb bs 0) &&& 1 < 18446744073709551616 by have := nb_lt bs 0; have := zm1 (nb bs 0); have := Nat.and_le_left (n := nb bs 0) (m := 1); have := Nat.and_le_right (n := nb bs 0) (m := 1); omega)) ?_
  refine dq rfl (q_move rfl) ?_
  refine dq rfl (q_index (i := 1) (j := 0) rfl rfl Tryz.underlying22 nagg_5 (fun _ h => h) rfl (by omega)) ?_
  refine dq rfl (q_byte (i := 1) (j := 0) rfl nagg_5 (fun _ h => h) rfl (by omega)) ?_
  refine dq rfl (q_convn (p := nb bs 1) rfl Tryz.underlying5 Tryz.underlying39 (show nb bs 1 < 18446744073709551616 by have := nb_lt bs 1; omega)) ?_
  refine dq rfl (q_move rfl) ?_
  refine dq rfl (q_slice (lo := 2) (hi := 4) rfl Tryz.underlying22 nagg_5 (.inr ⟨_, _, rfl, rfl⟩) (.inr ⟨_, _, rfl, rfl⟩) (by omega) (by omega)) ?_
  refine dq rfl (q_call (vs := [(.slice (cutA A c 2) (4 - 2) (c - 2))]) (v := (.int .u64 ((bN bs 2 2 : Nat) : Int))) rfl ca_34 (fun w h => NumberC w A n c bs (lo := 2) (hi := 4) (h.fact (j := 0) rfl) (k := 2) rfl (by decide) (by omega) (by omega))) ?_
  refine dq rfl (q_move rfl) ?_
  refine dq rfl (q_slice (lo := 4) (hi := 8) rfl Tryz.underlying22 nagg_5 (.inr ⟨_, _, rfl, rfl⟩) (.inr ⟨_, _, rfl, rfl⟩) (by omega) (by omega)) ?_
  refine dq rfl (q_call (vs := [(.slice (cutA A c 4) (8 - 4) (c - 4))]) (v := (.int .u64 ((bN bs 4 4 : Nat) : Int))) rfl ca_34 (fun w h => NumberC w A n c bs (lo := 4) (hi := 8) (h.fact (j := 0) rfl) (k := 4) rfl (by decide) (by omega) (by omega))) ?_
  refine QL.nil ?_
  refine RG.step2 34 36 (by kernel_rfl) ?_ ?_
  · refine dop rfl (l_buildSlice (e := 39) (vs := [(0, (.int .u64 (((nb bs 0) / 32 : Nat) : Int))), (1, (.int .u64 ((((nb bs 0) / 16) &&& 1 : Nat) : Int))), (2, (.int .u64 ((((nb bs 0) / 8) &&& 1 : Nat) : Int))), (3, (.int .u64 ((((nb bs 0) / 4) &&& 1 : Nat) : Int))), (4, (.int .u64 ((((nb bs 0) / 2) &&& 1 : Nat) : Int))), (5, (.int .u64 (((nb bs 0) &&& 1 : Nat) : Int))), (6, (.int .u64 ((nb bs 1 : Nat) : Int))), (7, (.int .u64 ((bN bs 2 2 : Nat) : Int))), (8, (.int .u64 ((bN bs 4 4 : Nat) : Int))), (9, (.int .u64 ((0 : Nat) : Int))), (10, (.int .u64 ((0 : Nat) : Int)))]) (cs := [(.int .u64 (((nb bs 0) / 32 : Nat) : Int)), (.int .u64 ((((nb bs 0) / 16) &&& 1 : Nat) : Int)), (.int .u64 ((((nb bs 0) / 8) &&& 1 : Nat) : Int)), (.int .u64 ((((nb bs 0) / 4) &&& 1 : Nat) : Int)), (.int .u64 ((((nb bs 0) / 2) &&& 1 : Nat) : Int)), (.int .u64 (((nb bs 0) &&& 1 : Nat) : Int)), (.int .u64 ((nb bs 1 : Nat) : Int)), (.int .u64 ((bN bs 2 2 : Nat) : Int)), (.int .u64 ((bN bs 4 4 : Nat) : Int)), (.int .u64 ((0 : Nat) : Int)), (.int .u64 ((0 : Nat) : Int))]) (by decide) rfl (fun _ => by kernel_rfl) fun b48 => ⟨(fun _ h => (h.wk [(0, [])] rfl)), ?_⟩)
    refine dtake (f := 2) [35] (by kernel_rfl) (St.closed _ _ _ _) (fun _ h => (h.wk [(0, [])] rfl)) (by kernel_rfl) ?_
    refine dq rfl (q_call (vs := [(.slice (cutA A c 8) (n - 8) (c - 8)), (.slice (some ⟨b48, 0, none⟩) 11 11)]) (v := (.agg #[(.slice (some ⟨b48, 0, none⟩) 11 11), (.slice none 0 0), (.slice none 0 0), (.slice (cutA A c 8) (n - 8) (c - 8))])) rfl ca_33 (fun w h => layerC w (cutA A c 8) (n - 8) (c - 8) (some ⟨b48, 0, none⟩) 11 11  (St.enter (sp := []) (Kc := []) (bi := []) h rfl rfl rfl))) ?_
    refine QL.nil ?_
    refine RG.step1 36 (by kernel_rfl) ?_
    refine dop rfl (l_alloc (by decide) zero_29 fun b6 => ⟨(fun _ h => (h.wk [(0, [])] rfl)), ?_⟩)
    refine RG.step1 37 (by kernel_rfl) ?_
    refine dop rfl (l_storeAgg (b := b6) (off := 0) (j := 2) (vs := [(.slice (some ⟨b48, 0, none⟩) 11 11), (.slice none 0 0), (.slice none 0 0), (.slice (cutA A c 8) (n - 8) (c - 8))]) rfl rfl aggs_29 (by simp [Value.one1]) rfl rfl rfl (Nat.le_of_ble_eq_true rfl) ⟨(fun _ h => (h.wk [(0, [])] rfl)), ?_⟩)
    refine dend (by kernel_rfl) ?_
    refine eseq ?_
    refine HT.seq ?_
    refine HT.seq ?_
    refine HT.plain ?_
    refine sMv rfl rfl ?_
    refine sqS (q_slice (lo := 2) (hi := 4) rfl Tryz.underlying22 nagg_5 (.inr ⟨_, _, rfl, rfl⟩) (.inr ⟨_, _, rfl, rfl⟩) (by omega) (by omega)) rfl ?_
    refine sqS (q_call (vs := [(.slice (cutA A c 2) (4 - 2) (c - 2))]) (v := (.int .u64 ((bN bs 2 2 : Nat) : Int))) rfl ca_34 (fun w h => NumberC w A n c bs (lo := 2) (hi := 4) (h.fact (j := 0) rfl) (k := 2) rfl (by decide) (by omega) (by omega))) rfl ?_
    refine sqS (q_convn (p := bN bs 2 2) rfl Tryz.underlying39 Tryz.underlying3 (show bN bs 2 2 < 9223372036854775808 by have := bN_lt bs 2 2 65536 rfl; omega)) rfl ?_
    refine sAs rfl rfl ?_
    refine send ?_
    refine eseq ?_
    refine HT.seq ?_
    refine HT.plain ?_
    refine sMv rfl rfl ?_
    refine sMv rfl rfl ?_
    refine sqS (q_len (len := n) rfl Tryz.underlying22) rfl ?_
    refine sqS (q_sub (p := n) (q := 8) rfl rfl (by omega) (show n < 9223372036854775808 by omega)) rfl ?_
    refine sqS (q_F (q_gt (p := bN bs 2 2) (q := n - 8) rfl rfl) (by have := bN_lt bs 2 2 65536 rfl; omega)) rfl ?_
    refine send ?_
    refine eseq ?_
    refine HT.no rfl ?_
    refine HT.skip ?_
    refine eseq ?_
    refine HT.seq ?_
    refine HT.seq ?_
    refine HT.plain ?_
    refine sMv rfl rfl ?_
    refine sqS (q_and (p := nb bs 0) (q := 7) rfl rfl rfl (show nb bs 0 < 256 by have := nb_lt bs 0; omega) (by decide)) rfl ?_
    refine sqS (q_F (q_eq (p := (nb bs 0) &&& 7) (q := 0) rfl rfl) (by have := nb_lt bs 0; have := zm7 (nb bs 0); have := Nat.and_le_left (n := nb bs 0) (m := 7); have := Nat.and_le_right (n := nb bs 0) (m := 7); omega)) rfl ?_
    refine send ?_
    refine eseq ?_
    refine HT.no rfl ?_
    refine HT.skip ?_
    refine eseq ?_
    refine HT.seq ?_
    refine HT.seq ?_
    refine HT.plain ?_
    refine sMv rfl rfl ?_
    refine sqS (q_len (len := n) rfl Tryz.underlying22) rfl ?_
    refine sqS (q_F (q_lt (p := n) (q := 12) rfl rfl) (by omega)) rfl ?_
    refine sMv rfl rfl ?_
    refine sgqS rfl (q_move rfl) rfl ?_
    refine sgqS rfl (q_slice (lo := 2) (hi := 4) rfl Tryz.underlying22 nagg_5 (.inr ⟨_, _, rfl, rfl⟩) (.inr ⟨_, _, rfl, rfl⟩) (by omega) (by omega)) rfl ?_
    refine sgqS rfl (q_call (vs := [(.slice (cutA A c 2) (4 - 2) (c - 2))]) (v := (.int .u64 ((bN bs 2 2 : Nat) : Int))) rfl ca_34 (fun w h => NumberC w A n c bs (lo := 2) (hi := 4) (h.fact (j := 0) rfl) (k := 2) rfl (by decide) (by omega) (by omega))) rfl ?_
    refine sgqS rfl (q_F (q_lt (p := bN bs 2 2) (q := 4) rfl rfl) (by have := bN_lt bs 2 2 65536 rfl; omega)) rfl ?_
    refine sqS (q_pick rfl (fun h => nomatch h) (fun _ => rfl)) rfl ?_
    refine send ?_
    refine eseq ?_
    refine HT.no rfl ?_
    refine HT.skip ?_
    refine eseq ?_
    refine HT.seq ?_
    refine HT.drawn mixed (St.closed _ _ _ _) (St w [] [⟨b2, 29, [some (.slice none 0 0), some (.slice none 0 0), some (.slice none 0 0), some (.slice none 0 0)], true⟩, ⟨b48, 39, [some (.int .u64 (((nb bs 0) / 32 : Nat) : Int)), some (.int .u64 ((((nb bs 0) / 16) &&& 1 : Nat) : Int)), some (.int .u64 ((((nb bs 0) / 8) &&& 1 : Nat) : Int)), some (.int .u64 ((((nb bs 0) / 4) &&& 1 : Nat) : Int)), some (.int .u64 ((((nb bs 0) / 2) &&& 1 : Nat) : Int)), some (.int .u64 (((nb bs 0) &&& 1 : Nat) : Int)), some (.int .u64 ((nb bs 1 : Nat) : Int)), some (.int .u64 ((bN bs 2 2 : Nat) : Int)), some (.int .u64 ((bN bs 4 4 : Nat) : Int)), none, none], true⟩, ⟨b6, 29, [some (.slice (some ⟨b48, 0, none⟩) 11 11), some (.slice none 0 0), some (.slice none 0 0), some (.slice (cutA A c 8) (n - 8) (c - 8))], true⟩] [Byt A n c bs]) ?_
    refine dtake (f := 3) [0, 1, 2, 3, 4, 5, 6, 7, 8, 9, 10, 11] (by kernel_rfl) (St.closed _ _ _ _) (fun _ h => (h.wk [(0, []), (1, [9, 10]), (2, [])] rfl)) (by kernel_rfl) ?_
    refine dq rfl (q_field (b := b6) (off := 0) rfl fo_29_0) ?_
    refine dq rfl (q_load (b := b6) (off := 0) (j := 2) rfl nagg_25 (fun _ h => h) rfl rfl rfl) ?_
    refine dq rfl (q_field (b := b6) (off := 0) rfl fo_29_0) ?_
    refine dq rfl (q_load (b := b6) (off := 0) (j := 2) rfl nagg_25 (fun _ h => h) rfl rfl rfl) ?_
    refine dq rfl (q_move rfl) ?_
    refine dq rfl (q_slice (lo := 8) (hi := 10) rfl Tryz.underlying22 nagg_5 (.inr ⟨_, _, rfl, rfl⟩) (.inr ⟨_, _, rfl, rfl⟩) (by omega) (by omega)) ?_
    refine dq rfl (q_call (vs := [(.slice (cutA A c 8) (10 - 8) (c - 8))]) (v := (.int .u64 ((bN bs 8 2 : Nat) : Int))) rfl ca_34 (fun w h => NumberC w A n c bs (lo := 8) (hi := 10) (h.fact (j := 0) rfl) (k := 2) rfl (by decide) (by omega) (by omega))) ?_
    refine dq rfl (q_move rfl) ?_
    refine dq rfl (q_index (i := 10) (j := 0) rfl rfl Tryz.underlying22 nagg_5 (fun _ h => h) rfl (by omega)) ?_
    refine dq rfl (q_byte (i := 10) (j := 0) rfl nagg_5 (fun _ h => h) rfl (by omega)) ?_
    refine dq rfl (q_convn (p := nb bs 10) rfl Tryz.underlying5 Tryz.underlying39 (show nb bs 10 < 18446744073709551616 by have := nb_lt bs 10; omega)) ?_
    refine dq rfl (q_indexK (b := b48) (i := 9) (sz := 1) rfl rfl Tryz.underlying25 size_39 (by decide)) ?_
    refine QL.nil ?_
    refine RG.step1 12 (by kernel_rfl) ?_
    refine dop rfl (l_store (b := b48) (off := 9) (j := 1) rfl rfl nagg_39 rfl rfl rfl rfl (dlt rfl) ⟨(fun _ h => (h.wk [(0, []), (1, [9, 10]), (2, [])] rfl)), ?_⟩)
    refine dtake (f := 1) [13] (by kernel_rfl) (St.closed _ _ _ _) (fun _ h => (h.wk [(0, []), (1, [9, 10]), (2, [])] rfl)) (by kernel_rfl) ?_
    refine dq rfl (q_indexK (b := b48) (i := 10) (sz := 1) rfl rfl Tryz.underlying25 size_39 (by decide)) ?_
    refine QL.nil ?_
    refine RG.step1 14 (by kernel_rfl) ?_
    refine dop rfl (l_store (b := b48) (off := 10) (j := 1) rfl rfl nagg_39 rfl rfl rfl rfl (dlt rfl) ⟨(fun _ h => (h.wk [(0, []), (1, [9, 10]), (2, [])] rfl)), ?_⟩)
    refine dend (by kernel_rfl) ?_
    refine eseq ?_
    refine HT.seq ?_
    refine HT.seq ?_
    refine HT.plain ?_
    refine sMv rfl rfl ?_
    refine sqS (q_and (p := nb bs 0) (q := 2) rfl rfl rfl (show nb bs 0 < 256 by have := nb_lt bs 0; omega) (by decide)) rfl ?_
    refine sqS (q_T (q_eq (p := (nb bs 0) &&& 2) (q := 0) rfl rfl) (by have := nb_lt bs 0; have := zb2 (nb bs 0); have := Nat.and_le_left (n := nb bs 0) (m := 2); have := Nat.and_le_right (n := nb bs 0) (m := 2); omega)) rfl ?_
    refine sMv rfl rfl ?_
    refine sskip rfl rfl ?_
    refine sskip rfl rfl ?_
    refine sskip rfl rfl ?_
    refine sqS (q_pick rfl (fun _ => rfl) (fun h => nomatch h)) rfl ?_
    refine send ?_
    refine eseq ?_
    refine HT.yes rfl ?_
    refine HT.seq ?_
    refine HT.plain ?_
    refine sqS (q_loadAgg (b := b6) (off := 0) (j := 2) (vs := [(.slice (some ⟨b48, 0, none⟩) 11 11), (.slice none 0 0), (.slice none 0 0), (.slice (cutA A c 8) (n - 8) (c - 8))]) rfl aggs_29 (fun _ h => h) rfl rfl rfl) rfl ?_
    refine sl_ (l_storeAgg (b := b2) (off := 0) (j := 0) (vs := [(.slice (some ⟨b48, 0, none⟩) 11 11), (.slice none 0 0), (.slice none 0 0), (.slice (cutA A c 8) (n - 8) (c - 8))]) rfl rfl aggs_29 (by simp [Value.one1]) rfl rfl rfl (Nat.le_of_ble_eq_true rfl) ?_)
    refine sAs rfl rfl ?_
    refine sAs rfl rfl ?_
    refine send ?_
    refine eseq ?_
    refine HT.ret ?_
    refine rt_then ?_
    exact fun a ha w' hw => fin_ ha (resc3 ha Tryz.results40 rfl (ld_ aggs_29 hw (j := 0) rfl rfl (vs := [(.slice (some ⟨b48, 0, none⟩) 11 11), (.slice none 0 0), (.slice none 0 0), (.slice (cutA A c 8) (n - 8) (c - 8))]) rfl) rfl rfl) ⟨b48, rfl, (hw.wk [(1, [])] rfl), fr0⟩
  · refine dop rfl (l_alloc (by decide) zero_29 fun b6 => ⟨(fun _ h => (h.wk [(0, [])] rfl)), ?_⟩)
    refine RG.step1 34 (by kernel_rfl) ?_
    refine dop rfl (l_buildSlice (e := 39) (vs := [(0, (.int .u64 (((nb bs 0) / 32 : Nat) : Int))), (1, (.int .u64 ((((nb bs 0) / 16) &&& 1 : Nat) : Int))), (2, (.int .u64 ((((nb bs 0) / 8) &&& 1 : Nat) : Int))), (3, (.int .u64 ((((nb bs 0) / 4) &&& 1 : Nat) : Int))), (4, (.int .u64 ((((nb bs 0) / 2) &&& 1 : Nat) : Int))), (5, (.int .u64 (((nb bs 0) &&& 1 : Nat) : Int))), (6, (.int .u64 ((nb bs 1 : Nat) : Int))), (7, (.int .u64 ((bN bs 2 2 : Nat) : Int))), (8, (.int .u64 ((bN bs 4 4 : Nat) : Int))), (9, (.int .u64 ((0 : Nat) : Int))), (10, (.int .u64 ((0 : Nat) : Int)))]) (cs := [(.int .u64 (((nb bs 0) / 32 : Nat) : Int)), (.int .u64 ((((nb bs 0) / 16) &&& 1 : Nat) : Int)), (.int .u64 ((((nb bs 0) / 8) &&& 1 : Nat) : Int)), (.int .u64 ((((nb bs 0) / 4) &&& 1 : Nat) : Int)), (.int .u64 ((((nb bs 0) / 2) &&& 1 : Nat) : Int)), (.int .u64 (((nb bs 0) &&& 1 : Nat) : Int)), (.int .u64 ((nb bs 1 : Nat) : Int)), (.int .u64 ((bN bs 2 2 : Nat) : Int)), (.int .u64 ((bN bs 4 4 : Nat) : Int)), (.int .u64 ((0 : Nat) : Int)), (.int .u64 ((0 : Nat) : Int))]) (by decide) rfl (fun _ => by kernel_rfl) fun b48 => ⟨(fun _ h => (h.wk [(0, [])] rfl)), ?_⟩)
    refine dtake (f := 1) [35] (by kernel_rfl) (St.closed _ _ _ _) (fun _ h => (h.wk [(0, [])] rfl)) (by kernel_rfl) ?_
    refine dq rfl (q_call (vs := [(.slice (cutA A c 8) (n - 8) (c - 8)), (.slice (some ⟨b48, 0, none⟩) 11 11)]) (v := (.agg #[(.slice (some ⟨b48, 0, none⟩) 11 11), (.slice none 0 0), (.slice none 0 0), (.slice (cutA A c 8) (n - 8) (c - 8))])) rfl ca_33 (fun w h => layerC w (cutA A c 8) (n - 8) (c - 8) (some ⟨b48, 0, none⟩) 11 11  (St.enter (sp := []) (Kc := []) (bi := []) h rfl rfl rfl))) ?_
    refine QL.nil ?_
    refine RG.step1 37 (by kernel_rfl) ?_
    refine dop rfl (l_storeAgg (b := b6) (off := 0) (j := 1) (vs := [(.slice (some ⟨b48, 0, none⟩) 11 11), (.slice none 0 0), (.slice none 0 0), (.slice (cutA A c 8) (n - 8) (c - 8))]) rfl rfl aggs_29 (by simp [Value.one1]) rfl rfl rfl (Nat.le_of_ble_eq_true rfl) ⟨(fun _ h => (h.wk [(0, [])] rfl)), ?_⟩)
    refine dend (by kernel_rfl) ?_
    refine eseq ?_
    refine HT.seq ?_
    refine HT.seq ?_
    refine HT.plain ?_
    refine sMv rfl rfl ?_
    refine sqS (q_slice (lo := 2) (hi := 4) rfl Tryz.underlying22 nagg_5 (.inr ⟨_, _, rfl, rfl⟩) (.inr ⟨_, _, rfl, rfl⟩) (by omega) (by omega)) rfl ?_
    refine sqS (q_call (vs := [(.slice (cutA A c 2) (4 - 2) (c - 2))]) (v := (.int .u64 ((bN bs 2 2 : Nat) : Int))) rfl ca_34 (fun w h => NumberC w A n c bs (lo := 2) (hi := 4) (h.fact (j := 0) rfl) (k := 2) rfl (by decide) (by omega) (by omega))) rfl ?_
    refine sqS (q_convn (p := bN bs 2 2) rfl Tryz.underlying39 Tryz.underlying3 (show bN bs 2 2 < 9223372036854775808 by have := bN_lt bs 2 2 65536 rfl; omega)) rfl ?_
    refine sAs rfl rfl ?_
    refine send ?_
    refine eseq ?_
    refine HT.seq ?_
    refine HT.plain ?_
    refine sMv rfl rfl ?_
    refine sMv rfl rfl ?_
    refine sqS (q_len (len := n) rfl Tryz.underlying22) rfl ?_
    refine sqS (q_sub (p := n) (q := 8) rfl rfl (by omega) (show n < 9223372036854775808 by omega)) rfl ?_
    refine sqS (q_F (q_gt (p := bN bs 2 2) (q := n - 8) rfl rfl) (by have := bN_lt bs 2 2 65536 rfl; omega)) rfl ?_
    refine send ?_
    refine eseq ?_
    refine HT.no rfl ?_
    refine HT.skip ?_
    refine eseq ?_
    refine HT.seq ?_
    refine HT.seq ?_
    refine HT.plain ?_
    refine sMv rfl rfl ?_
    refine sqS (q_and (p := nb bs 0) (q := 7) rfl rfl rfl (show nb bs 0 < 256 by have := nb_lt bs 0; omega) (by decide)) rfl ?_
    refine sqS (q_F (q_eq (p := (nb bs 0) &&& 7) (q := 0) rfl rfl) (by have := nb_lt bs 0; have := zm7 (nb bs 0); have := Nat.and_le_left (n := nb bs 0) (m := 7); have := Nat.and_le_right (n := nb bs 0) (m := 7); omega)) rfl ?_
    refine send ?_
    refine eseq ?_
    refine HT.no rfl ?_
    refine HT.skip ?_
    refine eseq ?_
    refine HT.seq ?_
    refine HT.seq ?_
    refine HT.plain ?_
    refine sMv rfl rfl ?_
    refine sqS (q_len (len := n) rfl Tryz.underlying22) rfl ?_
    refine sqS (q_F (q_lt (p := n) (q := 12) rfl rfl) (by omega)) rfl ?_
    refine sMv rfl rfl ?_
    refine sgqS rfl (q_move rfl) rfl ?_
    refine sgqS rfl (q_slice (lo := 2) (hi := 4) rfl Tryz.underlying22 nagg_5 (.inr ⟨_, _, rfl, rfl⟩) (.inr ⟨_, _, rfl, rfl⟩) (by omega) (by omega)) rfl ?_
    refine sgqS rfl (q_call (vs := [(.slice (cutA A c 2) (4 - 2) (c - 2))]) (v := (.int .u64 ((bN bs 2 2 : Nat) : Int))) rfl ca_34 (fun w h => NumberC w A n c bs (lo := 2) (hi := 4) (h.fact (j := 0) rfl) (k := 2) rfl (by decide) (by omega) (by omega))) rfl ?_
    refine sgqS rfl (q_F (q_lt (p := bN bs 2 2) (q := 4) rfl rfl) (by have := bN_lt bs 2 2 65536 rfl; omega)) rfl ?_
    refine sqS (q_pick rfl (fun h => nomatch h) (fun _ => rfl)) rfl ?_
    refine send ?_
    refine eseq ?_
    refine HT.no rfl ?_
    refine HT.skip ?_
    refine eseq ?_
    refine HT.seq ?_
    refine HT.drawn mixed (St.closed _ _ _ _) (St w [] [⟨b2, 29, [some (.slice none 0 0), some (.slice none 0 0), some (.slice none 0 0), some (.slice none 0 0)], true⟩, ⟨b6, 29, [some (.slice (some ⟨b48, 0, none⟩) 11 11), some (.slice none 0 0), some (.slice none 0 0), some (.slice (cutA A c 8) (n - 8) (c - 8))], true⟩, ⟨b48, 39, [some (.int .u64 (((nb bs 0) / 32 : Nat) : Int)), some (.int .u64 ((((nb bs 0) / 16) &&& 1 : Nat) : Int)), some (.int .u64 ((((nb bs 0) / 8) &&& 1 : Nat) : Int)), some (.int .u64 ((((nb bs 0) / 4) &&& 1 : Nat) : Int)), some (.int .u64 ((((nb bs 0) / 2) &&& 1 : Nat) : Int)), some (.int .u64 (((nb bs 0) &&& 1 : Nat) : Int)), some (.int .u64 ((nb bs 1 : Nat) : Int)), some (.int .u64 ((bN bs 2 2 : Nat) : Int)), some (.int .u64 ((bN bs 4 4 : Nat) : Int)), none, none], true⟩] [Byt A n c bs]) ?_
    refine dtake (f := 3) [0, 1, 2, 3, 4, 5, 6, 7, 8, 9, 10, 11] (by kernel_rfl) (St.closed _ _ _ _) (fun _ h => (h.wk [(0, []), (1, []), (2, [9, 10])] rfl)) (by kernel_rfl) ?_
    refine dq rfl (q_field (b := b6) (off := 0) rfl fo_29_0) ?_
    refine dq rfl (q_load (b := b6) (off := 0) (j := 1) rfl nagg_25 (fun _ h => h) rfl rfl rfl) ?_
    refine dq rfl (q_field (b := b6) (off := 0) rfl fo_29_0) ?_
    refine dq rfl (q_load (b := b6) (off := 0) (j := 1) rfl nagg_25 (fun _ h => h) rfl rfl rfl) ?_
    refine dq rfl (q_move rfl) ?_
    refine dq rfl (q_slice (lo := 8) (hi := 10) rfl Tryz.underlying22 nagg_5 (.inr ⟨_, _, rfl, rfl⟩) (.inr ⟨_, _, rfl, rfl⟩) (by omega) (by omega)) ?_
    refine dq rfl (q_call (vs := [(.slice (cutA A c 8) (10 - 8) (c - 8))]) (v := (.int .u64 ((bN bs 8 2 : Nat) : Int))) rfl ca_34 (fun w h => NumberC w A n c bs (lo := 8) (hi := 10) (h.fact (j := 0) rfl) (k := 2) rfl (by decide) (by omega) (by omega))) ?_
    refine dq rfl (q_move rfl) ?_
    refine dq rfl (q_index (i := 10) (j := 0) rfl rfl Tryz.underlying22 nagg_5 (fun _ h => h) rfl (by omega)) ?_
    refine dq rfl (q_byte (i := 10) (j := 0) rfl nagg_5 (fun _ h => h) rfl (by omega)) ?_
    refine dq rfl (q_convn (p := nb bs 10) rfl Tryz.underlying5 Tryz.underlying39 (show nb bs 10 < 18446744073709551616 by have := nb_lt bs 10; omega)) ?_
    refine dq rfl (q_indexK (b := b48) (i := 9) (sz := 1) rfl rfl Tryz.underlying25 size_39 (by decide)) ?_
    refine QL.nil ?_
    refine RG.step1 12 (by kernel_rfl) ?_
    refine dop rfl (l_store (b := b48) (off := 9) (j := 2) rfl rfl nagg_39 rfl rfl rfl rfl (dlt rfl) ⟨(fun _ h => (h.wk [(0, []), (1, []), (2, [9, 10])] rfl)), ?_⟩)
    refine dtake (f := 1) [13] (by kernel_rfl) (St.closed _ _ _ _) (fun _ h => (h.wk [(0, []), (1, []), (2, [9, 10])] rfl)) (by kernel_rfl) ?_
    refine dq rfl (q_indexK (b := b48) (i := 10) (sz := 1) rfl rfl Tryz.underlying25 size_39 (by decide)) ?_
    refine QL.nil ?_
    refine RG.step1 14 (by kernel_rfl) ?_
    refine dop rfl (l_store (b := b48) (off := 10) (j := 2) rfl rfl nagg_39 rfl rfl rfl rfl (dlt rfl) ⟨(fun _ h => (h.wk [(0, []), (1, []), (2, [9, 10])] rfl)), ?_⟩)
    refine dend (by kernel_rfl) ?_
    refine eseq ?_
    refine HT.seq ?_
    refine HT.seq ?_
    refine HT.plain ?_
    refine sMv rfl rfl ?_
    refine sqS (q_and (p := nb bs 0) (q := 2) rfl rfl rfl (show nb bs 0 < 256 by have := nb_lt bs 0; omega) (by decide)) rfl ?_
    refine sqS (q_T (q_eq (p := (nb bs 0) &&& 2) (q := 0) rfl rfl) (by have := nb_lt bs 0; have := zb2 (nb bs 0); have := Nat.and_le_left (n := nb bs 0) (m := 2); have := Nat.and_le_right (n := nb bs 0) (m := 2); omega)) rfl ?_
    refine sMv rfl rfl ?_
    refine sskip rfl rfl ?_
    refine sskip rfl rfl ?_
    refine sskip rfl rfl ?_
    refine sqS (q_pick rfl (fun _ => rfl) (fun h => nomatch h)) rfl ?_
    refine send ?_
    refine eseq ?_
    refine HT.yes rfl ?_
    refine HT.seq ?_
    refine HT.plain ?_
    refine sqS (q_loadAgg (b := b6) (off := 0) (j := 1) (vs := [(.slice (some ⟨b48, 0, none⟩) 11 11), (.slice none 0 0), (.slice none 0 0), (.slice (cutA A c 8) (n - 8) (c - 8))]) rfl aggs_29 (fun _ h => h) rfl rfl rfl) rfl ?_
    refine sl_ (l_storeAgg (b := b2) (off := 0) (j := 0) (vs := [(.slice (some ⟨b48, 0, none⟩) 11 11), (.slice none 0 0), (.slice none 0 0), (.slice (cutA A c 8) (n - 8) (c - 8))]) rfl rfl aggs_29 (by simp [Value.one1]) rfl rfl rfl (Nat.le_of_ble_eq_true rfl) ?_)
    refine sAs rfl rfl ?_
    refine sAs rfl rfl ?_
    refine send ?_
    refine eseq ?_
    refine HT.ret ?_
    refine rt_then ?_
    exact fun a ha w' hw => fin_ ha (resc3 ha Tryz.results40 rfl (ld_ aggs_29 hw (j := 0) rfl rfl (vs := [(.slice (some ⟨b48, 0, none⟩) 11 11), (.slice none 0 0), (.slice none 0 0), (.slice (cutA A c 8) (n - 8) (c - 8))]) rfl) rfl rfl) ⟨b48, rfl, (hw.wk [(2, [])] rfl), fr0⟩

theorem gtp_S9 (w : World) (A : Option Addr) (n : Nat) (c : Nat) (bs : List UInt8) (hn : n ≤ 2147483647) (ha : 8 ≤ n) (hb : bN bs 2 2 ≤ n - 8) (hc : nb bs 0 % 8 ≠ 0) (hd : 12 ≤ n) (he : 4 ≤ bN bs 2 2) (hf : nb bs 0 / 2 % 2 = 0) (hst : St w [] [] [Byt A n c bs] w) : Calls Tryz.prog 26 #[(.string ⟨#[103, 116, 112]⟩), (.slice A n c)] w (SP w (Byt A n c bs) none) := by
  have hnc00 : n ≤ c := (hst.fact (j := 0) rfl).2.1
  refine enter (vs := [(.string ⟨#[103, 116, 112]⟩), (.slice A n c)]) Tryz.func26 rfl rfl rfl hst ?_
  refine HT.seq ?_
  refine HT.plain ?_
  refine sl_ (l_alloc (by decide) zero_29 fun b4 => ?_)
  refine sAs rfl rfl ?_
  refine sAs rfl rfl ?_
  refine send ?_
  refine eseq ?_
  refine HT.seq ?_
  refine HT.plain ?_
  refine sl_ (l_makeMap (by decide) fun b13 => ?_)
  refine sl_ (l_insert (es := es0) (ck := 0) rfl rfl rfl Tryz.underlying36 Tryz.underlying9 fi0 ?_)
  refine sl_ (l_insert (es := es1) (ck := 1) rfl rfl rfl Tryz.underlying36 Tryz.underlying9 fi1 ?_)
  refine sl_ (l_insert (es := es2) (ck := 2) rfl rfl rfl Tryz.underlying36 Tryz.underlying9 fi2 ?_)
  refine sl_ (l_insert (es := es3) (ck := 3) rfl rfl rfl Tryz.underlying36 Tryz.underlying9 fi3 ?_)
  refine sl_ (l_insert (es := es4) (ck := 4) rfl rfl rfl Tryz.underlying36 Tryz.underlying9 fi4 ?_)
  refine sl_ (l_insert (es := es5) (ck := 5) rfl rfl rfl Tryz.underlying36 Tryz.underlying9 fi5 ?_)
  refine sl_ (l_insert (es := es6) (ck := 6) rfl rfl rfl Tryz.underlying36 Tryz.underlying9 fi6 ?_)
  refine sl_ (l_insert (es := es7) (ck := 7) rfl rfl rfl Tryz.underlying36 Tryz.underlying9 fi7 ?_)
  refine sl_ (l_insert (es := es8) (ck := 8) rfl rfl rfl Tryz.underlying36 Tryz.underlying9 fi8 ?_)
  refine sl_ (l_insert (es := es9) (ck := 9) rfl rfl rfl Tryz.underlying36 Tryz.underlying9 fi9 ?_)
  refine sl_ (l_insert (es := es10) (ck := 10) rfl rfl rfl Tryz.underlying36 Tryz.underlying9 fi10 ?_)
  refine sl_ (l_insert (es := es11) (ck := 11) rfl rfl rfl Tryz.underlying36 Tryz.underlying9 fi11 ?_)
  refine sl_ (l_insert (es := es12) (ck := 12) rfl rfl rfl Tryz.underlying36 Tryz.underlying9 fi12 ?_)
  refine sl_ (l_insert (es := es13) (ck := 13) rfl rfl rfl Tryz.underlying36 Tryz.underlying9 fi13 ?_)
  refine sl_ (l_insert (es := es14) (ck := 14) rfl rfl rfl Tryz.underlying36 Tryz.underlying9 fi14 ?_)
  refine sl_ (l_insert (es := es15) (ck := 15) rfl rfl rfl Tryz.underlying36 Tryz.underlying9 fi15 ?_)
  refine sl_ (l_insert (es := es16) (ck := 16) rfl rfl rfl Tryz.underlying36 Tryz.underlying9 fi16 ?_)
  refine sl_ (l_insert (es := es17) (ck := 17) rfl rfl rfl Tryz.underlying36 Tryz.underlying9 fi17 ?_)
  refine sl_ (l_insert (es := es18) (ck := 18) rfl rfl rfl Tryz.underlying36 Tryz.underlying9 fi18 ?_)
  refine sl_ (l_insert (es := es19) (ck := 19) rfl rfl rfl Tryz.underlying36 Tryz.underlying9 fi19 ?_)
  refine sl_ (l_insert (es := es20) (ck := 20) rfl rfl rfl Tryz.underlying36 Tryz.underlying9 fi20 ?_)
  refine sq (SM.closed) (q_move rfl) rfl ?_
  refine sq (SM.closed) (q_move rfl) rfl ?_
  refine sq (SM.closed) (q_lookup (es := es21) (i := 11) (v := (.int .i64 ((8 : Nat) : Int))) (fun _ h => h) rfl rfl Tryz.underlying36 Tryz.underlying9 (by kernel_rfl)) rfl ?_
  refine sq (SM.closed) (q_assign rfl) rfl ?_
  refine send ?_
  refine eseq ?_
  refine HT.unmap ?_
  refine HT.seq ?_
  refine HT.seq ?_
  refine HT.plain ?_
  refine sMv rfl rfl ?_
  refine sqS (q_len (len := n) rfl Tryz.underlying22) rfl ?_
  refine sMv rfl rfl ?_
  refine sqS (q_F (q_lt (p := n) (q := 8) rfl rfl) (by omega)) rfl ?_
  refine send ?_
  refine eseq ?_
  refine HT.no rfl ?_
  refine HT.skip ?_
  refine eseq ?_
  refine HT.seq ?_
  refine HT.seq ?_
  refine HT.plain ?_
  refine sMv rfl rfl ?_
  refine send ?_
  refine eseq ?_
  refine HT.block ?_
  refine HT.seq ?_
  refine HT.plain ?_
  refine sqS (q_eqs rfl rfl (r := false) (by kernel_rfl)) rfl ?_
  refine sAs rfl rfl ?_
  refine send ?_
  refine eseq ?_
  refine HT.no rfl ?_
  refine HT.seq ?_
  refine HT.plain ?_
  refine sqS (q_eqs rfl rfl (r := false) (by kernel_rfl)) rfl ?_
  refine sAs rfl rfl ?_
  refine send ?_
  refine eseq ?_
  refine HT.no rfl ?_
  refine HT.seq ?_
  refine HT.plain ?_
  refine sqS (q_eqs rfl rfl (r := false) (by kernel_rfl)) rfl ?_
  refine sAs rfl rfl ?_
  refine send ?_
  refine eseq ?_
  refine HT.no rfl ?_
  refine HT.seq ?_
  refine HT.plain ?_
  refine sqS (q_eqs rfl rfl (r := false) (by kernel_rfl)) rfl ?_
  refine sAs rfl rfl ?_
  refine send ?_
  refine eseq ?_
  refine HT.no rfl ?_
  refine HT.seq ?_
  refine HT.plain ?_
  refine sqS (q_eqs rfl rfl (r := false) (by kernel_rfl)) rfl ?_
  refine sAs rfl rfl ?_
  refine send ?_
  refine eseq ?_
  refine HT.no rfl ?_
  refine HT.seq ?_
  refine HT.plain ?_
  refine sqS (q_eqs rfl rfl (r := false) (by kernel_rfl)) rfl ?_
  refine sAs rfl rfl ?_
  refine send ?_
  refine eseq ?_
  refine HT.no rfl ?_
  refine HT.seq ?_
  refine HT.plain ?_
  refine sqS (q_eqs rfl rfl (r := false) (by kernel_rfl)) rfl ?_
  refine sAs rfl rfl ?_
  refine send ?_
  refine eseq ?_
  refine HT.no rfl ?_
  refine HT.seq ?_
  refine HT.plain ?_
  refine sqS (q_eqs rfl rfl (r := false) (by kernel_rfl)) rfl ?_
  refine sAs rfl rfl ?_
  refine send ?_
  refine eseq ?_
  refine HT.no rfl ?_
  refine HT.seq ?_
  refine HT.plain ?_
  refine sqS (q_eqs rfl rfl (r := false) (by kernel_rfl)) rfl ?_
  refine sAs rfl rfl ?_
  refine send ?_
  refine eseq ?_
  refine HT.no rfl ?_
  refine HT.seq ?_
  refine HT.plain ?_
  refine sqS (q_eqs rfl rfl (r := false) (by kernel_rfl)) rfl ?_
  refine sAs rfl rfl ?_
  refine send ?_
  refine eseq ?_
  refine HT.no rfl ?_
  refine HT.seq ?_
  refine HT.plain ?_
  refine sqS (q_eqs rfl rfl (r := false) (by kernel_rfl)) rfl ?_
  refine sAs rfl rfl ?_
  refine send ?_
  refine eseq ?_
  refine HT.no rfl ?_
  refine HT.seq ?_
  refine HT.plain ?_
  refine sqS (q_eqs rfl rfl (r := true) (by kernel_rfl)) rfl ?_
  refine sAs rfl rfl ?_
  refine send ?_
  refine eseq ?_
  refine HT.yes rfl ?_
  refine HT.seq ?_
  refine HT.plain ?_
  refine sMv rfl rfl ?_
  refine sl_ (l_callX1 (vs := [(.slice A n c)]) (Kc := []) (Bc := [Byt A n c bs]) [] [0] [Byt A n c bs] (fun b48 => [⟨b4, 29, [some (.slice none 0 0), some (.slice none 0 0), some (.slice none 0 0), some (.slice none 0 0)], true⟩, ⟨b48, 39, [some (.int .u64 (((nb bs 0) / 32 : Nat) : Int)), some (.int .u64 ((((nb bs 0) / 16) &&& 1 : Nat) : Int)), some (.int .u64 ((((nb bs 0) / 8) &&& 1 : Nat) : Int)), some (.int .u64 ((((nb bs 0) / 4) &&& 1 : Nat) : Int)), some (.int .u64 ((((nb bs 0) / 2) &&& 1 : Nat) : Int)), some (.int .u64 (((nb bs 0) &&& 1 : Nat) : Int)), some (.int .u64 ((nb bs 1 : Nat) : Int)), some (.int .u64 ((bN bs 2 2 : Nat) : Int)), some (.int .u64 ((bN bs 4 4 : Nat) : Int)), some (.int .u64 ((bN bs 8 2 : Nat) : Int)), some (.int .u64 ((nb bs 10 : Nat) : Int))], true⟩]) (fun b48 => [Byt A n c bs]) (by decide) rfl ca_40 (fun _ h => h) rfl rfl rfl rfl (fun w h => gtp_s9 w A n c bs (by omega) (by omega) (by omega) (by omega) (by omega) (by omega) (by omega) h) (fun _ => rfl) (fun _ => rfl) (fun _ => rfl) (fun _ => rfl) fun b48 hf1 he2 => ?_)
  refine sqS (q_extract (vs := [(.agg #[(.slice (some ⟨b48, 0, none⟩) 11 11), (.slice none 0 0), (.slice none 0 0), (.slice (cutA A c 8) (n - 8) (c - 8))]), (.bool true), (.bool false)]) (i := 0) rfl rfl) rfl ?_
  refine sqS (q_extract (vs := [(.agg #[(.slice (some ⟨b48, 0, none⟩) 11 11), (.slice none 0 0), (.slice none 0 0), (.slice (cutA A c 8) (n - 8) (c - 8))]), (.bool true), (.bool false)]) (i := 1) rfl rfl) rfl ?_
  refine sqS (q_extract (vs := [(.agg #[(.slice (some ⟨b48, 0, none⟩) 11 11), (.slice none 0 0), (.slice none 0 0), (.slice (cutA A c 8) (n - 8) (c - 8))]), (.bool true), (.bool false)]) (i := 2) rfl rfl) rfl ?_
  refine sl_ (l_storeAgg (b := b4) (off := 0) (j := 0) (vs := [(.slice (some ⟨b48, 0, none⟩) 11 11), (.slice none 0 0), (.slice none 0 0), (.slice (cutA A c 8) (n - 8) (c - 8))]) rfl rfl aggs_29 (by simp [Value.one1]) rfl rfl rfl (Nat.le_of_ble_eq_true rfl) ?_)
  refine sAs rfl rfl ?_
  refine sAs rfl rfl ?_
  refine send ?_
  refine eseq ?_
  refine HT.ret ?_
  refine rt_in ?_
  refine rt_then ?_
  exact fun a ha w' hw => fin_ ha (resc3 ha Tryz.results26 rfl (ld_ aggs_29 hw (j := 0) rfl rfl (vs := [(.slice (some ⟨b48, 0, none⟩) 11 11), (.slice none 0 0), (.slice none 0 0), (.slice (cutA A c 8) (n - 8) (c - 8))]) rfl) rfl rfl) ⟨⟨(some ⟨b48, 0, none⟩), 11, 11, []⟩, ⟨none, 0, 0, []⟩, ⟨none, 0, 0, []⟩, ⟨cutA A c 8, n - 8, c - 8, []⟩, true, rfl, hw.pres⟩

theorem gtp_s10 (w : World) (A : Option Addr) (n : Nat) (c : Nat) (bs : List UInt8) (hn : n ≤ 2147483647) (ha : 8 ≤ n) (hb : bN bs 2 2 ≤ n - 8) (hc : nb bs 0 % 8 ≠ 0) (hd : 12 ≤ n) (he : 4 ≤ bN bs 2 2) (hf : nb bs 0 / 2 % 2 = 1) (hg : nb bs 0 % 2 = 0) (hst : St w [] [] [Byt A n c bs] w) : Calls Tryz.prog 40 #[(.slice A n c)] w (CP1 w [] [Byt A n c bs] (fun b48 => (.tuple #[(.agg #[(.slice (some ⟨b48, 0, none⟩) 11 11), (.slice none 0 0), (.slice none 0 0), (.slice (cutA A c 8) (n - 8) (c - 8))]), (.bool true), (.bool false)])) (fun b48 => [⟨b48, 39, [some (.int .u64 (((nb bs 0) / 32 : Nat) : Int)), some (.int .u64 ((((nb bs 0) / 16) &&& 1 : Nat) : Int)), some (.int .u64 ((((nb bs 0) / 8) &&& 1 : Nat) : Int)), some (.int .u64 ((((nb bs 0) / 4) &&& 1 : Nat) : Int)), some (.int .u64 ((((nb bs 0) / 2) &&& 1 : Nat) : Int)), some (.int .u64 (((nb bs 0) &&& 1 : Nat) : Int)), some (.int .u64 ((nb bs 1 : Nat) : Int)), some (.int .u64 ((bN bs 2 2 : Nat) : Int)), some (.int .u64 ((bN bs 4 4 : Nat) : Int)), some (.int .u64 ((bN bs 8 2 : Nat) : Int)), some (.int .u64 ((nb bs 10 : Nat) : Int))], true⟩]) (fun b48 => [])) := by
  have hnc00 : n ≤ c := (hst.fact (j := 0) rfl).2.1
  refine enter (vs := [(.slice A n c)]) Tryz.func40 rfl rfl rfl hst ?_
  refine HT.seq ?_
  refine HT.plain ?_
  refine sl_ (l_alloc (by decide) zero_29 fun b2 => ?_)
  refine sAs rfl rfl ?_
  refine sAs rfl rfl ?_
  refine send ?_
  refine eseq ?_
  refine HT.seq ?_
  refine HT.plain ?_
  refine sMv rfl rfl ?_
  refine sqS (q_index (i := 0) (j := 0) rfl rfl Tryz.underlying22 nagg_5 (fun _ h => h) rfl (by omega)) rfl ?_
  refine sqS (q_byte (i := 0) (j := 0) rfl nagg_5 (fun _ h => h) rfl (by omega)) rfl ?_
  refine sAs rfl rfl ?_
  refine send ?_
  refine eseq ?_
  refine HT.seq ?_
  refine HT.drawnS mixed (St.closed _ _ _ _) ?_
  refine dtake (f := 4) [0, 1, 2, 3, 4, 5, 6, 7, 8, 9, 10, 11, 12, 13, 14, 15, 16, 17, 18, 19, 20, 21, 22, 23, 24, 25, 26, 27, 28, 29, 30, 31, 32, 33] (by kernel_rfl) (St.closed _ _ _ _) (fun _ h => h) (by kernel_rfl) ?_
  refine dq rfl (q_move rfl) ?_
  refine dq rfl (q_slice (lo := 8) (hi := n) rfl Tryz.underlying22 nagg_5 (.inr ⟨_, _, rfl, rfl⟩) (.inl ⟨rfl, rfl⟩) (by omega) (by omega)) ?_
  refine dq rfl (q_move rfl) ?_
  refine dq rfl (q_shr (p := nb bs 0) (e := 5) (N := 32) rfl rfl (by decide) rfl) ?_
  refine dq rfl (q_convn (p := (nb bs 0) / 32) rfl Tryz.underlying5 Tryz.underlying39 (show (nb bs 0) / 32 < 18446744073709551616 by have := nb_lt bs 0; omega)) ?_
  refine dq rfl (q_move rfl) ?_
  refine dq rfl (q_shr (p := nb bs 0) (e := 4) (N := 16) rfl rfl (by decide) rfl) ?_
  refine dq rfl (q_and (p := (nb bs 0) / 16) (q := 1) rfl rfl rfl (show (nb bs 0) / 16 < 256 by have := nb_lt bs 0; omega) (by decide)) ?_
  refine dq rfl (q_convn (p := ((nb bs 0) / 16) &&& 1) rfl Tryz.underlying5 Tryz.underlying39 (show ((nb bs 0) / 16) &&& 1 < 18446744073709551616 by have := nb_lt bs 0; have := zm1 ((nb bs 0) / 16); have := Nat.and_le_left (n := (nb bs 0) / 16) (m := 1); have := Nat.and_le_right (n := (nb bs 0) / 16) (m := 1); omega)) ?_
  refine dq rfl (q_move rfl) ?_
  refine dq rfl (q_shr (p := nb bs 0) (e := 3) (N := 8) rfl rfl (by decide) rfl) ?_
  refine dq rfl (q_and (p := (nb bs 0) / 8) (q := 1) rfl rfl rfl (show (nb bs 0) / 8 < 256 by have := nb_lt bs 0; omega) (by decide)) ?_
  refine dq rfl (q_convn (p := ((nb bs 0) / 8) &&& 1) rfl Tryz.underlying5 Tryz.underlying39 (show ((nb bs 0) / 8) &&& 1 < 18446744073709551616 by have := nb_lt bs 0; have := zm1 ((nb bs 0) / 8); have := Nat.and_le_left (n := (nb bs 0) / 8) (m := 1); have := Nat.and_le_right (n := (nb bs 0) / 8) (m := 1); omega)) ?_
  refine dq rfl (q_move rfl) ?_
  refine dq rfl (q_shr (p := nb bs 0) (e := 2) (N := 4) rfl rfl (by decide) rfl) ?_
  refine dq rfl (q_and (p := (nb bs 0) / 4) (q := 1) rfl rfl rfl (show (nb bs 0) / 4 < 256 by have := nb_lt bs 0; omega) (by decide)) ?_
  refine dq rfl (q_convn (p := ((nb bs 0) / 4) &&& 1) rfl Tryz.underlying5 Tryz.underlying39 (show ((nb bs 0) / 4) &&& 1 < 18446744073709551616 by have := nb_lt bs 0; have := zm1 ((nb bs 0) / 4); have := Nat.and_le_left (n := (nb bs 0) / 4) (m := 1); have := Nat.and_le_right (n := (nb bs 0) / 4) (m := 1); omega)) ?_
  refine dq rfl (q_move rfl) ?_
  refine dq rfl (q_shr (p := nb bs 0) (e := 1) (N := 2) rfl rfl (by decide) rfl) ?_
  refine dq rfl (q_and (p := (nb bs 0) / 2) (q := 1) rfl rfl rfl (show (nb bs 0) / 2 < 256 by have := nb_lt bs 0; omega) (by decide)) ?_
  refine dq rfl (q_convn (p := ((nb bs 0) / 2) &&& 1) rfl Tryz.underlying5 Tryz.underlying39 (show ((nb bs 0) / 2) &&& 1 < 18446744073709551616 by have := nb_lt bs 0; have := zm1 ((nb bs 0) / 2); have := Nat.and_le_left (n := (nb bs 0) / 2) (m := 1); have := Nat.and_le_right (n := (nb bs 0) / 2) (m := 1); omega)) ?_
  refine dq rfl (q_move rfl) ?_
  refine dq rfl (q_and (p := nb bs 0) (q := 1) rfl rfl rfl (show nb bs 0 < 256 by have := nb_lt bs 0; omega) (by decide)) ?_
  refine dq rfl (q_convn (p := (nb bs 0) &&& 1) rfl Tryz.underlying5 Tryz.underlying39 (show (nb bs 0) &&& 1 < 18446744073709551616 by have := nb_lt bs 0; have := zm1 (nb bs 0); have := Nat.and_le_left (n := nb bs 0) (m := 1); have := Nat.and_le_right (n := nb bs 0) (m := 1); omega)) ?_
  refine dq rfl (q_move rfl) ?_
  refine dq rfl (q_index (i := 1) (j := 0) rfl rfl Tryz.underlying22 nagg_5 (fun _ h => h) rfl (by omega)) ?_
  refine dq rfl (q_byte (i := 1) (j := 0) rfl nagg_5 (fun _ h => h) rfl (by omega)) ?_
  refine dq rfl (q_convn (p := nb bs 1) rfl Tryz.underlying5 Tryz.underlying39 (show nb bs 1 < 18446744073709551616 by have := nb_lt bs 1; omega)) ?_
  refine dq rfl (q_move rfl) ?_
  refine dq rfl (q_slice (lo := 2) (hi := 4) rfl Tryz.underlying22 nagg_5 (.inr ⟨_, _, rfl, rfl⟩) (.inr ⟨_, _, rfl, rfl⟩) (by omega) (by omega)) ?_
  refine dq rfl (q_call (vs := [(.slice (cutA A c 2) (4 - 2) (c - 2))]) (v := (.int .u64 ((bN bs 2 2 : Nat) : Int))) rfl ca_34 (fun w h => NumberC w A n c bs (lo := 2) (hi := 4) (h.fact (j := 0) rfl) (k := 2) rfl (by decide) (by omega) (by omega))) ?_
  refine dq rfl (q_move rfl) ?_
  refine dq rfl (q_slice (lo := 4) (hi := 8) rfl Tryz.underlying22 nagg_5 (.inr ⟨_, _, rfl, rfl⟩) (.inr ⟨_, _, rfl, rfl⟩) (by omega) (by omega)) ?_
  refine dq rfl (q_call (vs := [(.slice (cutA A c 4) (8 - 4) (c - 4))]) (v := (.int .u64 ((bN bs 4 4 : Nat) : Int))) rfl ca_34 (fun w h => NumberC w A n c bs (lo := 4) (hi := 8) (h.fact (j := 0) rfl) (k := 4) rfl (by decide) (by omega) (by omega))) ?_
  refine QL.nil ?_
  refine RG.step2 34 36 (by kernel_rfl) ?_ ?_
  · refine dop rfl (l_buildSlice (e := 39) (vs := [(0, (.int .u64 (((nb bs 0) / 32 : Nat) : Int))), (1, (.int .u64 ((((nb bs 0) / 16) &&& 1 : Nat) : Int))), (2, (.int .u64 ((((nb bs 0) / 8) &&& 1 : Nat) : Int))), (3, (.int .u64 ((((nb bs 0) / 4) &&& 1 : Nat) : Int))), (4, (.int .u64 ((((nb bs 0) / 2) &&& 1 : Nat) : Int))), (5, (.int .u64 (((nb bs 0) &&& 1 : Nat) : Int))), (6, (.int .u64 ((nb bs 1 : Nat) : Int))), (7, (.int .u64 ((bN bs 2 2 : Nat) : Int))), (8, (.int .u64 ((bN bs 4 4 : Nat) : Int))), (9, (.int .u64 ((0 : Nat) : Int))), (10, (.int .u64 ((0 : Nat) : Int)))]) (cs := [(.int .u64 (((nb bs 0) / 32 : Nat) : Int)), (.int .u64 ((((nb bs 0) / 16) &&& 1 : Nat) : Int)), (.int .u64 ((((nb bs 0) / 8) &&& 1 : Nat) : Int)), (.int .u64 ((((nb bs 0) / 4) &&& 1 : Nat) : Int)), (.int .u64 ((((nb bs 0) / 2) &&& 1 : Nat) : Int)), (.int .u64 (((nb bs 0) &&& 1 : Nat) : Int)), (.int .u64 ((nb bs 1 : Nat) : Int)), (.int .u64 ((bN bs 2 2 : Nat) : Int)), (.int .u64 ((bN bs 4 4 : Nat) : Int)), (.int .u64 ((0 : Nat) : Int)), (.int .u64 ((0 : Nat) : Int))]) (by decide) rfl (fun _ => by kernel_rfl) fun b48 => ⟨(fun _ h => (h.wk [(0, [])] rfl)), ?_⟩)
    refine dtake (f := 2) [35] (by kernel_rfl) (St.closed _ _ _ _) (fun _ h => (h.wk [(0, [])] rfl)) (by kernel_rfl) ?_
    refine dq rfl (q_call (vs := [(.slice (cutA A c 8) (n - 8) (c - 8)), (.slice (some ⟨b48, 0, none⟩) 11 11)]) (v := (.agg #[(.slice (some ⟨b48, 0, none⟩) 11 11), (.slice none 0 0), (.slice none 0 0), (.slice (cutA A c 8) (n - 8) (c - 8))])) rfl ca_33 (fun w h => layerC w (cutA A c 8) (n - 8) (c - 8) (some ⟨b48, 0, none⟩) 11 11  (St.enter (sp := []) (Kc := []) (bi := []) h rfl rfl rfl))) ?_
    refine QL.nil ?_
    refine RG.step1 36 (by kernel_rfl) ?_
    refine dop rfl (l_alloc (by decide) zero_29 fun b6 => ⟨(fun _ h => (h.wk [(0, [])] rfl)), ?_⟩)
    refine RG.step1 37 (by kernel_rfl) ?_
    refine dop rfl (l_storeAgg (b := b6) (off := 0) (j := 2) (vs := [(.slice (some ⟨b48, 0, none⟩) 11 11), (.slice none 0 0), (.slice none 0 0), (.slice (cutA A c 8) (n - 8) (c - 8))]) rfl rfl aggs_29 (by simp [Value.one1]) rfl rfl rfl (Nat.le_of_ble_eq_true rfl) ⟨(fun _ h => (h.wk [(0, [])] rfl)), ?_⟩)
    refine dend (by kernel_rfl) ?_
    refine eseq ?_
    refine HT.seq ?_
    refine HT.seq ?_
    refine HT.plain ?_
    refine sMv rfl rfl ?_
    refine sqS (q_slice (lo := 2) (hi := 4) rfl Tryz.underlying22 nagg_5 (.inr ⟨_, _, rfl, rfl⟩) (.inr ⟨_, _, rfl, rfl⟩) (by omega) (by omega)) rfl ?_
    refine sqS (q_call (vs := [(.slice (cutA A c 2) (4 - 2) (c - 2))]) (v := (.int .u64 ((bN bs 2 2 : Nat) : Int))) rfl ca_34 (fun w h => NumberC w A n c bs (lo := 2) (hi := 4) (h.fact (j := 0) rfl) (k := 2) rfl (by decide) (by omega) (by omega))) rfl ?_
    refine sqS (q_convn (p := bN bs 2 2) rfl Tryz.underlying39 Tryz.underlying3 (show bN bs 2 2 < 9223372036854775808 by have := bN_lt bs 2 2 65536 rfl; omega)) rfl ?_
    refine sAs rfl rfl ?_
    refine send ?_
    refine eseq ?_
    refine HT.seq ?_
    refine HT.plain ?_
    refine sMv rfl rfl ?_
    refine sMv rfl rfl ?_
    refine sqS (q_len (len := n) rfl Tryz.underlying22) rfl ?_
    refine sqS (q_sub (p := n) (q := 8) rfl rfl (by omega) (show n < 9223372036854775808 by omega)) rfl ?_
    refine sqS (q_F (q_gt (p := bN bs 2 2) (q := n - 8) rfl rfl) (by have := bN_lt bs 2 2 65536 rfl; omega)) rfl ?_
    refine send ?_
    refine eseq ?_
    refine HT.no rfl ?_
    refine HT.skip ?_
    refine eseq ?_
    refine HT.seq ?_
    refine HT.seq ?_
    refine HT.plain ?_
    refine sMv rfl rfl ?_
    refine sqS (q_and (p := nb bs 0) (q := 7) rfl rfl rfl (show nb bs 0 < 256 by have := nb_lt bs 0; omega) (by decide)) rfl ?_
    refine sqS (q_F (q_eq (p := (nb bs 0) &&& 7) (q := 0) rfl rfl) (by have := nb_lt bs 0; have := zm7 (nb bs 0); have := Nat.and_le_left (n := nb bs 0) (m := 7); have := Nat.and_le_right (n := nb bs 0) (m := 7); omega)) rfl ?_
    refine send ?_
    refine eseq ?_
    refine HT.no rfl ?_
    refine HT.skip ?_
    refine eseq ?_
    refine HT.seq ?_
    refine HT.seq ?_
    refine HT.plain ?_
    refine sMv rfl rfl ?_
    refine sqS (q_len (len := n) rfl Tryz.underlying22) rfl ?_
    refine sqS (q_F (q_lt (p := n) (q := 12) rfl rfl) (by omega)) rfl ?_
    refine sMv rfl rfl ?_
    refine sgqS rfl (q_move rfl) rfl ?_
    refine sgqS rfl (q_slice (lo := 2) (hi := 4) rfl Tryz.underlying22 nagg_5 (.inr ⟨_, _, rfl, rfl⟩) (.inr ⟨_, _, rfl, rfl⟩) (by omega) (by omega)) rfl ?_
    refine sgqS rfl (q_call (vs := [(.slice (cutA A c 2) (4 - 2) (c - 2))]) (v := (.int .u64 ((bN bs 2 2 : Nat) : Int))) rfl ca_34 (fun w h => NumberC w A n c bs (lo := 2) (hi := 4) (h.fact (j := 0) rfl) (k := 2) rfl (by decide) (by omega) (by omega))) rfl ?_
    refine sgqS rfl (q_F (q_lt (p := bN bs 2 2) (q := 4) rfl rfl) (by have := bN_lt bs 2 2 65536 rfl; omega)) rfl ?_
    refine sqS (q_pick rfl (fun h => nomatch h) (fun _ => rfl)) rfl ?_
    refine send ?_
    refine eseq ?_
    refine HT.no rfl ?_
    refine HT.skip ?_
    refine eseq ?_
    refine HT.seq ?_
    refine HT.drawn mixed (St.closed _ _ _ _) (St w [] [⟨b2, 29, [some (.slice none 0 0), some (.slice none 0 0), some (.slice none 0 0), some (.slice none 0 0)], true⟩, ⟨b48, 39, [some (.int .u64 (((nb bs 0) / 32 : Nat) : Int)), some (.int .u64 ((((nb bs 0) / 16) &&& 1 : Nat) : Int)), some (.int .u64 ((((nb bs 0) / 8) &&& 1 : Nat) : Int)), some (.int .u64 ((((nb bs 0) / 4) &&& 1 : Nat) : Int)), some (.int .u64 ((((nb bs 0) / 2) &&& 1 : Nat) : Int)), some (.int .u64 (((nb bs 0) &&& 1 : Nat) : Int)), some (.int .u64 ((nb bs 1 : Nat) : Int)), some (.int .u64 ((bN bs 2 2 : Nat) : Int)), some (.int .u64 ((bN bs 4 4 : Nat) : Int)), none, none], true⟩, ⟨b6, 29, [some (.slice (some ⟨b48, 0, none⟩) 11 11), some (.slice none 0 0), some (.slice none 0 0), some (.slice (cutA A c 8) (n - 8) (c - 8))], true⟩] [Byt A n c bs]) ?_
    refine dtake (f := 3) [0, 1, 2, 3, 4, 5, 6, 7, 8, 9, 10, 11] (by kernel_rfl) (St.closed _ _ _ _) (fun _ h => (h.wk [(0, []), (1, [9, 10]), (2, [])] rfl)) (by kernel_rfl) ?_
    refine dq rfl (q_field (b := b6) (off := 0) rfl fo_29_0) ?_
    refine dq rfl (q_load (b := b6) (off := 0) (j := 2) rfl nagg_25 (fun _ h => h) rfl rfl rfl) ?_
    refine dq rfl (q_field (b := b6) (off := 0) rfl fo_29_0) ?_
    refine dq rfl (q_load (b := b6) (off := 0) (j := 2) rfl nagg_25 (fun _ h => h) rfl rfl rfl) ?_
    refine dq rfl (q_move rfl) ?_
    refine dq rfl (q_slice (lo := 8) (hi := 10) rfl Tryz.underlying22 nagg_5 (.inr ⟨_, _, rfl, rfl⟩) (.inr ⟨_, _, rfl, rfl⟩) (by omega) (by omega)) ?_
    refine dq rfl (q_call (vs := [(.slice (cutA A c 8) (10 - 8) (c - 8))]) (v := (.int .u64 ((bN bs 8 2 : Nat) : Int))) rfl ca_34 (fun w h => NumberC w A n c bs (lo := 8) (hi := 10) (h.fact (j := 0) rfl) (k := 2) rfl (by decide) (by omega) (by omega))) ?_
    refine dq rfl (q_move rfl) ?_
    refine dq rfl (q_index (i := 10) (j := 0) rfl rfl Tryz.underlying22 nagg_5 (fun _ h => h) rfl (by omega)) ?_
    refine dq rfl (q_byte (i := 10) (j := 0) rfl nagg_5 (fun _ h => h) rfl (by omega)) ?_
    refine dq rfl (q_convn (p := nb bs 10) rfl Tryz.underlying5 Tryz.underlying39 (show nb bs 10 < 18446744073709551616 by have := nb_lt bs 10; omega)) ?_
    refine dq rfl (q_indexK (b := b48) (i := 9) (sz := 1) rfl rfl Tryz.underlying25 size_39 (by decide)) ?_
    refine QL.nil ?_
    refine RG.step1 12 (by kernel_rfl) ?_
    refine dop rfl (l_store (b := b48) (off := 9) (j := 1) rfl rfl nagg_39 rfl rfl rfl rfl (dlt rfl) ⟨(fun _ h => (h.wk [(0, []), (1, [9, 10]), (2, [])] rfl)), ?_⟩)
    refine dtake (f := 1) [13] (by kernel_rfl) (St.closed _ _ _ _) (fun _ h => (h.wk [(0, []), (1, [9, 10]), (2, [])] rfl)) (by kernel_rfl) ?_
    refine dq rfl (q_indexK (b := b48) (i := 10) (sz := 1) rfl rfl Tryz.underlying25 size_39 (by decide)) ?_
    refine QL.nil ?_
    refine RG.step1 14 (by kernel_rfl) ?_
    refine dop rfl (l_store (b := b48) (off := 10) (j := 1) rfl rfl nagg_39 rfl rfl rfl rfl (dlt rfl) ⟨(fun _ h => (h.wk [(0, []), (1, [9, 10]), (2, [])] rfl)), ?_⟩)
    refine dend (by kernel_rfl) ?_
    refine eseq ?_
    refine HT.seq ?_
    refine HT.seq ?_
    refine HT.plain ?_
    refine sMv rfl rfl ?_
    refine sqS (q_and (p := nb bs 0) (q := 2) rfl rfl rfl (show nb bs 0 < 256 by have := nb_lt bs 0; omega) (by decide)) rfl ?_
    refine sqS (q_F (q_eq (p := (nb bs 0) &&& 2) (q := 0) rfl rfl) (by have := nb_lt bs 0; have := zb2 (nb bs 0); have := Nat.and_le_left (n := nb bs 0) (m := 2); have := Nat.and_le_right (n := nb bs 0) (m := 2); omega)) rfl ?_
    refine sMv rfl rfl ?_
    refine sgqS rfl (q_move rfl) rfl ?_
    refine sgqS rfl (q_and (p := nb bs 0) (q := 1) rfl rfl rfl (show nb bs 0 < 256 by have := nb_lt bs 0; omega) (by decide)) rfl ?_
    refine sgqS rfl (q_T (q_eq (p := (nb bs 0) &&& 1) (q := 0) rfl rfl) (by have := nb_lt bs 0; have := zm1 (nb bs 0); have := Nat.and_le_left (n := nb bs 0) (m := 1); have := Nat.and_le_right (n := nb bs 0) (m := 1); omega)) rfl ?_
    refine sqS (q_pick rfl (fun h => nomatch h) (fun _ => rfl)) rfl ?_
    refine send ?_
    refine eseq ?_
    refine HT.yes rfl ?_
    refine HT.seq ?_
    refine HT.plain ?_
    refine sqS (q_loadAgg (b := b6) (off := 0) (j := 2) (vs := [(.slice (some ⟨b48, 0, none⟩) 11 11), (.slice none 0 0), (.slice none 0 0), (.slice (cutA A c 8) (n - 8) (c - 8))]) rfl aggs_29 (fun _ h => h) rfl rfl rfl) rfl ?_
    refine sl_ (l_storeAgg (b := b2) (off := 0) (j := 0) (vs := [(.slice (some ⟨b48, 0, none⟩) 11 11), (.slice none 0 0), (.slice none 0 0), (.slice (cutA A c 8) (n - 8) (c - 8))]) rfl rfl aggs_29 (by simp [Value.one1]) rfl rfl rfl (Nat.le_of_ble_eq_true rfl) ?_)
    refine sAs rfl rfl ?_
    refine sAs rfl rfl ?_
    refine send ?_
    refine eseq ?_
    refine HT.ret ?_
    refine rt_then ?_
    exact fun a ha w' hw => fin_ ha (resc3 ha Tryz.results40 rfl (ld_ aggs_29 hw (j := 0) rfl rfl (vs := [(.slice (some ⟨b48, 0, none⟩) 11 11), (.slice none 0 0), (.slice none 0 0), (.slice (cutA A c 8) (n - 8) (c - 8))]) rfl) rfl rfl) ⟨b48, rfl, (hw.wk [(1, [])] rfl), fr0⟩
  · refine dop rfl (l_alloc (by decide) zero_29 fun b6 => ⟨(fun _ h => (h.wk [(0, [])] rfl)), ?_⟩)
    refine RG.step1 34 (by kernel_rfl) ?_
    refine dop rfl (l_buildSlice (e := 39) (vs := [(0, (.int .u64 (((nb bs 0) / 32 : Nat) : Int))), (1, (.int .u64 ((((nb bs 0) / 16) &&& 1 : Nat) : Int))), (2, (.int .u64 ((((nb bs 0) / 8) &&& 1 : Nat) : Int))), (3, (.int .u64 ((((nb bs 0) / 4) &&& 1 : Nat) : Int))), (4, (.int .u64 ((((nb bs 0) / 2) &&& 1 : Nat) : Int))), (5, (.int .u64 (((nb bs 0) &&& 1 : Nat) : Int))), (6, (.int .u64 ((nb bs 1 : Nat) : Int))), (7, (.int .u64 ((bN bs 2 2 : Nat) : Int))), (8, (.int .u64 ((bN bs 4 4 : Nat) : Int))), (9, (.int .u64 ((0 : Nat) : Int))), (10, (.int .u64 ((0 : Nat) : Int)))]) (cs := [(.int .u64 (((nb bs 0) / 32 : Nat) : Int)), (.int .u64 ((((nb bs 0) / 16) &&& 1 : Nat) : Int)), (.int .u64 ((((nb bs 0) / 8) &&& 1 : Nat) : Int)), (.int .u64 ((((nb bs 0) / 4) &&& 1 : Nat) : Int)), (.int .u64 ((((nb bs 0) / 2) &&& 1 : Nat) : Int)), (.int .u64 (((nb bs 0) &&& 1 : Nat) : Int)), (.int .u64 ((nb bs 1 : Nat) : Int)), (.int .u64 ((bN bs 2 2 : Nat) : Int)), (.int .u64 ((bN bs 4 4 : Nat) : Int)), (.int .u64 ((0 : Nat) : Int)), (.int .u64 ((0 : Nat) : Int))]) (by decide) rfl (fun _ => by kernel_rfl) fun b48 => ⟨(fun _ h => (h.wk [(0, [])] rfl)), ?_⟩)
    refine dtake (f := 1) [35] (by kernel_rfl) (St.closed _ _ _ _) (fun _ h => (h.wk [(0, [])] rfl)) (by kernel_rfl) ?_
    refine dq rfl (q_call (vs := [(.slice (cutA A c 8) (n - 8) (c - 8)), (.slice (some ⟨b48, 0, none⟩) 11 11)]) (v := (.agg #[(.slice (some ⟨b48, 0, none⟩) 11 11), (.slice none 0 0), (.slice none 0 0), (.slice (cutA A c 8) (n - 8) (c - 8))])) rfl ca_33 (fun w h => layerC w (cutA A c 8) (n - 8) (c - 8) (some ⟨b48, 0, none⟩) 11 11  (St.enter (sp := []) (Kc := []) (bi := []) h rfl rfl rfl))) ?_
    refine QL.nil ?_
    refine RG.step1 37 (by kernel_rfl) ?_
    refine dop rfl (l_storeAgg (b := b6) (off := 0) (j := 1) (vs := [(.slice (some ⟨b48, 0, none⟩) 11 11), (.slice none 0 0), (.slice none 0 0), (.slice (cutA A c 8) (n - 8) (c - 8))]) rfl rfl aggs_29 (by simp [Value.one1]) rfl rfl rfl (Nat.le_of_ble_eq_true rfl) ⟨(fun _ h => (h.wk [(0, [])] rfl)), ?_⟩)
    refine dend (by kernel_rfl) ?_
    refine eseq ?_
    refine HT.seq ?_
    refine HT.seq ?_
    refine HT.plain ?_
    refine sMv rfl rfl ?_
    refine sqS (q_slice (lo := 2) (hi := 4) rfl Tryz.underlying22 nagg_5 (.inr ⟨_, _, rfl, rfl⟩) (.inr ⟨_, _, rfl, rfl⟩) (by omega) (by omega)) rfl ?_
    refine sqS (q_call (vs := [(.slice (cutA A c 2) (4 - 2) (c - 2))]) (v := (.int .u64 ((bN bs 2 2 : Nat) : Int))) rfl ca_34 (fun w h => NumberC w A n c bs (lo := 2) (hi := 4) (h.fact (j := 0) rfl) (k := 2) rfl (by decide) (by omega) (by omega))) rfl ?_
    refine sqS (q_convn (p := bN bs 2 2) rfl Tryz.underlying39 Tryz.underlying3 (show bN bs 2 2 < 9223372036854775808 by have := bN_lt bs 2 2 65536 rfl; omega)) rfl ?_
    refine sAs rfl rfl ?_
    refine send ?_
    refine eseq ?_
    refine HT.seq ?_
    refine HT.plain ?_
    refine sMv rfl rfl ?_
    refine sMv rfl rfl ?_
    refine sqS (q_len (len := n) rfl Tryz.underlying22) rfl ?_
    refine sqS (q_sub (p := n) (q := 8) rfl rfl (by omega) (show n < 9223372036854775808 by omega)) rfl ?_
    refine sqS (q_F (q_gt (p := bN bs 2 2) (q := n - 8) rfl rfl) (by have := bN_lt bs 2 2 65536 rfl; omega)) rfl ?_
    refine send ?_
    refine eseq ?_
    refine HT.no rfl ?_
    refine HT.skip ?_
    refine eseq ?_
    refine HT.seq ?_
    refine HT.seq ?_
    refine HT.plain ?_
    refine sMv rfl rfl ?_
    refine sqS (q_and (p := nb bs 0) (q := 7) rfl rfl rfl (show nb bs 0 < 256 by have := nb_lt bs 0; omega) (by decide)) rfl ?_
    refine sqS (q_F (q_eq (p := (nb bs 0) &&& 7) (q := 0) rfl rfl) (by have := nb_lt bs 0; have := zm7 (nb bs 0); have := Nat.and_le_left (n := nb bs 0) (m := 7); have := Nat.and_le_right (n := nb bs 0) (m := 7); omega)) rfl ?_
    refine send ?_
    refine eseq ?_
    refine HT.no rfl ?_
    refine HT.skip ?_
    refine eseq ?_
    refine HT.seq ?_
    refine HT.seq ?_
    refine HT.plain ?_
    refine sMv rfl rfl ?_
    refine sqS (q_len (len := n) rfl Tryz.underlying22) rfl ?_
    refine sqS (q_F (q_lt (p := n) (q := 12) rfl rfl) (by omega)) rfl ?_
    refine sMv rfl rfl ?_
    refine sgqS rfl (q_move rfl) rfl ?_
    refine sgqS rfl (q_slice (lo := 2) (hi := 4) rfl Tryz.underlying22 nagg_5 (.inr ⟨_, _, rfl, rfl⟩) (.inr ⟨_, _, rfl, rfl⟩) (by omega) (by omega)) rfl ?_
    refine sgqS rfl (q_call (vs := [(.slice (cutA A c 2) (4 - 2) (c - 2))]) (v := (.int .u64 ((bN bs 2 2 : Nat) : Int))) rfl ca_34 (fun w h => NumberC w A n c bs (lo := 2) (hi := 4) (h.fact (j := 0) rfl) (k := 2) rfl (by decide) (by omega) (by omega))) rfl ?_
    refine sgqS rfl (q_F (q_lt (p := bN bs 2 2) (q := 4) rfl rfl) (by have := bN_lt bs 2 2 65536 rfl; omega)) rfl ?_
    refine sqS (q_pick rfl (fun h => nomatch h) (fun _ => rfl)) rfl ?_
    refine send ?_
    refine eseq ?_
    refine HT.no rfl ?_
    refine HT.skip ?_
    refine eseq ?_
    refine HT.seq ?_
    refine HT.drawn mixed (St.closed _ _ _ _) (St w [] [⟨b2, 29, [some (.slice none 0 0), some (.slice none 0 0), some (.slice none 0 0), some (.slice none 0 0)], true⟩, ⟨b6, 29, [some (.slice (some ⟨b48, 0, none⟩) 11 11), some (.slice none 0 0), some (.slice none 0 0), some (.slice (cutA A c 8) (n - 8) (c - 8))], true⟩, ⟨b48, 39, [some (.int .u64 (((nb bs 0) / 32 : Nat) : Int)), some (.int .u64 ((((nb bs 0) / 16) &&& 1 : Nat) : Int)), some (.int .u64 ((((nb bs 0) / 8) &&& 1 : Nat) : Int)), some (.int .u64 ((((nb bs 0) / 4) &&& 1 : Nat) : Int)), some (.int .u64 ((((nb bs 0) / 2) &&& 1 : Nat) : Int)), some (.int .u64 (((nb bs 0) &&& 1 : Nat) : Int)), some (.int .u64 ((nb bs 1 : Nat) : Int)), some (.int .u64 ((bN bs 2 2 : Nat) : Int)), some (.int .u64 ((bN bs 4 4 : Nat) : Int)), none, none], true⟩] [Byt A n c bs]) ?_
    refine dtake (f := 3) [0, 1, 2, 3, 4, 5, 6, 7, 8, 9, 10, 11] (by kernel_rfl) (St.closed _ _ _ _) (fun _ h => (h.wk [(0, []), (1, []), (2, [9, 10])] rfl)) (by kernel_rfl) ?_
    refine dq rfl (q_field (b := b6) (off := 0) rfl fo_29_0) ?_
    refine dq rfl (q_load (b := b6) (off := 0) (j := 1) rfl nagg_25 (fun _ h => h) rfl rfl rfl) ?_
    refine dq rfl (q_field (b := b6) (off := 0) rfl fo_29_0) ?_
    refine dq rfl (q_load (b := b6) (off := 0) (j := 1) rfl nagg_25 (fun _ h => h) rfl rfl rfl) ?_
    refine dq rfl (q_move rfl) ?_
    refine dq rfl (q_slice (lo := 8) (hi := 10) rfl Tryz.underlying22 nagg_5 (.inr ⟨_, _, rfl, rfl⟩) (.inr ⟨_, _, rfl, rfl⟩) (by omega) (by omega)) ?_
    refine dq rfl (q_call (vs := [(.slice (cutA A c 8) (10 - 8) (c - 8))]) (v := (.int .u64 ((bN bs 8 2 : Nat) : Int))) rfl ca_34 (fun w h => NumberC w A n c bs (lo := 8) (hi := 10) (h.fact (j := 0) rfl) (k := 2) rfl (by decide) (by omega) (by omega))) ?_
    refine dq rfl (q_move rfl) ?_
    refine dq rfl (q_index (i := 10) (j := 0) rfl rfl Tryz.underlying22 nagg_5 (fun _ h => h) rfl (by omega)) ?_
    refine dq rfl (q_byte (i := 10) (j := 0) rfl nagg_5 (fun _ h => h) rfl (by omega)) ?_
    refine dq rfl (q_convn (p := nb bs 10) rfl Tryz.underlying5 Tryz.underlying39 (show nb bs 10 < 18446744073709551616 by have := nb_lt bs 10; omega)) ?_
    refine dq rfl (q_indexK (b := b48) (i := 9) (sz := 1) rfl rfl Tryz.underlying25 size_39 (by decide)) ?_
    refine QL.nil ?_
    refine RG.step1 12 (by kernel_rfl) ?_
    refine dop rfl (l_store (b := b48) (off := 9) (j := 2) rfl rfl nagg_39 rfl rfl rfl rfl (dlt rfl) ⟨(fun _ h => (h.wk [(0, []), (1, []), (2, [9, 10])] rfl)), ?_⟩)
    refine dtake (f := 1) [13] (by kernel_rfl) (St.closed _ _ _ _) (fun _ h => (h.wk [(0, []), (1, []), (2, [9, 10])] rfl)) (by kernel_rfl) ?_
    refine dq rfl (q_indexK (b := b48) (i := 10) (sz := 1) rfl rfl Tryz.underlying25 size_39 (by decide)) ?_
    refine QL.nil ?_
    refine RG.step1 14 (by kernel_rfl) ?_
    refine dop rfl (l_store (b := b48) (off := 10) (j := 2) rfl rfl nagg_39 rfl rfl rfl rfl (dlt rfl) ⟨(fun _ h => (h.wk [(0, []), (1, []), (2, [9, 10])] rfl)), ?_⟩)
    refine dend (by kernel_rfl) ?_
    refine eseq ?_
    refine HT.seq ?_
    refine HT.seq ?_
    refine HT.plain ?_
    refine sMv rfl rfl ?_
    refine sqS (q_and (p := nb bs 0) (q := 2) rfl rfl rfl (show nb bs 0 < 256 by have := nb_lt bs 0; omega) (by decide)) rfl ?_
    refine sqS (q_F (q_eq (p := (nb bs 0) &&& 2) (q := 0) rfl rfl) (by have := nb_lt bs 0; have := zb2 (nb bs 0); have := Nat.and_le_left (n := nb bs 0) (m := 2); have := Nat.and_le_right (n := nb bs 0) (m := 2); omega)) rfl ?_
    refine sMv rfl rfl ?_
    refine sgqS rfl (q_move rfl) rfl ?_
    refine sgqS rfl (q_and (p := nb bs 0) (q := 1) rfl rfl rfl (show nb bs 0 < 256 by have := nb_lt bs 0; omega) (by decide)) rfl ?_
    refine sgqS rfl (q_T (q_eq (p := (nb bs 0) &&& 1) (q := 0) rfl rfl) (by have := nb_lt bs 0; have := zm1 (nb bs 0); have := Nat.and_le_left (n := nb bs 0) (m := 1); have := Nat.and_le_right (n := nb bs 0) (m := 1); omega)) rfl ?_
    refine sqS (q_pick rfl (fun h => nomatch h) (fun _ => rfl)) rfl ?_
    refine send ?_
    refine eseq ?_
    refine HT.yes rfl ?_
    refine HT.seq ?_
    refine HT.plain ?_
    refine sqS (q_loadAgg (b := b6) (off := 0) (j := 1) (vs := [(.slice (some ⟨b48, 0, none⟩) 11 11), (.slice none 0 0), (.slice none 0 0), (.slice (cutA A c 8) (n - 8) (c - 8))]) rfl aggs_29 (fun _ h => h) rfl rfl rfl) rfl ?_
    refine sl_ (l_storeAgg (b := b2) (off := 0) (j := 0) (vs := [(.slice (some ⟨b48, 0, none⟩) 11 11), (.slice none 0 0), (.slice none 0 0), (.slice (cutA A c 8) (n - 8) (c - 8))]) rfl rfl aggs_29 (by simp [Value.one1]) rfl rfl rfl (Nat.le_of_ble_eq_true rfl) ?_)
    refine sAs rfl rfl ?_
    refine sAs rfl rfl ?_
    refine send ?_
    refine eseq ?_
    refine HT.ret ?_
    refine rt_then ?_
    exact fun a ha w' hw => fin_ ha (resc3 ha Tryz.results40 rfl (ld_ aggs_29 hw (j := 0) rfl rfl (vs := [(.slice (some ⟨b48, 0, none⟩) 11 11), (.slice none 0 0), (.slice none 0 0), (.slice (cutA A c 8) (n - 8) (c - 8))]) rfl) rfl rfl) ⟨b48, rfl, (hw.wk [(2, [])] rfl), fr0⟩

theorem gtp_S10 (w : World) (A : Option Addr) (n : Nat) (c : Nat) (bs : List UInt8) (hn : n ≤ 2147483647) (ha : 8 ≤ n) (hb : bN bs 2 2 ≤ n - 8) (hc : nb bs 0 % 8 ≠ 0) (hd : 12 ≤ n) (he : 4 ≤ bN bs 2 2) (hf : nb bs 0 / 2 % 2 = 1) (hg : nb bs 0 % 2 = 0) (hst : St w [] [] [Byt A n c bs] w) : Calls Tryz.prog 26 #[(.string ⟨#[103, 116, 112]⟩), (.slice A n c)] w (SP w (Byt A n c bs) none) := by
  have hnc00 : n ≤ c := (hst.fact (j := 0) rfl).2.1
  refine enter (vs := [(.string ⟨#[103, 116, 112]⟩), (.slice A n c)]) Tryz.func26 rfl rfl rfl hst ?_
  refine HT.seq ?_
  refine HT.plain ?_
  refine sl_ (l_alloc (by decide) zero_29 fun b4 => ?_)
  refine sAs rfl rfl ?_
  refine sAs rfl rfl ?_
  refine send ?_
  refine eseq ?_
  refine HT.seq ?_
  refine HT.plain ?_
  refine sl_ (l_makeMap (by decide) fun b13 => ?_)
  refine sl_ (l_insert (es := es0) (ck := 0) rfl rfl rfl Tryz.underlying36 Tryz.underlying9 fi0 ?_)
  refine sl_ (l_insert (es := es1) (ck := 1) rfl rfl rfl Tryz.underlying36 Tryz.underlying9 fi1 ?_)
  refine sl_ (l_insert (es := es2) (ck := 2) rfl rfl rfl Tryz.underlying36 Tryz.underlying9 fi2 ?_)
  refine sl_ (l_insert (es := es3) (ck := 3) rfl rfl rfl Tryz.underlying36 Tryz.underlying9 fi3 ?_)
  refine sl_ (l_insert (es := es4) (ck := 4) rfl rfl rfl Tryz.underlying36 Tryz.underlying9 fi4 ?_)
  refine sl_ (l_insert (es := es5) (ck := 5) rfl rfl rfl Tryz.underlying36 Tryz.underlying9 fi5 ?_)
  refine sl_ (l_insert (es := es6) (ck := 6) rfl rfl rfl Tryz.underlying36 Tryz.underlying9 fi6 ?_)
  refine sl_ (l_insert (es := es7) (ck := 7) rfl rfl rfl Tryz.underlying36 Tryz.underlying9 fi7 ?_)
  refine sl_ (l_insert (es := es8) (ck := 8) rfl rfl rfl Tryz.underlying36 Tryz.underlying9 fi8 ?_)
  refine sl_ (l_insert (es := es9) (ck := 9) rfl rfl rfl Tryz.underlying36 Tryz.underlying9 fi9 ?_)
  refine sl_ (l_insert (es := es10) (ck := 10) rfl rfl rfl Tryz.underlying36 Tryz.underlying9 fi10 ?_)
  refine sl_ (l_insert (es := es11) (ck := 11) rfl rfl rfl Tryz.underlying36 Tryz.underlying9 fi11 ?_)
  refine sl_ (l_insert (es := es12) (ck := 12) rfl rfl rfl Tryz.underlying36 Tryz.underlying9 fi12 ?_)
  refine sl_ (l_insert (es := es13) (ck := 13) rfl rfl rfl Tryz.underlying36 Tryz.underlying9 fi13 ?_)
  refine sl_ (l_insert (es := es14) (ck := 14) rfl rfl rfl Tryz.underlying36 Tryz.underlying9 fi14 ?_)
  refine sl_ (l_insert (es := es15) (ck := 15) rfl rfl rfl Tryz.underlying36 Tryz.underlying9 fi15 ?_)
  refine sl_ (l_insert (es := es16) (ck := 16) rfl rfl rfl Tryz.underlying36 Tryz.underlying9 fi16 ?_)
  refine sl_ (l_insert (es := es17) (ck := 17) rfl rfl rfl Tryz.underlying36 Tryz.underlying9 fi17 ?_)
  refine sl_ (l_insert (es := es18) (ck := 18) rfl rfl rfl Tryz.underlying36 Tryz.underlying9 fi18 ?_)
  refine sl_ (l_insert (es := es19) (ck := 19) rfl rfl rfl Tryz.underlying36 Tryz.underlying9 fi19 ?_)
  refine sl_ (l_insert (es := es20) (ck := 20) rfl rfl rfl Tryz.underlying36 Tryz.underlying9 fi20 ?_)
  refine sq (SM.closed) (q_move rfl) rfl ?_
  refine sq (SM.closed) (q_move rfl) rfl ?_
  refine sq (SM.closed) (q_lookup (es := es21) (i := 11) (v := (.int .i64 ((8 : Nat) : Int))) (fun _ h => h) rfl rfl Tryz.underlying36 Tryz.underlying9 (by kernel_rfl)) rfl ?_
  refine sq (SM.closed) (q_assign rfl) rfl ?_
  refine send ?_
  refine eseq ?_
  refine HT.unmap ?_
  refine HT.seq ?_
  refine HT.seq ?_
  refine HT.plain ?_
  refine sMv rfl rfl ?_
  refine sqS (q_len (len := n) rfl Tryz.underlying22) rfl ?_
  refine sMv rfl rfl ?_
  refine sqS (q_F (q_lt (p := n) (q := 8) rfl rfl) (by omega)) rfl ?_
  refine send ?_
  refine eseq ?_
  refine HT.no rfl ?_
  refine HT.skip ?_
  refine eseq ?_
  refine HT.seq ?_
  refine HT.seq ?_
  refine HT.plain ?_
  refine sMv rfl rfl ?_
  refine send ?_
  refine eseq ?_
  refine HT.block ?_
  refine HT.seq ?_
  refine HT.plain ?_
  refine sqS (q_eqs rfl rfl (r := false) (by kernel_rfl)) rfl ?_
  refine sAs rfl rfl ?_
  refine send ?_
  refine eseq ?_
  refine HT.no rfl ?_
  refine HT.seq ?_
  refine HT.plain ?_
  refine sqS (q_eqs rfl rfl (r := false) (by kernel_rfl)) rfl ?_
  refine sAs rfl rfl ?_
  refine send ?_
  refine eseq ?_
  refine HT.no rfl ?_
  refine HT.seq ?_
  refine HT.plain ?_
  refine sqS (q_eqs rfl rfl (r := false) (by kernel_rfl)) rfl ?_
  refine sAs rfl rfl ?_
  refine send ?_
  refine eseq ?_
  refine HT.no rfl ?_
  refine HT.seq ?_
  refine HT.plain ?_
  refine sqS (q_eqs rfl rfl (r := false) (by kernel_rfl)) rfl ?_
  refine sAs rfl rfl ?_
  refine send ?_
  refine eseq ?_
  refine HT.no rfl ?_
  refine HT.seq ?_
  refine HT.plain ?_
  refine sqS (q_eqs rfl rfl (r := false) (by kernel_rfl)) rfl ?_
  refine sAs rfl rfl ?_
  refine send ?_
  refine eseq ?_
  refine HT.no rfl ?_
  refine HT.seq ?_
  refine HT.plain ?_
  refine sqS (q_eqs rfl rfl (r := false) (by kernel_rfl)) rfl ?_
  refine sAs rfl rfl ?_
  refine send ?_
  refine eseq ?_
  refine HT.no rfl ?_
  refine HT.seq ?_
  refine HT.plain ?_
  refine sqS (q_eqs rfl rfl (r := false) (by kernel_rfl)) rfl ?_
  refine sAs rfl rfl ?_
  refine send ?_
  refine eseq ?_
  refine HT.no rfl ?_
  refine HT.seq ?_
  refine HT.plain ?_
  refine sqS (q_eqs rfl rfl (r := false) (by kernel_rfl)) rfl ?_
  refine sAs rfl rfl ?_
  refine send ?_
  refine eseq ?_
  refine HT.no rfl ?_
  refine HT.seq ?_
  refine HT.plain ?_
  refine sqS (q_eqs rfl rfl (r := false) (by kernel_rfl)) rfl ?_
  refine sAs rfl rfl ?_
  refine send ?_
  refine eseq ?_
  refine HT.no rfl ?_
  refine HT.seq ?_
  refine HT.plain ?_
  refine sqS (q_eqs rfl rfl (r := false) (by kernel_rfl)) rfl ?_
  refine sAs rfl rfl ?_
  refine send ?_
  refine eseq ?_
  refine HT.no rfl ?_
  refine HT.seq ?_
  refine HT.plain ?_
  refine sqS (q_eqs rfl rfl (r := false) (by kernel_rfl)) rfl ?_
  refine sAs rfl rfl ?_
  refine send ?_
  refine eseq ?_
  refine HT.no rfl ?_
  refine HT.seq ?_
  refine HT.plain ?_
  refine sqS (q_eqs rfl rfl (r := true) (by kernel_rfl)) rfl ?_
  refine sAs rfl rfl ?_
  refine send ?_
  refine eseq ?_
  refine HT.yes rfl ?_
  refine HT.seq ?_
  refine HT.plain ?_
  refine sMv rfl rfl ?_
  refine sl_ (l_callX1 (vs := [(.slice A n c)]) (Kc := []) (Bc := [Byt A n c bs]) [] [0] [Byt A n c bs] (fun b48 => [⟨b4, 29, [some (.slice none 0 0), some (.slice none 0 0), some (.slice none 0 0), some (.slice none 0 0)], true⟩, ⟨b48, 39, [some (.int .u64 (((nb bs 0) / 32 : Nat) : Int)), some (.int .u64 ((((nb bs 0) / 16) &&& 1 : Nat) : Int)), some (.int .u64 ((((nb bs 0) / 8) &&& 1 : Nat) : Int)), some (.int .u64 ((((nb bs 0) / 4) &&& 1 : Nat) : Int)), some (.int .u64 ((((nb bs 0) / 2) &&& 1 : Nat) : Int)), some (.int .u64 (((nb bs 0) &&& 1 : Nat) : Int)), some (.int .u64 ((nb bs 1 : Nat) : Int)), some (.int .u64 ((bN bs 2 2 : Nat) : Int)), some (.int .u64 ((bN bs 4 4 : Nat) : Int)), some (.int .u64 ((bN bs 8 2 : Nat) : Int)), some (.int .u64 ((nb bs 10 : Nat) : Int))], true⟩]) (fun b48 => [Byt A n c bs]) (by decide) rfl ca_40 (fun _ h => h) rfl rfl rfl rfl (fun w h => gtp_s10 w A n c bs (by omega) (by omega) (by omega) (by omega) (by omega) (by omega) (by omega) (by omega) h) (fun _ => rfl) (fun _ => rfl) (fun _ => rfl) (fun _ => rfl) fun b48 hf1 he2 => ?_)
  refine sqS (q_extract (vs := [(.agg #[(.slice (some ⟨b48, 0, none⟩) 11 11), (.slice none 0 0), (.slice none 0 0), (.slice (cutA A c 8) (n - 8) (c - 8))]), (.bool true), (.bool false)]) (i := 0) rfl rfl) rfl ?_
  refine sqS (q_extract (vs := [(.agg #[(.slice (some ⟨b48, 0, none⟩) 11 11), (.slice none 0 0), (.slice none 0 0), (.slice (cutA A c 8) (n - 8) (c - 8))]), (.bool true), (.bool false)]) (i := 1) rfl rfl) rfl ?_
  refine sqS (q_extract (vs := [(.agg #[(.slice (some ⟨b48, 0, none⟩) 11 11), (.slice none 0 0), (.slice none 0 0), (.slice (cutA A c 8) (n - 8) (c - 8))]), (.bool true), (.bool false)]) (i := 2) rfl rfl) rfl ?_
  refine sl_ (l_storeAgg (b := b4) (off := 0) (j := 0) (vs := [(.slice (some ⟨b48, 0, none⟩) 11 11), (.slice none 0 0), (.slice none 0 0), (.slice (cutA A c 8) (n - 8) (c - 8))]) rfl rfl aggs_29 (by simp [Value.one1]) rfl rfl rfl (Nat.le_of_ble_eq_true rfl) ?_)
  refine sAs rfl rfl ?_
  refine sAs rfl rfl ?_
  refine send ?_
  refine eseq ?_
  refine HT.ret ?_
  refine rt_in ?_
  refine rt_then ?_
  exact fun a ha w' hw => fin_ ha (resc3 ha Tryz.results26 rfl (ld_ aggs_29 hw (j := 0) rfl rfl (vs := [(.slice (some ⟨b48, 0, none⟩) 11 11), (.slice none 0 0), (.slice none 0 0), (.slice (cutA A c 8) (n - 8) (c - 8))]) rfl) rfl rfl) ⟨⟨(some ⟨b48, 0, none⟩), 11, 11, []⟩, ⟨none, 0, 0, []⟩, ⟨none, 0, 0, []⟩, ⟨cutA A c 8, n - 8, c - 8, []⟩, true, rfl, hw.pres⟩

abbrev gtp_s11_k0 (b48 : Nat) (bs : List UInt8) : Kb := ⟨b48, 39, [some (.int .u64 (((nb bs 0) / 32 : Nat) : Int)), some (.int .u64 ((((nb bs 0) / 16) &&& 1 : Nat) : Int)), some (.int .u64 ((((nb bs 0) / 8) &&& 1 : Nat) : Int)), some (.int .u64 ((((nb bs 0) / 4) &&& 1 : Nat) : Int)), some (.int .u64 ((((nb bs 0) / 2) &&& 1 : Nat) : Int)), some (.int .u64 (((nb bs 0) &&& 1 : Nat) : Int)), some (.int .u64 ((nb bs 1 : Nat) : Int)), some (.int .u64 ((bN bs 2 2 : Nat) : Int)), some (.int .u64 ((bN bs 4 4 : Nat) : Int)), some (.int .u64 ((bN bs 8 2 : Nat) : Int)), some (.int .u64 ((nb bs 10 : Nat) : Int))], true⟩
abbrev gtp_s11_k1 (b6 : Nat) (b48 : Nat) (A : Option Addr) (c : Nat) (n : Nat) : Kb := ⟨b6, 29, [some (.slice (some ⟨b48, 0, none⟩) 11 11), some (.slice none 0 0), some (.slice none 0 0), some (.slice (cutA A c 8) (n - 8) (c - 8))], true⟩
abbrev gtp_s11_k2 (b2 : Nat) : Kb := ⟨b2, 29, [some (.slice none 0 0), some (.slice none 0 0), some (.slice none 0 0), some (.slice none 0 0)], true⟩

theorem gtp_s11 (w : World) (A : Option Addr) (n : Nat) (c : Nat) (bs : List UInt8) (hn : n ≤ 2147483647) (ha : 8 ≤ n) (hb : bN bs 2 2 ≤ n - 8) (hc : 12 ≤ n) (hd : 4 ≤ bN bs 2 2) (he : nb bs 0 % 8 = 3) (hst : St w [] [] [Byt A n c bs] w) : Calls Tryz.prog 40 #[(.slice A n c)] w (CP1 w [] [Byt A n c bs] (fun b48 => (.tuple #[(.agg #[(.slice (some ⟨b48, 0, none⟩) 11 11), (.slice none 0 0), (.slice none 0 0), (.slice (cutA A c 12) (n - 12) (c - 12))]), (.bool true), (.bool true)])) (fun b48 => [(gtp_s11_k0 b48 bs)]) (fun b48 => [])) := by
  have hnc00 : n ≤ c := (hst.fact (j := 0) rfl).2.1
  refine enter (vs := [(.slice A n c)]) Tryz.func40 rfl rfl rfl hst ?_
  refine HT.seq ?_
  refine HT.plain ?_
  refine sl_ (l_alloc (by decide) zero_29 fun b2 => ?_)
  refine sAs rfl rfl ?_
  refine sAs rfl rfl ?_
  refine send ?_
  refine eseq ?_
  refine HT.seq ?_
  refine HT.plain ?_
  refine sMv rfl rfl ?_
  refine sqS (q_index (i := 0) (j := 0) rfl rfl Tryz.underlying22 nagg_5 (fun _ h => h) rfl (by omega)) rfl ?_
  refine sqS (q_byte (i := 0) (j := 0) rfl nagg_5 (fun _ h => h) rfl (by omega)) rfl ?_
  refine sAs rfl rfl ?_
  refine send ?_
  refine eseq ?_
  refine HT.seq ?_
  refine HT.drawnS mixed (St.closed _ _ _ _) ?_
  refine dtake (f := 4) [0, 1, 2, 3, 4, 5, 6, 7, 8, 9, 10, 11, 12, 13, 14, 15, 16, 17, 18, 19, 20, 21, 22, 23, 24, 25, 26, 27, 28, 29, 30, 31, 32, 33] (by kernel_rfl) (St.closed _ _ _ _) (fun _ h => h) (by kernel_rfl) ?_
  refine dq rfl (q_move rfl) ?_
  refine dq rfl (q_slice (lo := 8) (hi := n) rfl Tryz.underlying22 nagg_5 (.inr ⟨_, _, rfl, rfl⟩) (.inl ⟨rfl, rfl⟩) (by omega) (by omega)) ?_
  refine dq rfl (q_move rfl) ?_
  refine dq rfl (q_shr (p := nb bs 0) (e := 5) (N := 32) rfl rfl (by decide) rfl) ?_
  refine dq rfl (q_convn (p := (nb bs 0) / 32) rfl Tryz.underlying5 Tryz.underlying39 (show (nb bs 0) / 32 < 18446744073709551616 by have := nb_lt bs 0; omega)) ?_
  refine dq rfl (q_move rfl) ?_
  refine dq rfl (q_shr (p := nb bs 0) (e := 4) (N := 16) rfl rfl (by decide) rfl) ?_
  refine dq rfl (q_and (p := (nb bs 0) / 16) (q := 1) rfl rfl rfl (show (nb bs 0) / 16 < 256 by have := nb_lt bs 0; omega) (by decide)) ?_
  refine dq rfl (q_convn (p := ((nb bs 0) / 16) &&& 1) rfl Tryz.underlying5 Tryz.underlying39 (show ((nb bs 0) / 16) &&& 1 < 18446744073709551616 by have := nb_lt bs 0; have := zm1 ((nb bs 0) / 16); have := Nat.and_le_left (n := (nb bs 0) / 16) (m := 1); have := Nat.and_le_right (n := (nb bs 0) / 16) (m := 1); omega)) ?_
  refine dq rfl (q_move rfl) ?_
  refine dq rfl (q_shr (p := nb bs 0) (e := 3) (N := 8) rfl rfl (by decide) rfl) ?_
  refine dq rfl (q_and (p := (nb bs 0) / 8) (q := 1) rfl rfl rfl (show (nb bs 0) / 8 < 256 by have := nb_lt bs 0; omega) (by decide)) ?_
  refine dq rfl (q_convn (p := ((nb bs 0) / 8) &&& 1) rfl Tryz.underlying5 Tryz.underlying39 (show ((nb bs 0) / 8) &&& 1 < 18446744073709551616 by have := nb_lt bs 0; have := zm1 ((nb bs 0) / 8); have := Nat.and_le_left (n := (nb bs 0) / 8) (m := 1); have := Nat.and_le_right (n := (nb bs 0) / 8) (m := 1); omega)) ?_
  refine dq rfl (q_move rfl) ?_
  refine dq rfl (q_shr (p := nb bs 0) (e := 2) (N := 4) rfl rfl (by decide) rfl) ?_
  refine dq rfl (q_and (p := (nb bs 0) / 4) (q := 1) rfl rfl rfl (show (nb bs 0) / 4 < 256 by have := nb_lt bs 0; omega) (by decide)) ?_
  refine dq rfl (q_convn (p := ((nb bs 0) / 4) &&& 1) rfl Tryz.underlying5 Tryz.underlying39 (show ((nb bs 0) / 4) &&& 1 < 18446744073709551616 by have := nb_lt bs 0; have := zm1 ((nb bs 0) / 4); have := Nat.and_le_left (n := (nb bs 0) / 4) (m := 1); have := Nat.and_le_right (n := (nb bs 0) / 4) (m := 1); omega)) ?_
  refine dq rfl (q_move rfl) ?_
  refine dq rfl (q_shr (p := nb bs 0) (e := 1) (N := 2) rfl rfl (by decide) rfl) ?_
  refine dq rfl (q_and (p := (nb bs 0) / 2) (q := 1) rfl rfl rfl (show (nb bs 0) / 2 < 256 by have := nb_lt bs 0; omega) (by decide)) ?_
  refine dq rfl (q_convn (p := ((nb bs 0) / 2) &&& 1) rfl Tryz.underlying5 Tryz.underlying39 (show ((nb bs 0) / 2) &&& 1 < 18446744073709551616 by have := nb_lt bs 0; have := zm1 ((nb bs 0) / 2); have := Nat.and_le_left (n := (nb bs 0) / 2) (m := 1); have := Nat.and_le_right (n := (nb bs 0) / 2) (m := 1); omega)) ?_
  refine dq rfl (q_move rfl) ?_
  refine dq rfl (q_and (p := nb bs 0) (q := 1) rfl rfl rfl (show nb bs 0 < 256 by have := nb_lt bs 0; omega) (by decide)) ?_
  refine dq rfl (q_convn (p := (nb bs 0) &&& 1) rfl Tryz.underlying5 Tryz.underlying39 (show (nb bs 0) &&& 1 < 18446744073709551616 by have := nb_lt bs 0; have := zm1 (nb bs 0); have := Nat.and_le_left (n := nb bs 0) (m := 1); have := Nat.and_le_right (n := nb bs 0) (m := 1); omega)) ?_
  refine dq rfl (q_move rfl) ?_
  refine dq rfl (q_index (i := 1) (j := 0) rfl rfl Tryz.underlying22 nagg_5 (fun _ h => h) rfl (by omega)) ?_
  refine dq rfl (q_byte (i := 1) (j := 0) rfl nagg_5 (fun _ h => h) rfl (by omega)) ?_
  refine dq rfl (q_convn (p := nb bs 1) rfl Tryz.underlying5 Tryz.underlying39 (show nb bs 1 < 18446744073709551616 by have := nb_lt bs 1; omega)) ?_
  refine dq rfl (q_move rfl) ?_
  refine dq rfl (q_slice (lo := 2) (hi := 4) rfl Tryz.underlying22 nagg_5 (.inr ⟨_, _, rfl, rfl⟩) (.inr ⟨_, _, rfl, rfl⟩) (by omega) (by omega)) ?_
  refine dq rfl (q_call (vs := [(.slice (cutA A c 2) (4 - 2) (c - 2))]) (v := (.int .u64 ((bN bs 2 2 : Nat) : Int))) rfl ca_34 (fun w h => NumberC w A n c bs (lo := 2) (hi := 4) (h.fact (j := 0) rfl) (k := 2) rfl (by decide) (by omega) (by omega))) ?_
  refine dq rfl (q_move rfl) ?_
  refine dq rfl (q_slice (lo := 4) (hi := 8) rfl Tryz.underlying22 nagg_5 (.inr ⟨_, _, rfl, rfl⟩) (.inr ⟨_, _, rfl, rfl⟩) (by omega) (by omega)) ?_
  refine dq rfl (q_call (vs := [(.slice (cutA A c 4) (8 - 4) (c - 4))]) (v := (.int .u64 ((bN bs 4 4 : Nat) : Int))) rfl ca_34 (fun w h => NumberC w A n c bs (lo := 4) (hi := 8) (h.fact (j := 0) rfl) (k := 4) rfl (by decide) (by omega) (by omega))) ?_
  refine QL.nil ?_
  refine RG.step2 34 36 (by kernel_rfl) ?_ ?_
  · refine dop rfl (l_buildSlice (e := 39) (vs := [(0, (.int .u64 (((nb bs 0) / 32 : Nat) : Int))), (1, (.int .u64 ((((nb bs 0) / 16) &&& 1 : Nat) : Int))), (2, (.int .u64 ((((nb bs 0) / 8) &&& 1 : Nat) : Int))), (3, (.int .u64 ((((nb bs 0) / 4) &&& 1 : Nat) : Int))), (4, (.int .u64 ((((nb bs 0) / 2) &&& 1 : Nat) : Int))), (5, (.int .u64 (((nb bs 0) &&& 1 : Nat) : Int))), (6, (.int .u64 ((nb bs 1 : Nat) : Int))), (7, (.int .u64 ((bN bs 2 2 : Nat) : Int))), (8, (.int .u64 ((bN bs 4 4 : Nat) : Int))), (9, (.int .u64 ((0 : Nat) : Int))), (10, (.int .u64 ((0 : Nat) : Int)))]) (cs := [(.int .u64 (((nb bs 0) / 32 : Nat) : Int)), (.int .u64 ((((nb bs 0) / 16) &&& 1 : Nat) : Int)), (.int .u64 ((((nb bs 0) / 8) &&& 1 : Nat) : Int)), (.int .u64 ((((nb bs 0) / 4) &&& 1 : Nat) : Int)), (.int .u64 ((((nb bs 0) / 2) &&& 1 : Nat) : Int)), (.int .u64 (((nb bs 0) &&& 1 : Nat) : Int)), (.int .u64 ((nb bs 1 : Nat) : Int)), (.int .u64 ((bN bs 2 2 : Nat) : Int)), (.int .u64 ((bN bs 4 4 : Nat) : Int)), (.int .u64 ((0 : Nat) : Int)), (.int .u64 ((0 : Nat) : Int))]) (by decide) rfl (fun _ => by kernel_rfl) fun b48 => ⟨(fun _ h => (h.wk [(0, [])] rfl)), ?_⟩)
    refine dtake (f := 2) [35] (by kernel_rfl) (St.closed _ _ _ _) (fun _ h => (h.wk [(0, [])] rfl)) (by kernel_rfl) ?_
    refine dq rfl (q_call (vs := [(.slice (cutA A c 8) (n - 8) (c - 8)), (.slice (some ⟨b48, 0, none⟩) 11 11)]) (v := (.agg #[(.slice (some ⟨b48, 0, none⟩) 11 11), (.slice none 0 0), (.slice none 0 0), (.slice (cutA A c 8) (n - 8) (c - 8))])) rfl ca_33 (fun w h => layerC w (cutA A c 8) (n - 8) (c - 8) (some ⟨b48, 0, none⟩) 11 11  (St.enter (sp := []) (Kc := []) (bi := []) h rfl rfl rfl))) ?_
    refine QL.nil ?_
    refine RG.step1 36 (by kernel_rfl) ?_
    refine dop rfl (l_alloc (by decide) zero_29 fun b6 => ⟨(fun _ h => (h.wk [(0, [])] rfl)), ?_⟩)
    refine RG.step1 37 (by kernel_rfl) ?_
    refine dop rfl (l_storeAgg (b := b6) (off := 0) (j := 2) (vs := [(.slice (some ⟨b48, 0, none⟩) 11 11), (.slice none 0 0), (.slice none 0 0), (.slice (cutA A c 8) (n - 8) (c - 8))]) rfl rfl aggs_29 (by simp [Value.one1]) rfl rfl rfl (Nat.le_of_ble_eq_true rfl) ⟨(fun _ h => (h.wk [(0, [])] rfl)), ?_⟩)
    refine dend (by kernel_rfl) ?_
    refine eseq ?_
    refine HT.seq ?_
    refine HT.seq ?_
    refine HT.plain ?_
    refine sMv rfl rfl ?_
    refine sqS (q_slice (lo := 2) (hi := 4) rfl Tryz.underlying22 nagg_5 (.inr ⟨_, _, rfl, rfl⟩) (.inr ⟨_, _, rfl, rfl⟩) (by omega) (by omega)) rfl ?_
    refine sqS (q_call (vs := [(.slice (cutA A c 2) (4 - 2) (c - 2))]) (v := (.int .u64 ((bN bs 2 2 : Nat) : Int))) rfl ca_34 (fun w h => NumberC w A n c bs (lo := 2) (hi := 4) (h.fact (j := 0) rfl) (k := 2) rfl (by decide) (by omega) (by omega))) rfl ?_
    refine sqS (q_convn (p := bN bs 2 2) rfl Tryz.underlying39 Tryz.underlying3 (show bN bs 2 2 < 9223372036854775808 by have := bN_lt bs 2 2 65536 rfl; omega)) rfl ?_
    refine sAs rfl rfl ?_
    refine send ?_
    refine eseq ?_
    refine HT.seq ?_
    refine HT.plain ?_
    refine sMv rfl rfl ?_
    refine sMv rfl rfl ?_
    refine sqS (q_len (len := n) rfl Tryz.underlying22) rfl ?_
    refine sqS (q_sub (p := n) (q := 8) rfl rfl (by omega) (show n < 9223372036854775808 by omega)) rfl ?_
    refine sqS (q_F (q_gt (p := bN bs 2 2) (q := n - 8) rfl rfl) (by have := bN_lt bs 2 2 65536 rfl; omega)) rfl ?_
    refine send ?_
    refine eseq ?_
    refine HT.no rfl ?_
    refine HT.skip ?_
    refine eseq ?_
    refine HT.seq ?_
    refine HT.seq ?_
    refine HT.plain ?_
    refine sMv rfl rfl ?_
    refine sqS (q_and (p := nb bs 0) (q := 7) rfl rfl rfl (show nb bs 0 < 256 by have := nb_lt bs 0; omega) (by decide)) rfl ?_
    refine sqS (q_F (q_eq (p := (nb bs 0) &&& 7) (q := 0) rfl rfl) (by have := nb_lt bs 0; have := zm7 (nb bs 0); have := Nat.and_le_left (n := nb bs 0) (m := 7); have := Nat.and_le_right (n := nb bs 0) (m := 7); omega)) rfl ?_
    refine send ?_
    refine eseq ?_
    refine HT.no rfl ?_
    refine HT.skip ?_
    refine eseq ?_
    refine HT.seq ?_
    refine HT.seq ?_
    refine HT.plain ?_
    refine sMv rfl rfl ?_
    refine sqS (q_len (len := n) rfl Tryz.underlying22) rfl ?_
    refine sqS (q_F (q_lt (p := n) (q := 12) rfl rfl) (by omega)) rfl ?_
    refine sMv rfl rfl ?_
    refine sgqS rfl (q_move rfl) rfl ?_
    refine sgqS rfl (q_slice (lo := 2) (hi := 4) rfl Tryz.underlying22 nagg_5 (.inr ⟨_, _, rfl, rfl⟩) (.inr ⟨_, _, rfl, rfl⟩) (by omega) (by omega)) rfl ?_
    refine sgqS rfl (q_call (vs := [(.slice (cutA A c 2) (4 - 2) (c - 2))]) (v := (.int .u64 ((bN bs 2 2 : Nat) : Int))) rfl ca_34 (fun w h => NumberC w A n c bs (lo := 2) (hi := 4) (h.fact (j := 0) rfl) (k := 2) rfl (by decide) (by omega) (by omega))) rfl ?_
    refine sgqS rfl (q_F (q_lt (p := bN bs 2 2) (q := 4) rfl rfl) (by have := bN_lt bs 2 2 65536 rfl; omega)) rfl ?_
    refine sqS (q_pick rfl (fun h => nomatch h) (fun _ => rfl)) rfl ?_
    refine send ?_
    refine eseq ?_
    refine HT.no rfl ?_
    refine HT.skip ?_
    refine eseq ?_
    refine HT.seq ?_
    refine HT.drawn mixed (St.closed _ _ _ _) (St w [] [(gtp_s11_k2 b2), ⟨b48, 39, [some (.int .u64 (((nb bs 0) / 32 : Nat) : Int)), some (.int .u64 ((((nb bs 0) / 16) &&& 1 : Nat) : Int)), some (.int .u64 ((((nb bs 0) / 8) &&& 1 : Nat) : Int)), some (.int .u64 ((((nb bs 0) / 4) &&& 1 : Nat) : Int)), some (.int .u64 ((((nb bs 0) / 2) &&& 1 : Nat) : Int)), some (.int .u64 (((nb bs 0) &&& 1 : Nat) : Int)), some (.int .u64 ((nb bs 1 : Nat) : Int)), some (.int .u64 ((bN bs 2 2 : Nat) : Int)), some (.int .u64 ((bN bs 4 4 : Nat) : Int)), none, none], true⟩, (gtp_s11_k1 b6 b48 A c n)] [Byt A n c bs]) ?_
    refine dtake (f := 3) [0, 1, 2, 3, 4, 5, 6, 7, 8, 9, 10, 11] (by kernel_rfl) (St.closed _ _ _ _) (fun _ h => (h.wk [(0, []), (1, [9, 10]), (2, [])] rfl)) (by kernel_rfl) ?_
    refine dq rfl (q_field (b := b6) (off := 0) rfl fo_29_0) ?_
    refine dq rfl (q_load (b := b6) (off := 0) (j := 2) rfl nagg_25 (fun _ h => h) rfl rfl rfl) ?_
    refine dq rfl (q_field (b := b6) (off := 0) rfl fo_29_0) ?_
    refine dq rfl (q_load (b := b6) (off := 0) (j := 2) rfl nagg_25 (fun _ h => h) rfl rfl rfl) ?_
    refine dq rfl (q_move rfl) ?_
    refine dq rfl (q_slice (lo := 8) (hi := 10) rfl Tryz.underlying22 nagg_5 (.inr ⟨_, _, rfl, rfl⟩) (.inr ⟨_, _, rfl, rfl⟩) (by omega) (by omega)) ?_
    refine dq rfl (q_call (vs := [(.slice (cutA A c 8) (10 - 8) (c - 8))]) (v := (.int .u64 ((bN bs 8 2 : Nat) : Int))) rfl ca_34 (fun w h => NumberC w A n c bs (lo := 8) (hi := 10) (h.fact (j := 0) rfl) (k := 2) rfl (by decide) (by omega) (by omega))) ?_
    refine dq rfl (q_move rfl) ?_
    refine dq rfl (q_index (i := 10) (j := 0) rfl rfl Tryz.underlying22 nagg_5 (fun _ h => h) rfl (by omega)) ?_
    refine dq rfl (q_byte (i := 10) (j := 0) rfl nagg_5 (fun _ h => h) rfl (by omega)) ?_
    refine dq rfl (q_convn (p := nb bs 10) rfl Tryz.underlying5 Tryz.underlying39 (show nb bs 10 < 18446744073709551616 by have := nb_lt bs 10; omega)) ?_
    refine dq rfl (q_indexK (b := b48) (i := 9) (sz := 1) rfl rfl Tryz.underlying25 size_39 (by decide)) ?_
    refine QL.nil ?_
    refine RG.step1 12 (by kernel_rfl) ?_
    refine dop rfl (l_store (b := b48) (off := 9) (j := 1) rfl rfl nagg_39 rfl rfl rfl rfl (dlt rfl) ⟨(fun _ h => (h.wk [(0, []), (1, [9, 10]), (2, [])] rfl)), ?_⟩)
    refine dtake (f := 1) [13] (by kernel_rfl) (St.closed _ _ _ _) (fun _ h => (h.wk [(0, []), (1, [9, 10]), (2, [])] rfl)) (by kernel_rfl) ?_
    refine dq rfl (q_indexK (b := b48) (i := 10) (sz := 1) rfl rfl Tryz.underlying25 size_39 (by decide)) ?_
    refine QL.nil ?_
    refine RG.step1 14 (by kernel_rfl) ?_
    refine dop rfl (l_store (b := b48) (off := 10) (j := 1) rfl rfl nagg_39 rfl rfl rfl rfl (dlt rfl) ⟨(fun _ h => (h.wk [(0, []), (1, [9, 10]), (2, [])] rfl)), ?_⟩)
    refine dend (by kernel_rfl) ?_
    refine eseq ?_
    refine HT.seq ?_
    refine HT.seq ?_
    refine HT.plain ?_
    refine sMv rfl rfl ?_
    refine sqS (q_and (p := nb bs 0) (q := 2) rfl rfl rfl (show nb bs 0 < 256 by have := nb_lt bs 0; omega) (by decide)) rfl ?_
    refine sqS (q_F (q_eq (p := (nb bs 0) &&& 2) (q := 0) rfl rfl) (by have := nb_lt bs 0; have := zb2 (nb bs 0); have := Nat.and_le_left (n := nb bs 0) (m := 2); have := Nat.and_le_right (n := nb bs 0) (m := 2); omega)) rfl ?_
    refine sMv rfl rfl ?_
    refine sgqS rfl (q_move rfl) rfl ?_
    refine sgqS rfl (q_and (p := nb bs 0) (q := 1) rfl rfl rfl (show nb bs 0 < 256 by have := nb_lt bs 0; omega) (by decide)) rfl ?_
    refine sgqS rfl (q_F (q_eq (p := (nb bs 0) &&& 1) (q := 0) rfl rfl) (by have := nb_lt bs 0; have := zm1 (nb bs 0); have := Nat.and_le_left (n := nb bs 0) (m := 1); have := Nat.and_le_right (n := nb bs 0) (m := 1); omega)) rfl ?_
    refine sqS (q_pick rfl (fun h => nomatch h) (fun _ => rfl)) rfl ?_
    refine send ?_
    refine eseq ?_
    refine HT.no rfl ?_
    refine HT.skip ?_
    refine eseq ?_
    refine HT.seq ?_
    refine HT.drawnS mixed (St.closed _ _ _ _) ?_
    refine dtake (f := 0) [0, 1, 2, 3, 4, 5, 6] (by kernel_rfl) (St.closed _ _ _ _) (fun _ h => h) (by kernel_rfl) ?_
    refine dq rfl (q_move rfl) ?_
    refine dq rfl (q_index (i := 11) (j := 0) rfl rfl Tryz.underlying22 nagg_5 (fun _ h => h) rfl (by omega)) ?_
    refine dq rfl (q_byte (i := 11) (j := 0) rfl nagg_5 (fun _ h => h) rfl (by omega)) ?_
    refine dq rfl (q_move rfl) ?_
    refine dq rfl (q_slice (lo := 12) (hi := n) rfl Tryz.underlying22 nagg_5 (.inr ⟨_, _, rfl, rfl⟩) (.inl ⟨rfl, rfl⟩) (by omega) (by omega)) ?_
    refine dq rfl (q_assign rfl) ?_
    refine dq rfl (q_assign rfl) ?_
    refine QL.nil ?_
    refine dend (by kernel_rfl) ?_
    refine eseq ?_
    refine HT.seq ?_
    refine HT.seq ?_
    refine HT.plain ?_
    refine sMv rfl rfl ?_
    refine sqS (q_and (p := nb bs 0) (q := 4) rfl rfl rfl (show nb bs 0 < 256 by have := nb_lt bs 0; omega) (by decide)) rfl ?_
    refine sqS (q_T (q_eq (p := (nb bs 0) &&& 4) (q := 0) rfl rfl) (by have := nb_lt bs 0; have := zb4 (nb bs 0); have := Nat.and_le_left (n := nb bs 0) (m := 4); have := Nat.and_le_right (n := nb bs 0) (m := 4); omega)) rfl ?_
    refine send ?_
    refine eseq ?_
    refine HT.yes rfl ?_
    refine HT.plain ?_
    refine sAs rfl rfl ?_
    refine send ?_
    refine eseq ?_
    refine HT.seq ?_
    refine HT.block ?_
    refine HT.loop (ι := Unit) (fun _ => [(2, (.pointer (some ⟨b2, 0, none⟩))), (3, (.bool false)), (4, (.bool false)), (6, (.pointer (some ⟨b6, 0, none⟩))), (8, (.int .u8 ((0 : Nat) : Int))), (9, (.slice (cutA A c 12) (n - 12) (c - 12)))]) (fun _ => St w [] [(gtp_s11_k2 b2), (gtp_s11_k0 b48 bs), (gtp_s11_k1 b6 b48 A c n)] [Byt A n c bs]) (fun _ => 0) () ⟨rfl, rfl, rfl, rfl, rfl, rfl, trivial⟩ (fun _ h => h) fun _ => ?_
    refine HT.seq ?_
    refine HT.seq ?_
    refine HT.plain ?_
    refine sMv rfl rfl ?_
    refine sqS (q_F (q_ne (p := 0) (q := 0) rfl rfl) (by decide)) rfl ?_
    refine send ?_
    refine eseq ?_
    refine HT.no rfl ?_
    refine HT.exit ?_
    refine ex_then ?_
    refine ex_then ?_
    refine ex_in ?_
    refine eseq ?_
    refine HT.seq ?_
    refine HT.plain ?_
    refine sMv rfl rfl ?_
    refine sqS (q_field (b := b6) (off := 0) rfl fo_29_3) rfl ?_
    refine sl_ (l_store (b := b6) (off := 3) (j := 2) rfl rfl nagg_22 rfl rfl rfl rfl (dlt rfl) ?_)
    refine send ?_
    refine eseq ?_
    refine HT.seq ?_
    refine HT.plain ?_
    refine sqS (q_loadAgg (b := b6) (off := 0) (j := 2) (vs := [(.slice (some ⟨b48, 0, none⟩) 11 11), (.slice none 0 0), (.slice none 0 0), (.slice (cutA A c 12) (n - 12) (c - 12))]) rfl aggs_29 (fun _ h => h) rfl rfl rfl) rfl ?_
    refine sl_ (l_storeAgg (b := b2) (off := 0) (j := 0) (vs := [(.slice (some ⟨b48, 0, none⟩) 11 11), (.slice none 0 0), (.slice none 0 0), (.slice (cutA A c 12) (n - 12) (c - 12))]) rfl rfl aggs_29 (by simp [Value.one1]) rfl rfl rfl (Nat.le_of_ble_eq_true rfl) ?_)
    refine sAs rfl rfl ?_
    refine sAs rfl rfl ?_
    refine send ?_
    refine eseq ?_
    refine HT.ret ?_
    exact fun a ha w' hw => fin_ ha (resc3 ha Tryz.results40 rfl (ld_ aggs_29 hw (j := 0) rfl rfl (vs := [(.slice (some ⟨b48, 0, none⟩) 11 11), (.slice none 0 0), (.slice none 0 0), (.slice (cutA A c 12) (n - 12) (c - 12))]) rfl) rfl rfl) ⟨b48, rfl, (hw.wk [(1, [])] rfl), fr0⟩
  · refine dop rfl (l_alloc (by decide) zero_29 fun b6 => ⟨(fun _ h => (h.wk [(0, [])] rfl)), ?_⟩)
    refine RG.step1 34 (by kernel_rfl) ?_
    refine dop rfl (l_buildSlice (e := 39) (vs := [(0, (.int .u64 (((nb bs 0) / 32 : Nat) : Int))), (1, (.int .u64 ((((nb bs 0) / 16) &&& 1 : Nat) : Int))), (2, (.int .u64 ((((nb bs 0) / 8) &&& 1 : Nat) : Int))), (3, (.int .u64 ((((nb bs 0) / 4) &&& 1 : Nat) : Int))), (4, (.int .u64 ((((nb bs 0) / 2) &&& 1 : Nat) : Int))), (5, (.int .u64 (((nb bs 0) &&& 1 : Nat) : Int))), (6, (.int .u64 ((nb bs 1 : Nat) : Int))), (7, (.int .u64 ((bN bs 2 2 : Nat) : Int))), (8, (.int .u64 ((bN bs 4 4 : Nat) : Int))), (9, (.int .u64 ((0 : Nat) : Int))), (10, (.int .u64 ((0 : Nat) : Int)))]) (cs := [(.int .u64 (((nb bs 0) / 32 : Nat) : Int)), (.int .u64 ((((nb bs 0) / 16) &&& 1 : Nat) : Int)), (.int .u64 ((((nb bs 0) / 8) &&& 1 : Nat) : Int)), (.int .u64 ((((nb bs 0) / 4) &&& 1 : Nat) : Int)), (.int .u64 ((((nb bs 0) / 2) &&& 1 : Nat) : Int)), (.int .u64 (((nb bs 0) &&& 1 : Nat) : Int)), (.int .u64 ((nb bs 1 : Nat) : Int)), (.int .u64 ((bN bs 2 2 : Nat) : Int)), (.int .u64 ((bN bs 4 4 : Nat) : Int)), (.int .u64 ((0 : Nat) : Int)), (.int .u64 ((0 : Nat) : Int))]) (by decide) rfl (fun _ => by kernel_rfl) fun b48 => ⟨(fun _ h => (h.wk [(0, [])] rfl)), ?_⟩)
    refine dtake (f := 1) [35] (by kernel_rfl) (St.closed _ _ _ _) (fun _ h => (h.wk [(0, [])] rfl)) (by kernel_rfl) ?_
    refine dq rfl (q_call (vs := [(.slice (cutA A c 8) (n - 8) (c - 8)), (.slice (some ⟨b48, 0, none⟩) 11 11)]) (v := (.agg #[(.slice (some ⟨b48, 0, none⟩) 11 11), (.slice none 0 0), (.slice none 0 0), (.slice (cutA A c 8) (n - 8) (c - 8))])) rfl ca_33 (fun w h => layerC w (cutA A c 8) (n - 8) (c - 8) (some ⟨b48, 0, none⟩) 11 11  (St.enter (sp := []) (Kc := []) (bi := []) h rfl rfl rfl))) ?_
    refine QL.nil ?_
    refine RG.step1 37 (by kernel_rfl) ?_
    refine dop rfl (l_storeAgg (b := b6) (off := 0) (j := 1) (vs := [(.slice (some ⟨b48, 0, none⟩) 11 11), (.slice none 0 0), (.slice none 0 0), (.slice (cutA A c 8) (n - 8) (c - 8))]) rfl rfl aggs_29 (by simp [Value.one1]) rfl rfl rfl (Nat.le_of_ble_eq_true rfl) ⟨(fun _ h => (h.wk [(0, [])] rfl)), ?_⟩)
    refine dend (by kernel_rfl) ?_
    refine eseq ?_
    refine HT.seq ?_
    refine HT.seq ?_
    refine HT.plain ?_
    refine sMv rfl rfl ?_
    refine sqS (q_slice (lo := 2) (hi := 4) rfl Tryz.underlying22 nagg_5 (.inr ⟨_, _, rfl, rfl⟩) (.inr ⟨_, _, rfl, rfl⟩) (by omega) (by omega)) rfl ?_
    refine sqS (q_call (vs := [(.slice (cutA A c 2) (4 - 2) (c - 2))]) (v := (.int .u64 ((bN bs 2 2 : Nat) : Int))) rfl ca_34 (fun w h => NumberC w A n c bs (lo := 2) (hi := 4) (h.fact (j := 0) rfl) (k := 2) rfl (by decide) (by omega) (by omega))) rfl ?_
    refine sqS (q_convn (p := bN bs 2 2) rfl Tryz.underlying39 Tryz.underlying3 (show bN bs 2 2 < 9223372036854775808 by have := bN_lt bs 2 2 65536 rfl; omega)) rfl ?_
    refine sAs rfl rfl ?_
    refine send ?_
    refine eseq ?_
    refine HT.seq ?_
    refine HT.plain ?_
    refine sMv rfl rfl ?_
    refine sMv rfl rfl ?_
    refine sqS (q_len (len := n) rfl Tryz.underlying22) rfl ?_
    refine sqS (q_sub (p := n) (q := 8) rfl rfl (by omega) (show n < 9223372036854775808 by omega)) rfl ?_
    refine sqS (q_F (q_gt (p := bN bs 2 2) (q := n - 8) rfl rfl) (by have := bN_lt bs 2 2 65536 rfl; omega)) rfl ?_
    refine send ?_
    refine eseq ?_
    refine HT.no rfl ?_
    refine HT.skip ?_
    refine eseq ?_
    refine HT.seq ?_
    refine HT.seq ?_
    refine HT.plain ?_
    refine sMv rfl rfl ?_
    refine sqS (q_and (p := nb bs 0) (q := 7) rfl rfl rfl (show nb bs 0 < 256 by have := nb_lt bs 0; omega) (by decide)) rfl ?_
    refine sqS (q_F (q_eq (p := (nb bs 0) &&& 7) (q := 0) rfl rfl) (by have := nb_lt bs 0; have := zm7 (nb bs 0); have := Nat.and_le_left (n := nb bs 0) (m := 7); have := Nat.and_le_right (n := nb bs 0) (m := 7); omega)) rfl ?_
    refine send ?_
    refine eseq ?_
    refine HT.no rfl ?_
    refine HT.skip ?_
    refine eseq ?_
    refine HT.seq ?_
    refine HT.seq ?_
    refine HT.plain ?_
    refine sMv rfl rfl ?_
    refine sqS (q_len (len := n) rfl Tryz.underlying22) rfl ?_
    refine sqS (q_F (q_lt (p := n) (q := 12) rfl rfl) (by omega)) rfl ?_
    refine sMv rfl rfl ?_
    refine sgqS rfl (q_move rfl) rfl ?_
    refine sgqS rfl (q_slice (lo := 2) (hi := 4) rfl Tryz.underlying22 nagg_5 (.inr ⟨_, _, rfl, rfl⟩) (.inr ⟨_, _, rfl, rfl⟩) (by omega) (by omega)) rfl ?_
    refine sgqS rfl (q_call (vs := [(.slice (cutA A c 2) (4 - 2) (c - 2))]) (v := (.int .u64 ((bN bs 2 2 : Nat) : Int))) rfl ca_34 (fun w h => NumberC w A n c bs (lo := 2) (hi := 4) (h.fact (j := 0) rfl) (k := 2) rfl (by decide) (by omega) (by omega))) rfl ?_
    refine sgqS rfl (q_F (q_lt (p := bN bs 2 2) (q := 4) rfl rfl) (by have := bN_lt bs 2 2 65536 rfl; omega)) rfl ?_
    refine sqS (q_pick rfl (fun h => nomatch h) (fun _ => rfl)) rfl ?_
    refine send ?_
    refine eseq ?_
    refine HT.no rfl ?_
    refine HT.skip ?_
    refine eseq ?_
    refine HT.seq ?_
    refine HT.drawn mixed (St.closed _ _ _ _) (St w [] [(gtp_s11_k2 b2), (gtp_s11_k1 b6 b48 A c n), ⟨b48, 39, [some (.int .u64 (((nb bs 0) / 32 : Nat) : Int)), some (.int .u64 ((((nb bs 0) / 16) &&& 1 : Nat) : Int)), some (.int .u64 ((((nb bs 0) / 8) &&& 1 : Nat) : Int)), some (.int .u64 ((((nb bs 0) / 4) &&& 1 : Nat) : Int)), some (.int .u64 ((((nb bs 0) / 2) &&& 1 : Nat) : Int)), some (.int .u64 (((nb bs 0) &&& 1 : Nat) : Int)), some (.int .u64 ((nb bs 1 : Nat) : Int)), some (.int .u64 ((bN bs 2 2 : Nat) : Int)), some (.int .u64 ((bN bs 4 4 : Nat) : Int)), none, none], true⟩] [Byt A n c bs]) ?_
    refine dtake (f := 3) [0, 1, 2, 3, 4, 5, 6, 7, 8, 9, 10, 11] (by kernel_rfl) (St.closed _ _ _ _) (fun _ h => (h.wk [(0, []), (1, []), (2, [9, 10])] rfl)) (by kernel_rfl) ?_
    refine dq rfl (q_field (b := b6) (off := 0) rfl fo_29_0) ?_
    refine dq rfl (q_load (b := b6) (off := 0) (j := 1) rfl nagg_25 (fun _ h => h) rfl rfl rfl) ?_
    refine dq rfl (q_field (b := b6) (off := 0) rfl fo_29_0) ?_
    refine dq rfl (q_load (b := b6) (off := 0) (j := 1) rfl nagg_25 (fun _ h => h) rfl rfl rfl) ?_
    refine dq rfl (q_move rfl) ?_
    refine dq rfl (q_slice (lo := 8) (hi := 10) rfl Tryz.underlying22 nagg_5 (.inr ⟨_, _, rfl, rfl⟩) (.inr ⟨_, _, rfl, rfl⟩) (by omega) (by omega)) ?_
    refine dq rfl (q_call (vs := [(.slice (cutA A c 8) (10 - 8) (c - 8))]) (v := (.int .u64 ((bN bs 8 2 : Nat) : Int))) rfl ca_34 (fun w h => NumberC w A n c bs (lo := 8) (hi := 10) (h.fact (j := 0) rfl) (k := 2) rfl (by decide) (by omega) (by omega))) ?_
    refine dq rfl (q_move rfl) ?_
    refine dq rfl (q_index (i := 10) (j := 0) rfl rfl Tryz.underlying22 nagg_5 (fun _ h => h) rfl (by omega)) ?_
    refine dq rfl (q_byte (i := 10) (j := 0) rfl nagg_5 (fun _ h => h) rfl (by omega)) ?_
    refine dq rfl (q_convn (p := nb bs 10) rfl Tryz.underlying5 Tryz.underlying39 (show nb bs 10 < 18446744073709551616 by have := nb_lt bs 10; omega)) ?_
    refine dq rfl (q_indexK (b := b48) (i := 9) (sz := 1) rfl rfl Tryz.underlying25 size_39 (by decide)) ?_
    refine QL.nil ?_
    refine RG.step1 12 (by kernel_rfl) ?_
    refine dop rfl (l_store (b := b48) (off := 9) (j := 2) rfl rfl nagg_39 rfl rfl rfl rfl (dlt rfl) ⟨(fun _ h => (h.wk [(0, []), (1, []), (2, [9, 10])] rfl)), ?_⟩)
    refine dtake (f := 1) [13] (by kernel_rfl) (St.closed _ _ _ _) (fun _ h => (h.wk [(0, []), (1, []), (2, [9, 10])] rfl)) (by kernel_rfl) ?_
    refine dq rfl (q_indexK (b := b48) (i := 10) (sz := 1) rfl rfl Tryz.underlying25 size_39 (by decide)) ?_
    refine QL.nil ?_
    refine RG.step1 14 (by kernel_rfl) ?_
    refine dop rfl (l_store (b := b48) (off := 10) (j := 2) rfl rfl nagg_39 rfl rfl rfl rfl (dlt rfl) ⟨(fun _ h => (h.wk [(0, []), (1, []), (2, [9, 10])] rfl)), ?_⟩)
    refine dend (by kernel_rfl) ?_
    refine eseq ?_
    refine HT.seq ?_
    refine HT.seq ?_
    refine HT.plain ?_
    refine sMv rfl rfl ?_
    refine sqS (q_and (p := nb bs 0) (q := 2) rfl rfl rfl (show nb bs 0 < 256 by have := nb_lt bs 0; omega) (by decide)) rfl ?_
    refine sqS (q_F (q_eq (p := (nb bs 0) &&& 2) (q := 0) rfl rfl) (by have := nb_lt bs 0; have := zb2 (nb bs 0); have := Nat.and_le_left (n := nb bs 0) (m := 2); have := Nat.and_le_right (n := nb bs 0) (m := 2); omega)) rfl ?_
    refine sMv rfl rfl ?_
    refine sgqS rfl (q_move rfl) rfl ?_
    refine sgqS rfl (q_and (p := nb bs 0) (q := 1) rfl rfl rfl (show nb bs 0 < 256 by have := nb_lt bs 0; omega) (by decide)) rfl ?_
    refine sgqS rfl (q_F (q_eq (p := (nb bs 0) &&& 1) (q := 0) rfl rfl) (by have := nb_lt bs 0; have := zm1 (nb bs 0); have := Nat.and_le_left (n := nb bs 0) (m := 1); have := Nat.and_le_right (n := nb bs 0) (m := 1); omega)) rfl ?_
    refine sqS (q_pick rfl (fun h => nomatch h) (fun _ => rfl)) rfl ?_
    refine send ?_
    refine eseq ?_
    refine HT.no rfl ?_
    refine HT.skip ?_
    refine eseq ?_
    refine HT.seq ?_
    refine HT.drawnS mixed (St.closed _ _ _ _) ?_
    refine dtake (f := 0) [0, 1, 2, 3, 4, 5, 6] (by kernel_rfl) (St.closed _ _ _ _) (fun _ h => h) (by kernel_rfl) ?_
    refine dq rfl (q_move rfl) ?_
    refine dq rfl (q_index (i := 11) (j := 0) rfl rfl Tryz.underlying22 nagg_5 (fun _ h => h) rfl (by omega)) ?_
    refine dq rfl (q_byte (i := 11) (j := 0) rfl nagg_5 (fun _ h => h) rfl (by omega)) ?_
    refine dq rfl (q_move rfl) ?_
    refine dq rfl (q_slice (lo := 12) (hi := n) rfl Tryz.underlying22 nagg_5 (.inr ⟨_, _, rfl, rfl⟩) (.inl ⟨rfl, rfl⟩) (by omega) (by omega)) ?_
    refine dq rfl (q_assign rfl) ?_
    refine dq rfl (q_assign rfl) ?_
    refine QL.nil ?_
    refine dend (by kernel_rfl) ?_
    refine eseq ?_
    refine HT.seq ?_
    refine HT.seq ?_
    refine HT.plain ?_
    refine sMv rfl rfl ?_
    refine sqS (q_and (p := nb bs 0) (q := 4) rfl rfl rfl (show nb bs 0 < 256 by have := nb_lt bs 0; omega) (by decide)) rfl ?_
    refine sqS (q_T (q_eq (p := (nb bs 0) &&& 4) (q := 0) rfl rfl) (by have := nb_lt bs 0; have := zb4 (nb bs 0); have := Nat.and_le_left (n := nb bs 0) (m := 4); have := Nat.and_le_right (n := nb bs 0) (m := 4); omega)) rfl ?_
    refine send ?_
    refine eseq ?_
    refine HT.yes rfl ?_
    refine HT.plain ?_
    refine sAs rfl rfl ?_
    refine send ?_
    refine eseq ?_
    refine HT.seq ?_
    refine HT.block ?_
    refine HT.loop (ι := Unit) (fun _ => [(2, (.pointer (some ⟨b2, 0, none⟩))), (3, (.bool false)), (4, (.bool false)), (6, (.pointer (some ⟨b6, 0, none⟩))), (8, (.int .u8 ((0 : Nat) : Int))), (9, (.slice (cutA A c 12) (n - 12) (c - 12)))]) (fun _ => St w [] [(gtp_s11_k2 b2), (gtp_s11_k1 b6 b48 A c n), (gtp_s11_k0 b48 bs)] [Byt A n c bs]) (fun _ => 0) () ⟨rfl, rfl, rfl, rfl, rfl, rfl, trivial⟩ (fun _ h => h) fun _ => ?_
    refine HT.seq ?_
    refine HT.seq ?_
    refine HT.plain ?_
    refine sMv rfl rfl ?_
    refine sqS (q_F (q_ne (p := 0) (q := 0) rfl rfl) (by decide)) rfl ?_
    refine send ?_
    refine eseq ?_
    refine HT.no rfl ?_
    refine HT.exit ?_
    refine ex_then ?_
    refine ex_then ?_
    refine ex_in ?_
    refine eseq ?_
    refine HT.seq ?_
    refine HT.plain ?_
    refine sMv rfl rfl ?_
    refine sqS (q_field (b := b6) (off := 0) rfl fo_29_3) rfl ?_
    refine sl_ (l_store (b := b6) (off := 3) (j := 1) rfl rfl nagg_22 rfl rfl rfl rfl (dlt rfl) ?_)
    refine send ?_
    refine eseq ?_
    refine HT.seq ?_
    refine HT.plain ?_
    refine sqS (q_loadAgg (b := b6) (off := 0) (j := 1) (vs := [(.slice (some ⟨b48, 0, none⟩) 11 11), (.slice none 0 0), (.slice none 0 0), (.slice (cutA A c 12) (n - 12) (c - 12))]) rfl aggs_29 (fun _ h => h) rfl rfl rfl) rfl ?_
    refine sl_ (l_storeAgg (b := b2) (off := 0) (j := 0) (vs := [(.slice (some ⟨b48, 0, none⟩) 11 11), (.slice none 0 0), (.slice none 0 0), (.slice (cutA A c 12) (n - 12) (c - 12))]) rfl rfl aggs_29 (by simp [Value.one1]) rfl rfl rfl (Nat.le_of_ble_eq_true rfl) ?_)
    refine sAs rfl rfl ?_
    refine sAs rfl rfl ?_
    refine send ?_
    refine eseq ?_
    refine HT.ret ?_
    exact fun a ha w' hw => fin_ ha (resc3 ha Tryz.results40 rfl (ld_ aggs_29 hw (j := 0) rfl rfl (vs := [(.slice (some ⟨b48, 0, none⟩) 11 11), (.slice none 0 0), (.slice none 0 0), (.slice (cutA A c 12) (n - 12) (c - 12))]) rfl) rfl rfl) ⟨b48, rfl, (hw.wk [(2, [])] rfl), fr0⟩

theorem gtp_S11 (w : World) (A : Option Addr) (n : Nat) (c : Nat) (bs : List UInt8) (hn : n ≤ 2147483647) (ha : 8 ≤ n) (hb : bN bs 2 2 ≤ n - 8) (hc : 12 ≤ n) (hd : 4 ≤ bN bs 2 2) (he : nb bs 0 % 8 = 3) (hst : St w [] [] [Byt A n c bs] w) : Calls Tryz.prog 26 #[(.string ⟨#[103, 116, 112]⟩), (.slice A n c)] w (SP w (Byt A n c bs) (some (some ⟨[(nb bs 0) / 32, ((nb bs 0) / 16) &&& 1, ((nb bs 0) / 8) &&& 1, ((nb bs 0) / 4) &&& 1, ((nb bs 0) / 2) &&& 1, (nb bs 0) &&& 1, nb bs 1, bN bs 2 2, bN bs 4 4, bN bs 8 2, nb bs 10], [], [], sl bs 12 n⟩))) := by
  have hnc00 : n ≤ c := (hst.fact (j := 0) rfl).2.1
  refine enter (vs := [(.string ⟨#[103, 116, 112]⟩), (.slice A n c)]) Tryz.func26 rfl rfl rfl hst ?_
  refine HT.seq ?_
  refine HT.plain ?_
  refine sl_ (l_alloc (by decide) zero_29 fun b4 => ?_)
  refine sAs rfl rfl ?_
  refine sAs rfl rfl ?_
  refine send ?_
  refine eseq ?_
  refine HT.seq ?_
  refine HT.plain ?_
  refine sl_ (l_makeMap (by decide) fun b13 => ?_)
  refine sl_ (l_insert (es := es0) (ck := 0) rfl rfl rfl Tryz.underlying36 Tryz.underlying9 fi0 ?_)
  refine sl_ (l_insert (es := es1) (ck := 1) rfl rfl rfl Tryz.underlying36 Tryz.underlying9 fi1 ?_)
  refine sl_ (l_insert (es := es2) (ck := 2) rfl rfl rfl Tryz.underlying36 Tryz.underlying9 fi2 ?_)
  refine sl_ (l_insert (es := es3) (ck := 3) rfl rfl rfl Tryz.underlying36 Tryz.underlying9 fi3 ?_)
  refine sl_ (l_insert (es := es4) (ck := 4) rfl rfl rfl Tryz.underlying36 Tryz.underlying9 fi4 ?_)
  refine sl_ (l_insert (es := es5) (ck := 5) rfl rfl rfl Tryz.underlying36 Tryz.underlying9 fi5 ?_)
  refine sl_ (l_insert (es := es6) (ck := 6) rfl rfl rfl Tryz.underlying36 Tryz.underlying9 fi6 ?_)
  refine sl_ (l_insert (es := es7) (ck := 7) rfl rfl rfl Tryz.underlying36 Tryz.underlying9 fi7 ?_)
  refine sl_ (l_insert (es := es8) (ck := 8) rfl rfl rfl Tryz.underlying36 Tryz.underlying9 fi8 ?_)
  refine sl_ (l_insert (es := es9) (ck := 9) rfl rfl rfl Tryz.underlying36 Tryz.underlying9 fi9 ?_)
  refine sl_ (l_insert (es := es10) (ck := 10) rfl rfl rfl Tryz.underlying36 Tryz.underlying9 fi10 ?_)
  refine sl_ (l_insert (es := es11) (ck := 11) rfl rfl rfl Tryz.underlying36 Tryz.underlying9 fi11 ?_)
  refine sl_ (l_insert (es := es12) (ck := 12) rfl rfl rfl Tryz.underlying36 Tryz.underlying9 fi12 ?_)
  refine sl_ (l_insert (es := es13) (ck := 13) rfl rfl rfl Tryz.underlying36 Tryz.underlying9 fi13 ?_)
  refine sl_ (l_insert (es := es14) (ck := 14) rfl rfl rfl Tryz.underlying36 Tryz.underlying9 fi14 ?_)
  refine sl_ (l_insert (es := es15) (ck := 15) rfl rfl rfl Tryz.underlying36 Tryz.underlying9 fi15 ?_)
  refine sl_ (l_insert (es := es16) (ck := 16) rfl rfl rfl Tryz.underlying36 Tryz.underlying9 fi16 ?_)
  refine sl_ (l_insert (es := es17) (ck := 17) rfl rfl rfl Tryz.underlying36 Tryz.underlying9 fi17 ?_)
  refine sl_ (l_insert (es := es18) (ck := 18) rfl rfl rfl Tryz.underlying36 Tryz.underlying9 fi18 ?_)
  refine sl_ (l_insert (es := es19) (ck := 19) rfl rfl rfl Tryz.underlying36 Tryz.underlying9 fi19 ?_)
  refine sl_ (l_insert (es := es20) (ck := 20) rfl rfl rfl Tryz.underlying36 Tryz.underlying9 fi20 ?_)
  refine sq (SM.closed) (q_move rfl) rfl ?_
  refine sq (SM.closed) (q_move rfl) rfl ?_
  refine sq (SM.closed) (q_lookup (es := es21) (i := 11) (v := (.int .i64 ((8 : Nat) : Int))) (fun _ h => h) rfl rfl Tryz.underlying36 Tryz.underlying9 (by kernel_rfl)) rfl ?_
  refine sq (SM.closed) (q_assign rfl) rfl ?_
  refine send ?_
  refine eseq ?_
  refine HT.unmap ?_
  refine HT.seq ?_
  refine HT.seq ?_
  refine HT.plain ?_
  refine sMv rfl rfl ?_
  refine sqS (q_len (len := n) rfl Tryz.underlying22) rfl ?_
  refine sMv rfl rfl ?_
  refine sqS (q_F (q_lt (p := n) (q := 8) rfl rfl) (by omega)) rfl ?_
  refine send ?_
  refine eseq ?_
  refine HT.no rfl ?_
  refine HT.skip ?_
  refine eseq ?_
  refine HT.seq ?_
  refine HT.seq ?_
  refine HT.plain ?_
  refine sMv rfl rfl ?_
  refine send ?_
  refine eseq ?_
  refine HT.block ?_
  refine HT.seq ?_
  refine HT.plain ?_
  refine sqS (q_eqs rfl rfl (r := false) (by kernel_rfl)) rfl ?_
  refine sAs rfl rfl ?_
  refine send ?_
  refine eseq ?_
  refine HT.no rfl ?_
  refine HT.seq ?_
  refine HT.plain ?_
  refine sqS (q_eqs rfl rfl (r := false) (by kernel_rfl)) rfl ?_
  refine sAs rfl rfl ?_
  refine send ?_
  refine eseq ?_
  refine HT.no rfl ?_
  refine HT.seq ?_
  refine HT.plain ?_
  refine sqS (q_eqs rfl rfl (r := false) (by kernel_rfl)) rfl ?_
  refine sAs rfl rfl ?_
  refine send ?_
  refine eseq ?_
  refine HT.no rfl ?_
  refine HT.seq ?_
  refine HT.plain ?_
  refine sqS (q_eqs rfl rfl (r := false) (by kernel_rfl)) rfl ?_
  refine sAs rfl rfl ?_
  refine send ?_
  refine eseq ?_
  refine HT.no rfl ?_
  refine HT.seq ?_
  refine HT.plain ?_
  refine sqS (q_eqs rfl rfl (r := false) (by kernel_rfl)) rfl ?_
  refine sAs rfl rfl ?_
  refine send ?_
  refine eseq ?_
  refine HT.no rfl ?_
  refine HT.seq ?_
  refine HT.plain ?_
  refine sqS (q_eqs rfl rfl (r := false) (by kernel_rfl)) rfl ?_
  refine sAs rfl rfl ?_
  refine send ?_
  refine eseq ?_
  refine HT.no rfl ?_
  refine HT.seq ?_
  refine HT.plain ?_
  refine sqS (q_eqs rfl rfl (r := false) (by kernel_rfl)) rfl ?_
  refine sAs rfl rfl ?_
  refine send ?_
  refine eseq ?_
  refine HT.no rfl ?_
  refine HT.seq ?_
  refine HT.plain ?_
  refine sqS (q_eqs rfl rfl (r := false) (by kernel_rfl)) rfl ?_
  refine sAs rfl rfl ?_
  refine send ?_
  refine eseq ?_
  refine HT.no rfl ?_
  refine HT.seq ?_
  refine HT.plain ?_
  refine sqS (q_eqs rfl rfl (r := false) (by kernel_rfl)) rfl ?_
  refine sAs rfl rfl ?_
  refine send ?_
  refine eseq ?_
  refine HT.no rfl ?_
  refine HT.seq ?_
  refine HT.plain ?_
  refine sqS (q_eqs rfl rfl (r := false) (by kernel_rfl)) rfl ?_
  refine sAs rfl rfl ?_
  refine send ?_
  refine eseq ?_
  refine HT.no rfl ?_
  refine HT.seq ?_
  refine HT.plain ?_
  refine sqS (q_eqs rfl rfl (r := false) (by kernel_rfl)) rfl ?_
  refine sAs rfl rfl ?_
  refine send ?_
  refine eseq ?_
  refine HT.no rfl ?_
  refine HT.seq ?_
  refine HT.plain ?_
  refine sqS (q_eqs rfl rfl (r := true) (by kernel_rfl)) rfl ?_
  refine sAs rfl rfl ?_
  refine send ?_
  refine eseq ?_
  refine HT.yes rfl ?_
  refine HT.seq ?_
  refine HT.plain ?_
  refine sMv rfl rfl ?_
  refine sl_ (l_callX1 (vs := [(.slice A n c)]) (Kc := []) (Bc := [Byt A n c bs]) [] [0] [Byt A n c bs] (fun b48 => [⟨b4, 29, [some (.slice none 0 0), some (.slice none 0 0), some (.slice none 0 0), some (.slice none 0 0)], true⟩, ⟨b48, 39, [some (.int .u64 (((nb bs 0) / 32 : Nat) : Int)), some (.int .u64 ((((nb bs 0) / 16) &&& 1 : Nat) : Int)), some (.int .u64 ((((nb bs 0) / 8) &&& 1 : Nat) : Int)), some (.int .u64 ((((nb bs 0) / 4) &&& 1 : Nat) : Int)), some (.int .u64 ((((nb bs 0) / 2) &&& 1 : Nat) : Int)), some (.int .u64 (((nb bs 0) &&& 1 : Nat) : Int)), some (.int .u64 ((nb bs 1 : Nat) : Int)), some (.int .u64 ((bN bs 2 2 : Nat) : Int)), some (.int .u64 ((bN bs 4 4 : Nat) : Int)), some (.int .u64 ((bN bs 8 2 : Nat) : Int)), some (.int .u64 ((nb bs 10 : Nat) : Int))], true⟩]) (fun b48 => [Byt A n c bs]) (by decide) rfl ca_40 (fun _ h => h) rfl rfl rfl rfl (fun w h => gtp_s11 w A n c bs (by omega) (by omega) (by omega) (by omega) (by omega) (by omega) h) (fun _ => rfl) (fun _ => rfl) (fun _ => rfl) (fun _ => rfl) fun b48 hf1 he2 => ?_)
  refine sqS (q_extract (vs := [(.agg #[(.slice (some ⟨b48, 0, none⟩) 11 11), (.slice none 0 0), (.slice none 0 0), (.slice (cutA A c 12) (n - 12) (c - 12))]), (.bool true), (.bool true)]) (i := 0) rfl rfl) rfl ?_
  refine sqS (q_extract (vs := [(.agg #[(.slice (some ⟨b48, 0, none⟩) 11 11), (.slice none 0 0), (.slice none 0 0), (.slice (cutA A c 12) (n - 12) (c - 12))]), (.bool true), (.bool true)]) (i := 1) rfl rfl) rfl ?_
  refine sqS (q_extract (vs := [(.agg #[(.slice (some ⟨b48, 0, none⟩) 11 11), (.slice none 0 0), (.slice none 0 0), (.slice (cutA A c 12) (n - 12) (c - 12))]), (.bool true), (.bool true)]) (i := 2) rfl rfl) rfl ?_
  refine sl_ (l_storeAgg (b := b4) (off := 0) (j := 0) (vs := [(.slice (some ⟨b48, 0, none⟩) 11 11), (.slice none 0 0), (.slice none 0 0), (.slice (cutA A c 12) (n - 12) (c - 12))]) rfl rfl aggs_29 (by simp [Value.one1]) rfl rfl rfl (Nat.le_of_ble_eq_true rfl) ?_)
  refine sAs rfl rfl ?_
  refine sAs rfl rfl ?_
  refine send ?_
  refine eseq ?_
  refine HT.ret ?_
  refine rt_in ?_
  refine rt_then ?_
  exact fun a ha w' hw => fin_ ha (resc3 ha Tryz.results26 rfl (ld_ aggs_29 hw (j := 0) rfl rfl (vs := [(.slice (some ⟨b48, 0, none⟩) 11 11), (.slice none 0 0), (.slice none 0 0), (.slice (cutA A c 12) (n - 12) (c - 12))]) rfl) rfl rfl) ⟨⟨⟨some ⟨b48, 0, none⟩, 11, 11, [(nb bs 0) / 32, ((nb bs 0) / 16) &&& 1, ((nb bs 0) / 8) &&& 1, ((nb bs 0) / 4) &&& 1, ((nb bs 0) / 2) &&& 1, (nb bs 0) &&& 1, nb bs 1, bN bs 2 2, bN bs 4 4, bN bs 8 2, nb bs 10]⟩, none, 0, 0, [], none, 0, 0, [], ⟨cutA A c 12, n - 12, c - 12, sl bs 12 n⟩⟩, rfl, hw.pres, Own.lay (all1 (Own.cel hw (j := 1) (sz := 1) (r := []) rfl rfl rfl rfl (Nat.le_refl _)) (all1 (Own.nilCel 1) (all1 (Own.nilCel 2) (all1 (Own.cut hw (j := 0) (lo := 12) (hi := n) rfl (fun _ h => .inr h) (by omega) (by omega)) all0)))), rfl⟩

theorem gtp_s12 (w : World) (A : Option Addr) (n : Nat) (c : Nat) (bs : List UInt8) (hn : n ≤ 2147483647) (ha : 8 ≤ n) (hb : bN bs 2 2 ≤ n - 8) (hc : 12 ≤ n) (hd : 4 ≤ bN bs 2 2) (he : nb bs 0 % 8 = 7) (hf : nb bs 11 = 0) (hst : St w [] [] [Byt A n c bs] w) : Calls Tryz.prog 40 #[(.slice A n c)] w (CP1 w [] [Byt A n c bs] (fun b48 => (.tuple #[(.agg #[(.slice (some ⟨b48, 0, none⟩) 11 11), (.slice none 0 0), (.slice none 0 0), (.slice (cutA A c 8) (n - 8) (c - 8))]), (.bool true), (.bool false)])) (fun b48 => [⟨b48, 39, [some (.int .u64 (((nb bs 0) / 32 : Nat) : Int)), some (.int .u64 ((((nb bs 0) / 16) &&& 1 : Nat) : Int)), some (.int .u64 ((((nb bs 0) / 8) &&& 1 : Nat) : Int)), some (.int .u64 ((((nb bs 0) / 4) &&& 1 : Nat) : Int)), some (.int .u64 ((((nb bs 0) / 2) &&& 1 : Nat) : Int)), some (.int .u64 (((nb bs 0) &&& 1 : Nat) : Int)), some (.int .u64 ((nb bs 1 : Nat) : Int)), some (.int .u64 ((bN bs 2 2 : Nat) : Int)), some (.int .u64 ((bN bs 4 4 : Nat) : Int)), some (.int .u64 ((bN bs 8 2 : Nat) : Int)), some (.int .u64 ((nb bs 10 : Nat) : Int))], true⟩]) (fun b48 => [])) := by
  have hnc00 : n ≤ c := (hst.fact (j := 0) rfl).2.1
  refine enter (vs := [(.slice A n c)]) Tryz.func40 rfl rfl rfl hst ?_
  refine HT.seq ?_
  refine HT.plain ?_
  refine sl_ (l_alloc (by decide) zero_29 fun b2 => ?_)
  refine sAs rfl rfl ?_
  refine sAs rfl rfl ?_
  refine send ?_
  refine eseq ?_
  refine HT.seq ?_
  refine HT.plain ?_
  refine sMv rfl rfl ?_
  refine sqS (q_index (i := 0) (j := 0) rfl rfl Tryz.underlying22 nagg_5 (fun _ h => h) rfl (by omega)) rfl ?_
  refine sqS (q_byte (i := 0) (j := 0) rfl nagg_5 (fun _ h => h) rfl (by omega)) rfl ?_
  refine sAs rfl rfl ?_
  refine send ?_
  refine eseq ?_
  refine HT.seq ?_
  refine HT.drawnS mixed (St.closed _ _ _ _) ?_
  refine dtake (f := 4) [0, 1, 2, 3, 4, 5, 6, 7, 8, 9, 10, 11, 12, 13, 14, 15, 16, 17, 18, 19, 20, 21, 22, 23, 24, 25, 26, 27, 28, 29, 30, 31, 32, 33] (by kernel_rfl) (St.closed _ _ _ _) (fun _ h => h) (by kernel_rfl) ?_
  refine dq rfl (q_move rfl) ?_
  refine dq rfl (q_slice (lo := 8) (hi := n) rfl Tryz.underlying22 nagg_5 (.inr ⟨_, _, rfl, rfl⟩) (.inl ⟨rfl, rfl⟩) (by omega) (by omega)) ?_
  refine dq rfl (q_move rfl) ?_
  refine dq rfl (q_shr (p := nb bs 0) (e := 5) (N := 32) rfl rfl (by decide) rfl) ?_
  refine dq rfl (q_convn (p := (nb bs 0) / 32) rfl Tryz.underlying5 Tryz.underlying39 (show (nb bs 0) / 32 < 18446744073709551616 by have := nb_lt bs 0; omega)) ?_
  refine dq rfl (q_move rfl) ?_
  refine dq rfl (q_shr (p := nb bs 0) (e := 4) (N := 16) rfl rfl (by decide) rfl) ?_
  refine dq rfl (q_and (p := (nb bs 0) / 16) (q := 1) rfl rfl rfl (show (nb bs 0) / 16 < 256 by have := nb_lt bs 0; omega) (by decide)) ?_
  refine dq rfl (q_convn (p := ((nb bs 0) / 16) &&& 1) rfl Tryz.underlying5 Tryz.underlying39 (show ((nb bs 0) / 16) &&& 1 < 18446744073709551616 by have := nb_lt bs 0; have := zm1 ((nb bs 0) / 16); have := Nat.and_le_left (n := (nb bs 0) / 16) (m := 1); have := Nat.and_le_right (n := (nb bs 0) / 16) (m := 1); omega)) ?_
  refine dq rfl (q_move rfl) ?_
  refine dq rfl (q_shr (p := nb bs 0) (e := 3) (N := 8) rfl rfl (by decide) rfl) ?_
  refine dq rfl (q_and (p := (nb bs 0) / 8) (q := 1) rfl rfl rfl (show (nb bs 0) / 8 < 256 by have := nb_lt bs 0; omega) (by decide)) ?_
  refine dq rfl (q_convn (p := ((nb bs 0) / 8) &&& 1) rfl Tryz.underlying5 Tryz.underlying39 (show ((nb bs 0) / 8) &&& 1 < 18446744073709551616 by have := nb_lt bs 0; have := zm1 ((nb bs 0) / 8); have := Nat.and_le_left (n := (nb bs 0) / 8) (m := 1); have := Nat.and_le_right (n := (nb bs 0) / 8) (m := 1); omega)) ?_
  refine dq rfl (q_move rfl) ?_
  refine dq rfl (q_shr (p := nb bs 0) (e := 2) (N := 4) rfl rfl (by decide) rfl) ?_
  refine dq rfl (q_and (p := (nb bs 0) / 4) (q := 1) rfl rfl rfl (show (nb bs 0) / 4 < 256 by have := nb_lt bs 0; omega) (by decide)) ?_
  refine dq rfl (q_convn (p := ((nb bs 0) / 4) &&& 1) rfl Tryz.underlying5 Tryz.underlying39 (show ((nb bs 0) / 4) &&& 1 < 18446744073709551616 by have := nb_lt bs 0; have := zm1 ((nb bs 0) / 4); have := Nat.and_le_left (n := (nb bs 0) / 4) (m := 1); have := Nat.and_le_right (n := (nb bs 0) / 4) (m := 1); omega)) ?_
  refine dq rfl (q_move rfl) ?_
  refine dq rfl (q_shr (p := nb bs 0) (e := 1) (N := 2) rfl rfl (by decide) rfl) ?_
  refine dq rfl (q_and (p := (nb bs 0) / 2) (q := 1) rfl rfl rfl (show (nb bs 0) / 2 < 256 by have := nb_lt bs 0; omega) (by decide)) ?_
  refine dq rfl (q_convn (p := ((nb bs 0) / 2) &&& 1) rfl Tryz.underlying5 Tryz.underlying39 (show ((nb bs 0) / 2) &&& 1 < 18446744073709551616 by have := nb_lt bs 0; have := zm1 ((nb bs 0) / 2); have := Nat.and_le_left (n := (nb bs 0) / 2) (m := 1); have := Nat.and_le_right (n := (nb bs 0) / 2) (m := 1); omega)) ?_
  refine dq rfl (q_move rfl) ?_
  refine dq rfl (q_and (p := nb bs 0) (q := 1) rfl rfl rfl (show nb bs 0 < 256 by have := nb_lt bs 0; omega) (by decide)) ?_
  refine dq rfl (q_convn (p := (nb bs 0) &&& 1) rfl Tryz.underlying5 Tryz.underlying39 (show (nb bs 0) &&& 1 < 18446744073709551616 by have := nb_lt bs 0; have := zm1 (nb bs 0); have := Nat.and_le_left (n := nb bs 0) (m := 1); have := Nat.and_le_right (n := nb bs 0) (m := 1); omega)) ?_
  refine dq rfl (q_move rfl) ?_
  refine dq rfl (q_index (i := 1) (j := 0) rfl rfl Tryz.underlying22 nagg_5 (fun _ h => h) rfl (by omega)) ?_
  refine dq rfl (q_byte (i := 1) (j := 0) rfl nagg_5 (fun _ h => h) rfl (by omega)) ?_
  refine dq rfl (q_convn (p := nb bs 1) rfl Tryz.underlying5 Tryz.underlying39 (show nb bs 1 < 18446744073709551616 by have := nb_lt bs 1; omega)) ?_
  refine dq rfl (q_move rfl) ?_
  refine dq rfl (q_slice (lo := 2) (hi := 4) rfl Tryz.underlying22 nagg_5 (.inr ⟨_, _, rfl, rfl⟩) (.inr ⟨_, _, rfl, rfl⟩) (by omega) (by omega)) ?_
  refine dq rfl (q_call (vs := [(.slice (cutA A c 2) (4 - 2) (c - 2))]) (v := (.int .u64 ((bN bs 2 2 : Nat) : Int))) rfl ca_34 (fun w h => NumberC w A n c bs (lo := 2) (hi := 4) (h.fact (j := 0) rfl) (k := 2) rfl (by decide) (by omega) (by omega))) ?_
  refine dq rfl (q_move rfl) ?_
  refine dq rfl (q_slice (lo := 4) (hi := 8) rfl Tryz.underlying22 nagg_5 (.inr ⟨_, _, rfl, rfl⟩) (.inr ⟨_, _, rfl, rfl⟩) (by omega) (by omega)) ?_
  refine dq rfl (q_call (vs := [(.slice (cutA A c 4) (8 - 4) (c - 4))]) (v := (.int .u64 ((bN bs 4 4 : Nat) : Int))) rfl ca_34 (fun w h => NumberC w A n c bs (lo := 4) (hi := 8) (h.fact (j := 0) rfl) (k := 4) rfl (by decide) (by omega) (by omega))) ?_
  refine QL.nil ?_
  refine RG.step2 34 36 (by kernel_rfl) ?_ ?_
  · refine dop rfl (l_buildSlice (e := 39) (vs := [(0, (.int .u64 (((nb bs 0) / 32 : Nat) : Int))), (1, (.int .u64 ((((nb bs 0) / 16) &&& 1 : Nat) : Int))), (2, (.int .u64 ((((nb bs 0) / 8) &&& 1 : Nat) : Int))), (3, (.int .u64 ((((nb bs 0) / 4) &&& 1 : Nat) : Int))), (4, (.int .u64 ((((nb bs 0) / 2) &&& 1 : Nat) : Int))), (5, (.int .u64 (((nb bs 0) &&& 1 : Nat) : Int))), (6, (.int .u64 ((nb bs 1 : Nat) : Int))), (7, (.int .u64 ((bN bs 2 2 : Nat) : Int))), (8, (.int .u64 ((bN bs 4 4 : Nat) : Int))), (9, (.int .u64 ((0 : Nat) : Int))), (10, (.int .u64 ((0 : Nat) : Int)))]) (cs := [(.int .u64 (((nb bs 0) / 32 : Nat) : Int)), (.int .u64 ((((nb bs 0) / 16) &&& 1 : Nat) : Int)), (.int .u64 ((((nb bs 0) / 8) &&& 1 : Nat) : Int)), (.int .u64 ((((nb bs 0) / 4) &&& 1 : Nat) : Int)), (.int .u64 ((((nb bs 0) / 2) &&& 1 : Nat) : Int)), (.int .u64 (((nb bs 0) &&& 1 : Nat) : Int)), (.int .u64 ((nb bs 1 : Nat) : Int)), (.int .u64 ((bN bs 2 2 : Nat) : Int)), (.int .u64 ((bN bs 4 4 : Nat) : Int)), (.int .u64 ((0 : Nat) : Int)), (.int .u64 ((0 : Nat) : Int))]) (by decide) rfl (fun _ => by kernel_rfl) fun b48 => ⟨(fun _ h => (h.wk [(0, [])] rfl)), ?_⟩)
    refine dtake (f := 2) [35] (by kernel_rfl) (St.closed _ _ _ _) (fun _ h => (h.wk [(0, [])] rfl)) (by kernel_rfl) ?_
    refine dq rfl (q_call (vs := [(.slice (cutA A c 8) (n - 8) (c - 8)), (.slice (some ⟨b48, 0, none⟩) 11 11)]) (v := (.agg #[(.slice (some ⟨b48, 0, none⟩) 11 11), (.slice none 0 0), (.slice none 0 0), (.slice (cutA A c 8) (n - 8) (c - 8))])) rfl ca_33 (fun w h => layerC w (cutA A c 8) (n - 8) (c - 8) (some ⟨b48, 0, none⟩) 11 11  (St.enter (sp := []) (Kc := []) (bi := []) h rfl rfl rfl))) ?_
    refine QL.nil ?_
    refine RG.step1 36 (by kernel_rfl) ?_
    refine dop rfl (l_alloc (by decide) zero_29 fun b6 => ⟨(fun _ h => (h.wk [(0, [])] rfl)), ?_⟩)
    refine RG.step1 37 (by kernel_rfl) ?_
    refine dop rfl (l_storeAgg (b := b6) (off := 0) (j := 2) (vs := [(.slice (some ⟨b48, 0, none⟩) 11 11), (.slice none 0 0), (.slice none 0 0), (.slice (cutA A c 8) (n - 8) (c - 8))]) rfl rfl aggs_29 (by simp [Value.one1]) rfl rfl rfl (Nat.le_of_ble_eq_true rfl) ⟨(fun _ h => (h.wk [(0, [])] rfl)), ?_⟩)
    refine dend (by kernel_rfl) ?_
    refine eseq ?_
    refine HT.seq ?_
    refine HT.seq ?_
    refine HT.plain ?_
    refine sMv rfl rfl ?_
    refine sqS (q_slice (lo := 2) (hi := 4) rfl Tryz.underlying22 nagg_5 (.inr ⟨_, _, rfl, rfl⟩) (.inr ⟨_, _, rfl, rfl⟩) (by omega) (by omega)) rfl ?_
    refine sqS (q_call (vs := [(.slice (cutA A c 2) (4 - 2) (c - 2))]) (v := (.int .u64 ((bN bs 2 2 : Nat) : Int))) rfl ca_34 (fun w h => NumberC w A n c bs (lo := 2) (hi := 4) (h.fact (j := 0) rfl) (k := 2) rfl (by decide) (by omega) (by omega))) rfl ?_
    refine sqS (q_convn (p := bN bs 2 2) rfl Tryz.underlying39 Tryz.underlying3 (show bN bs 2 2 < 9223372036854775808 by have := bN_lt bs 2 2 65536 rfl; omega)) rfl ?_
    refine sAs rfl rfl ?_
    refine send ?_
    refine eseq ?_
    refine HT.seq ?_
    refine HT.plain ?_
    refine sMv rfl rfl ?_
    refine sMv rfl rfl ?_
    refine sqS (q_len (len := n) rfl Tryz.underlying22) rfl ?_
    refine sqS (q_sub (p := n) (q := 8) rfl rfl (by omega) (show n < 9223372036854775808 by omega)) rfl ?_
    refine sqS (q_F (q_gt (p := bN bs 2 2) (q := n - 8) rfl rfl) (by have := bN_lt bs 2 2 65536 rfl; omega)) rfl ?_
    refine send ?_
    refine eseq ?_
    refine HT.no rfl ?_
    refine HT.skip ?_
    refine eseq ?_
    refine HT.seq ?_
    refine HT.seq ?_
    refine HT.plain ?_
    refine sMv rfl rfl ?_
    refine sqS (q_and (p := nb bs 0) (q := 7) rfl rfl rfl (show nb bs 0 < 256 by have := nb_lt bs 0; omega) (by decide)) rfl ?_
    refine sqS (q_F (q_eq (p := (nb bs 0) &&& 7) (q := 0) rfl rfl) (by have := nb_lt bs 0; have := zm7 (nb bs 0); have := Nat.and_le_left (n := nb bs 0) (m := 7); have := Nat.and_le_right (n := nb bs 0) (m := 7); omega)) rfl ?_
    refine send ?_
    refine eseq ?_
    refine HT.no rfl ?_
    refine HT.skip ?_
    refine eseq ?_
    refine HT.seq ?_
    refine HT.seq ?_
    refine HT.plain ?_
    refine sMv rfl rfl ?_
    refine sqS (q_len (len := n) rfl Tryz.underlying22) rfl ?_
    refine sqS (q_F (q_lt (p := n) (q := 12) rfl rfl) (by omega)) rfl ?_
    refine sMv rfl rfl ?_
    refine sgqS rfl (q_move rfl) rfl ?_
    refine sgqS rfl (q_slice (lo := 2) (hi := 4) rfl Tryz.underlying22 nagg_5 (.inr ⟨_, _, rfl, rfl⟩) (.inr ⟨_, _, rfl, rfl⟩) (by omega) (by omega)) rfl ?_
    refine sgqS rfl (q_call (vs := [(.slice (cutA A c 2) (4 - 2) (c - 2))]) (v := (.int .u64 ((bN bs 2 2 : Nat) : Int))) rfl ca_34 (fun w h => NumberC w A n c bs (lo := 2) (hi := 4) (h.fact (j := 0) rfl) (k := 2) rfl (by decide) (by omega) (by omega))) rfl ?_
    refine sgqS rfl (q_F (q_lt (p := bN bs 2 2) (q := 4) rfl rfl) (by have := bN_lt bs 2 2 65536 rfl; omega)) rfl ?_
    refine sqS (q_pick rfl (fun h => nomatch h) (fun _ => rfl)) rfl ?_
    refine send ?_
    refine eseq ?_
    refine HT.no rfl ?_
    refine HT.skip ?_
    refine eseq ?_
    refine HT.seq ?_
    refine HT.drawn mixed (St.closed _ _ _ _) (St w [] [⟨b2, 29, [some (.slice none 0 0), some (.slice none 0 0), some (.slice none 0 0), some (.slice none 0 0)], true⟩, ⟨b48, 39, [some (.int .u64 (((nb bs 0) / 32 : Nat) : Int)), some (.int .u64 ((((nb bs 0) / 16) &&& 1 : Nat) : Int)), some (.int .u64 ((((nb bs 0) / 8) &&& 1 : Nat) : Int)), some (.int .u64 ((((nb bs 0) / 4) &&& 1 : Nat) : Int)), some (.int .u64 ((((nb bs 0) / 2) &&& 1 : Nat) : Int)), some (.int .u64 (((nb bs 0) &&& 1 : Nat) : Int)), some (.int .u64 ((nb bs 1 : Nat) : Int)), some (.int .u64 ((bN bs 2 2 : Nat) : Int)), some (.int .u64 ((bN bs 4 4 : Nat) : Int)), none, none], true⟩, ⟨b6, 29, [some (.slice (some ⟨b48, 0, none⟩) 11 11), some (.slice none 0 0), some (.slice none 0 0), some (.slice (cutA A c 8) (n - 8) (c - 8))], true⟩] [Byt A n c bs]) ?_
    refine dtake (f := 3) [0, 1, 2, 3, 4, 5, 6, 7, 8, 9, 10, 11] (by kernel_rfl) (St.closed _ _ _ _) (fun _ h => (h.wk [(0, []), (1, [9, 10]), (2, [])] rfl)) (by kernel_rfl) ?_
    refine dq rfl (q_field (b := b6) (off := 0) rfl fo_29_0) ?_
    refine dq rfl (q_load (b := b6) (off := 0) (j := 2) rfl nagg_25 (fun _ h => h) rfl rfl rfl) ?_
    refine dq rfl (q_field (b := b6) (off := 0) rfl fo_29_0) ?_
    refine dq rfl (q_load (b := b6) (off := 0) (j := 2) rfl nagg_25 (fun _ h => h) rfl rfl rfl) ?_
    refine dq rfl (q_move rfl) ?_
    refine dq rfl (q_slice (lo := 8) (hi := 10) rfl Tryz.underlying22 nagg_5 (.inr ⟨_, _, rfl, rfl⟩) (.inr ⟨_, _, rfl, rfl⟩) (by omega) (by omega)) ?_
    refine dq rfl (q_call (vs := [(.slice (cutA A c 8) (10 - 8) (c - 8))]) (v := (.int .u64 ((bN bs 8 2 : Nat) : Int))) rfl ca_34 (fun w h => NumberC w A n c bs (lo := 8) (hi := 10) (h.fact (j := 0) rfl) (k := 2) rfl (by decide) (by omega) (by omega))) ?_
    refine dq rfl (q_move rfl) ?_
    refine dq rfl (q_index (i := 10) (j := 0) rfl rfl Tryz.underlying22 nagg_5 (fun _ h => h) rfl (by omega)) ?_
    refine dq rfl (q_byte (i := 10) (j := 0) rfl nagg_5 (fun _ h => h) rfl (by omega)) ?_
    refine dq rfl (q_convn (p := nb bs 10) rfl Tryz.underlying5 Tryz.underlying39 (show nb bs 10 < 18446744073709551616 by have := nb_lt bs 10; omega)) ?_
    refine dq rfl (q_indexK (b := b48) (i := 9) (sz := 1) rfl rfl Tryz.underlying25 size_39 (by decide)) ?_
    refine QL.nil ?_
    refine RG.step1 12 (by kernel_rfl) ?_
    refine dop rfl (l_store (b := b48) (off := 9) (j := 1) rfl rfl nagg_39 rfl rfl rfl rfl (dlt rfl) ⟨(fun _ h => (h.wk [(0, []), (1, [9, 10]), (2, [])] rfl)), ?_⟩)
    refine dtake (f := 1) [13] (by kernel_rfl) (St.closed _ _ _ _) (fun _ h => (h.wk [(0, []), (1, [9, 10]), (2, [])] rfl)) (by kernel_rfl) ?_
    refine dq rfl (q_indexK (b := b48) (i := 10) (sz := 1) rfl rfl Tryz.underlying25 size_39 (by decide)) ?_
    refine QL.nil ?_
    refine RG.step1 14 (by kernel_rfl) ?_
    refine dop rfl (l_store (b := b48) (off := 10) (j := 1) rfl rfl nagg_39 rfl rfl rfl rfl (dlt rfl) ⟨(fun _ h => (h.wk [(0, []), (1, [9, 10]), (2, [])] rfl)), ?_⟩)
    refine dend (by kernel_rfl) ?_
    refine eseq ?_
    refine HT.seq ?_
    refine HT.seq ?_
    refine HT.plain ?_
    refine sMv rfl rfl ?_
    refine sqS (q_and (p := nb bs 0) (q := 2) rfl rfl rfl (show nb bs 0 < 256 by have := nb_lt bs 0; omega) (by decide)) rfl ?_
    refine sqS (q_F (q_eq (p := (nb bs 0) &&& 2) (q := 0) rfl rfl) (by have := nb_lt bs 0; have := zb2 (nb bs 0); have := Nat.and_le_left (n := nb bs 0) (m := 2); have := Nat.and_le_right (n := nb bs 0) (m := 2); omega)) rfl ?_
    refine sMv rfl rfl ?_
    refine sgqS rfl (q_move rfl) rfl ?_
    refine sgqS rfl (q_and (p := nb bs 0) (q := 1) rfl rfl rfl (show nb bs 0 < 256 by have := nb_lt bs 0; omega) (by decide)) rfl ?_
    refine sgqS rfl (q_F (q_eq (p := (nb bs 0) &&& 1) (q := 0) rfl rfl) (by have := nb_lt bs 0; have := zm1 (nb bs 0); have := Nat.and_le_left (n := nb bs 0) (m := 1); have := Nat.and_le_right (n := nb bs 0) (m := 1); omega)) rfl ?_
    refine sqS (q_pick rfl (fun h => nomatch h) (fun _ => rfl)) rfl ?_
    refine send ?_
    refine eseq ?_
    refine HT.no rfl ?_
    refine HT.skip ?_
    refine eseq ?_
    refine HT.seq ?_
    refine HT.drawnS mixed (St.closed _ _ _ _) ?_
    refine dtake (f := 0) [0, 1, 2, 3, 4, 5, 6] (by kernel_rfl) (St.closed _ _ _ _) (fun _ h => h) (by kernel_rfl) ?_
    refine dq rfl (q_move rfl) ?_
    refine dq rfl (q_index (i := 11) (j := 0) rfl rfl Tryz.underlying22 nagg_5 (fun _ h => h) rfl (by omega)) ?_
    refine dq rfl (q_byte (i := 11) (j := 0) rfl nagg_5 (fun _ h => h) rfl (by omega)) ?_
    refine dq rfl (q_move rfl) ?_
    refine dq rfl (q_slice (lo := 12) (hi := n) rfl Tryz.underlying22 nagg_5 (.inr ⟨_, _, rfl, rfl⟩) (.inl ⟨rfl, rfl⟩) (by omega) (by omega)) ?_
    refine dq rfl (q_assign rfl) ?_
    refine dq rfl (q_assign rfl) ?_
    refine QL.nil ?_
    refine dend (by kernel_rfl) ?_
    refine eseq ?_
    refine HT.seq ?_
    refine HT.seq ?_
    refine HT.plain ?_
    refine sMv rfl rfl ?_
    refine sqS (q_and (p := nb bs 0) (q := 4) rfl rfl rfl (show nb bs 0 < 256 by have := nb_lt bs 0; omega) (by decide)) rfl ?_
    refine sqS (q_F (q_eq (p := (nb bs 0) &&& 4) (q := 0) rfl rfl) (by have := nb_lt bs 0; have := zb4 (nb bs 0); have := Nat.and_le_left (n := nb bs 0) (m := 4); have := Nat.and_le_right (n := nb bs 0) (m := 4); omega)) rfl ?_
    refine send ?_
    refine eseq ?_
    refine HT.no rfl ?_
    refine HT.seq ?_
    refine HT.plain ?_
    refine sMv rfl rfl ?_
    refine sqS (q_T (q_eq (p := nb bs 11) (q := 0) rfl rfl) (by have := nb_lt bs 11; omega)) rfl ?_
    refine send ?_
    refine eseq ?_
    refine HT.yes rfl ?_
    refine HT.seq ?_
    refine HT.plain ?_
    refine sqS (q_loadAgg (b := b6) (off := 0) (j := 2) (vs := [(.slice (some ⟨b48, 0, none⟩) 11 11), (.slice none 0 0), (.slice none 0 0), (.slice (cutA A c 8) (n - 8) (c - 8))]) rfl aggs_29 (fun _ h => h) rfl rfl rfl) rfl ?_
    refine sl_ (l_storeAgg (b := b2) (off := 0) (j := 0) (vs := [(.slice (some ⟨b48, 0, none⟩) 11 11), (.slice none 0 0), (.slice none 0 0), (.slice (cutA A c 8) (n - 8) (c - 8))]) rfl rfl aggs_29 (by simp [Value.one1]) rfl rfl rfl (Nat.le_of_ble_eq_true rfl) ?_)
    refine sAs rfl rfl ?_
    refine sAs rfl rfl ?_
    refine send ?_
    refine eseq ?_
    refine HT.ret ?_
    refine rt_then ?_
    exact fun a ha w' hw => fin_ ha (resc3 ha Tryz.results40 rfl (ld_ aggs_29 hw (j := 0) rfl rfl (vs := [(.slice (some ⟨b48, 0, none⟩) 11 11), (.slice none 0 0), (.slice none 0 0), (.slice (cutA A c 8) (n - 8) (c - 8))]) rfl) rfl rfl) ⟨b48, rfl, (hw.wk [(1, [])] rfl), fr0⟩
  · refine dop rfl (l_alloc (by decide) zero_29 fun b6 => ⟨(fun _ h => (h.wk [(0, [])] rfl)), ?_⟩)
    refine RG.step1 34 (by kernel_rfl) ?_
    refine dop rfl (l_buildSlice (e := 39) (vs := [(0, (.int .u64 (((nb bs 0) / 32 : Nat) : Int))), (1, (.int .u64 ((((nb bs 0) / 16) &&& 1 : Nat) : Int))), (2, (.int .u64 ((((nb bs 0) / 8) &&& 1 : Nat) : Int))), (3, (.int .u64 ((((nb bs 0) / 4) &&& 1 : Nat) : Int))), (4, (.int .u64 ((((nb bs 0) / 2) &&& 1 : Nat) : Int))), (5, (.int .u64 (((nb bs 0) &&& 1 : Nat) : Int))), (6, (.int .u64 ((nb bs 1 : Nat) : Int))), (7, (.int .u64 ((bN bs 2 2 : Nat) : Int))), (8, (.int .u64 ((bN bs 4 4 : Nat) : Int))), (9, (.int .u64 ((0 : Nat) : Int))), (10, (.int .u64 ((0 : Nat) : Int)))]) (cs := [(.int .u64 (((nb bs 0) / 32 : Nat) : Int)), (.int .u64 ((((nb bs 0) / 16) &&& 1 : Nat) : Int)), (.int .u64 ((((nb bs 0) / 8) &&& 1 : Nat) : Int)), (.int .u64 ((((nb bs 0) / 4) &&& 1 : Nat) : Int)), (.int .u64 ((((nb bs 0) / 2) &&& 1 : Nat) : Int)), (.int .u64 (((nb bs 0) &&& 1 : Nat) : Int)), (.int .u64 ((nb bs 1 : Nat) : Int)), (.int .u64 ((bN bs 2 2 : Nat) : Int)), (.int .u64 ((bN bs 4 4 : Nat) : Int)), (.int .u64 ((0 : Nat) : Int)), (.int .u64 ((0 : Nat) : Int))]) (by decide) rfl (fun _ => by kernel_rfl) fun b48 => ⟨(fun _ h => (h.wk [(0, [])] rfl)), ?_⟩)
    refine dtake (f := 1) [35] (by kernel_rfl) (St.closed _ _ _ _) (fun _ h => (h.wk [(0, [])] rfl)) (by kernel_rfl) ?_
    refine dq rfl (q_call (vs := [(.slice (cutA A c 8) (n - 8) (c - 8)), (.slice (some ⟨b48, 0, none⟩) 11 11)]) (v := (.agg #[(.slice (some ⟨b48, 0, none⟩) 11 11), (.slice none 0 0), (.slice none 0 0), (.slice (cutA A c 8) (n - 8) (c - 8))])) rfl ca_33 (fun w h => layerC w (cutA A c 8) (n - 8) (c - 8) (some ⟨b48, 0, none⟩) 11 11  (St.enter (sp := []) (Kc := []) (bi := []) h rfl rfl rfl))) ?_
    refine QL.nil ?_
    refine RG.step1 37 (by kernel_rfl) ?_
    refine dop rfl (l_storeAgg (b := b6) (off := 0) (j := 1) (vs := [(.slice (some ⟨b48, 0, none⟩) 11 11), (.slice none 0 0), (.slice none 0 0), (.slice (cutA A c 8) (n - 8) (c - 8))]) rfl rfl aggs_29 (by simp [Value.one1]) rfl rfl rfl (Nat.le_of_ble_eq_true rfl) ⟨(fun _ h => (h.wk [(0, [])] rfl)), ?_⟩)
    refine dend (by kernel_rfl) ?_
    refine eseq ?_
    refine HT.seq ?_
    refine HT.seq ?_
    refine HT.plain ?_
    refine sMv rfl rfl ?_
    refine sqS (q_slice (lo := 2) (hi := 4) rfl Tryz.underlying22 nagg_5 (.inr ⟨_, _, rfl, rfl⟩) (.inr ⟨_, _, rfl, rfl⟩) (by omega) (by omega)) rfl ?_
    refine sqS (q_call (vs := [(.slice (cutA A c 2) (4 - 2) (c - 2))]) (v := (.int .u64 ((bN bs 2 2 : Nat) : Int))) rfl ca_34 (fun w h => NumberC w A n c bs (lo := 2) (hi := 4) (h.fact (j := 0) rfl) (k := 2) rfl (by decide) (by omega) (by omega))) rfl ?_
    refine sqS (q_convn (p := bN bs 2 2) rfl Tryz.underlying39 Tryz.underlying3 (show bN bs 2 2 < 9223372036854775808 by have := bN_lt bs 2 2 65536 rfl; omega)) rfl ?_
    refine sAs rfl rfl ?_
    refine send ?_
    refine eseq ?_
    refine HT.seq ?_
    refine HT.plain ?_
    refine sMv rfl rfl ?_
    refine sMv rfl rfl ?_
    refine sqS (q_len (len := n) rfl Tryz.underlying22) rfl ?_
    refine sqS (q_sub (p := n) (q := 8) rfl rfl (by omega) (show n < 9223372036854775808 by omega)) rfl ?_
    refine sqS (q_F (q_gt (p := bN bs 2 2) (q := n - 8) rfl rfl) (by have := bN_lt bs 2 2 65536 rfl; omega)) rfl ?_
    refine send ?_
    refine eseq ?_
    refine HT.no rfl ?_
    refine HT.skip ?_
    refine eseq ?_
    refine HT.seq ?_
    refine HT.seq ?_
    refine HT.plain ?_
    refine sMv rfl rfl ?_
    refine sqS (q_and (p := nb bs 0) (q := 7) rfl rfl rfl (show nb bs 0 < 256 by have := nb_lt bs 0; omega) (by decide)) rfl ?_
    refine sqS (q_F (q_eq (p := (nb bs 0) &&& 7) (q := 0) rfl rfl) (by have := nb_lt bs 0; have := zm7 (nb bs 0); have := Nat.and_le_left (n := nb bs 0) (m := 7); have := Nat.and_le_right (n := nb bs 0) (m := 7); omega)) rfl ?_
    refine send ?_
    refine eseq ?_
    refine HT.no rfl ?_
    refine HT.skip ?_
    refine eseq ?_
    refine HT.seq ?_
    refine HT.seq ?_
    refine HT.plain ?_
    refine sMv rfl rfl ?_
    refine sqS (q_len (len := n) rfl Tryz.underlying22) rfl ?_
    refine sqS (q_F (q_lt (p := n) (q := 12) rfl rfl) (by omega)) rfl ?_
    refine sMv rfl rfl ?_
    refine sgqS rfl (q_move rfl) rfl ?_
    refine sgqS rfl (q_slice (lo := 2) (hi := 4) rfl Tryz.underlying22 nagg_5 (.inr ⟨_, _, rfl, rfl⟩) (.inr ⟨_, _, rfl, rfl⟩) (by omega) (by omega)) rfl ?_
    refine sgqS rfl (q_call (vs := [(.slice (cutA A c 2) (4 - 2) (c - 2))]) (v := (.int .u64 ((bN bs 2 2 : Nat) : Int))) rfl ca_34 (fun w h => NumberC w A n c bs (lo := 2) (hi := 4) (h.fact (j := 0) rfl) (k := 2) rfl (by decide) (by omega) (by omega))) rfl ?_
    refine sgqS rfl (q_F (q_lt (p := bN bs 2 2) (q := 4) rfl rfl) (by have := bN_lt bs 2 2 65536 rfl; omega)) rfl ?_
    refine sqS (q_pick rfl (fun h => nomatch h) (fun _ => rfl)) rfl ?_
    refine send ?_
    refine eseq ?_
    refine HT.no rfl ?_
    refine HT.skip ?_
    refine eseq ?_
    refine HT.seq ?_
    refine HT.drawn mixed (St.closed _ _ _ _) (St w [] [⟨b2, 29, [some (.slice none 0 0), some (.slice none 0 0), some (.slice none 0 0), some (.slice none 0 0)], true⟩, ⟨b6, 29, [some (.slice (some ⟨b48, 0, none⟩) 11 11), some (.slice none 0 0), some (.slice none 0 0), some (.slice (cutA A c 8) (n - 8) (c - 8))], true⟩, ⟨b48, 39, [some (.int .u64 (((nb bs 0) / 32 : Nat) : Int)), some (.int .u64 ((((nb bs 0) / 16) &&& 1 : Nat) : Int)), some (.int .u64 ((((nb bs 0) / 8) &&& 1 : Nat) : Int)), some (.int .u64 ((((nb bs 0) / 4) &&& 1 : Nat) : Int)), some (.int .u64 ((((nb bs 0) / 2) &&& 1 : Nat) : Int)), some (.int .u64 (((nb bs 0) &&& 1 : Nat) : Int)), some (.int .u64 ((nb bs 1 : Nat) : Int)), some (.int .u64 ((bN bs 2 2 : Nat) : Int)), some (.int .u64 ((bN bs 4 4 : Nat) : Int)), none, none], true⟩] [Byt A n c bs]) ?_
    refine dtake (f := 3) [0, 1, 2, 3, 4, 5, 6, 7, 8, 9, 10, 11] (by kernel_rfl) (St.closed _ _ _ _) (fun _ h => (h.wk [(0, []), (1, []), (2, [9, 10])] rfl)) (by kernel_rfl) ?_
    refine dq rfl (q_field (b := b6) (off := 0) rfl fo_29_0) ?_
    refine dq rfl (q_load (b := b6) (off := 0) (j := 1) rfl nagg_25 (fun _ h => h) rfl rfl rfl) ?_
    refine dq rfl (q_field (b := b6) (off := 0) rfl fo_29_0) ?_
    refine dq rfl (q_load (b := b6) (off := 0) (j := 1) rfl nagg_25 (fun _ h => h) rfl rfl rfl) ?_
    refine dq rfl (q_move rfl) ?_
    refine dq rfl (q_slice (lo := 8) (hi := 10) rfl Tryz.underlying22 nagg_5 (.inr ⟨_, _, rfl, rfl⟩) (.inr ⟨_, _, rfl, rfl⟩) (by omega) (by omega)) ?_
    refine dq rfl (q_call (vs := [(.slice (cutA A c 8) (10 - 8) (c - 8))]) (v := (.int .u64 ((bN bs 8 2 : Nat) : Int))) rfl ca_34 (fun w h => NumberC w A n c bs (lo := 8) (hi := 10) (h.fact (j := 0) rfl) (k := 2) rfl (by decide) (by omega) (by omega))) ?_
    refine dq rfl (q_move rfl) ?_
    refine dq rfl (q_index (i := 10) (j := 0) rfl rfl Tryz.underlying22 nagg_5 (fun _ h => h) rfl (by omega)) ?_
    refine dq rfl (q_byte (i := 10) (j := 0) rfl nagg_5 (fun _ h => h) rfl (by omega)) ?_
    refine dq rfl (q_convn (p := nb bs 10) rfl Tryz.underlying5 Tryz.underlying39 (show nb bs 10 < 18446744073709551616 by have := nb_lt bs 10; omega)) ?_
    refine dq rfl (q_indexK (b := b48) (i := 9) (sz := 1) rfl rfl Tryz.underlying25 size_39 (by decide)) ?_
    refine QL.nil ?_
    refine RG.step1 12 (by kernel_rfl) ?_
    refine dop rfl (l_store (b := b48) (off := 9) (j := 2) rfl rfl nagg_39 rfl rfl rfl rfl (dlt rfl) ⟨(fun _ h => (h.wk [(0, []), (1, []), (2, [9, 10])] rfl)), ?_⟩)
    refine dtake (f := 1) [13] (by kernel_rfl) (St.closed _ _ _ _) (fun _ h => (h.wk [(0, []), (1, []), (2, [9, 10])] rfl)) (by kernel_rfl) ?_
    refine dq rfl (q_indexK (b := b48) (i := 10) (sz := 1) rfl rfl Tryz.underlying25 size_39 (by decide)) ?_
    refine QL.nil ?_
    refine RG.step1 14 (by kernel_rfl) ?_
    refine dop rfl (l_store (b := b48) (off := 10) (j := 2) rfl rfl nagg_39 rfl rfl rfl rfl (dlt rfl) ⟨(fun _ h => (h.wk [(0, []), (1, []), (2, [9, 10])] rfl)), ?_⟩)
    refine dend (by kernel_rfl) ?_
    refine eseq ?_
    refine HT.seq ?_
    refine HT.seq ?_
    refine HT.plain ?_
    refine sMv rfl rfl ?_
    refine sqS (q_and (p := nb bs 0) (q := 2) rfl rfl rfl (show nb bs 0 < 256 by have := nb_lt bs 0; omega) (by decide)) rfl ?_
    refine sqS (q_F (q_eq (p := (nb bs 0) &&& 2) (q := 0) rfl rfl) (by have := nb_lt bs 0; have := zb2 (nb bs 0); have := Nat.and_le_left (n := nb bs 0) (m := 2); have := Nat.and_le_right (n := nb bs 0) (m := 2); omega)) rfl ?_
    refine sMv rfl rfl ?_
    refine sgqS rfl (q_move rfl) rfl ?_
    refine sgqS rfl (q_and (p := nb bs 0) (q := 1) rfl rfl rfl (show nb bs 0 < 256 by have := nb_lt bs 0; omega) (by decide)) rfl ?_
    refine sgqS rfl (q_F (q_eq (p := (nb bs 0) &&& 1) (q := 0) rfl rfl) (by have := nb_lt bs 0; have := zm1 (nb bs 0); have := Nat.and_le_left (n := nb bs 0) (m := 1); have := Nat.and_le_right (n := nb bs 0) (m := 1); omega)) rfl ?_
    refine sqS (q_pick rfl (fun h => nomatch h) (fun _ => rfl)) rfl ?_
    refine send ?_
    refine eseq ?_
    refine HT.no rfl ?_
    refine HT.skip ?_
    refine eseq ?_
    refine HT.seq ?_
    refine HT.drawnS mixed (St.closed _ _ _ _) ?_
    refine dtake (f := 0) [0, 1, 2, 3, 4, 5, 6] (by kernel_rfl) (St.closed _ _ _ _) (fun _ h => h) (by kernel_rfl) ?_
    refine dq rfl (q_move rfl) ?_
    refine dq rfl (q_index (i := 11) (j := 0) rfl rfl Tryz.underlying22 nagg_5 (fun _ h => h) rfl (by omega)) ?_
    refine dq rfl (q_byte (i := 11) (j := 0) rfl nagg_5 (fun _ h => h) rfl (by omega)) ?_
    refine dq rfl (q_move rfl) ?_
    refine dq rfl (q_slice (lo := 12) (hi := n) rfl Tryz.underlying22 nagg_5 (.inr ⟨_, _, rfl, rfl⟩) (.inl ⟨rfl, rfl⟩) (by omega) (by omega)) ?_
    refine dq rfl (q_assign rfl) ?_
    refine dq rfl (q_assign rfl) ?_
    refine QL.nil ?_
    refine dend (by kernel_rfl) ?_
    refine eseq ?_
    refine HT.seq ?_
    refine HT.seq ?_
    refine HT.plain ?_
    refine sMv rfl rfl ?_
    refine sqS (q_and (p := nb bs 0) (q := 4) rfl rfl rfl (show nb bs 0 < 256 by have := nb_lt bs 0; omega) (by decide)) rfl ?_
    refine sqS (q_F (q_eq (p := (nb bs 0) &&& 4) (q := 0) rfl rfl) (by have := nb_lt bs 0; have := zb4 (nb bs 0); have := Nat.and_le_left (n := nb bs 0) (m := 4); have := Nat.and_le_right (n := nb bs 0) (m := 4); omega)) rfl ?_
    refine send ?_
    refine eseq ?_
    refine HT.no rfl ?_
    refine HT.seq ?_
    refine HT.plain ?_
    refine sMv rfl rfl ?_
    refine sqS (q_T (q_eq (p := nb bs 11) (q := 0) rfl rfl) (by have := nb_lt bs 11; omega)) rfl ?_
    refine send ?_
    refine eseq ?_
    refine HT.yes rfl ?_
    refine HT.seq ?_
    refine HT.plain ?_
    refine sqS (q_loadAgg (b := b6) (off := 0) (j := 1) (vs := [(.slice (some ⟨b48, 0, none⟩) 11 11), (.slice none 0 0), (.slice none 0 0), (.slice (cutA A c 8) (n - 8) (c - 8))]) rfl aggs_29 (fun _ h => h) rfl rfl rfl) rfl ?_
    refine sl_ (l_storeAgg (b := b2) (off := 0) (j := 0) (vs := [(.slice (some ⟨b48, 0, none⟩) 11 11), (.slice none 0 0), (.slice none 0 0), (.slice (cutA A c 8) (n - 8) (c - 8))]) rfl rfl aggs_29 (by simp [Value.one1]) rfl rfl rfl (Nat.le_of_ble_eq_true rfl) ?_)
    refine sAs rfl rfl ?_
    refine sAs rfl rfl ?_
    refine send ?_
    refine eseq ?_
    refine HT.ret ?_
    refine rt_then ?_
    exact fun a ha w' hw => fin_ ha (resc3 ha Tryz.results40 rfl (ld_ aggs_29 hw (j := 0) rfl rfl (vs := [(.slice (some ⟨b48, 0, none⟩) 11 11), (.slice none 0 0), (.slice none 0 0), (.slice (cutA A c 8) (n - 8) (c - 8))]) rfl) rfl rfl) ⟨b48, rfl, (hw.wk [(2, [])] rfl), fr0⟩

theorem gtp_S12 (w : World) (A : Option Addr) (n : Nat) (c : Nat) (bs : List UInt8) (hn : n ≤ 2147483647) (ha : 8 ≤ n) (hb : bN bs 2 2 ≤ n - 8) (hc : 12 ≤ n) (hd : 4 ≤ bN bs 2 2) (he : nb bs 0 % 8 = 7) (hf : nb bs 11 = 0) (hst : St w [] [] [Byt A n c bs] w) : Calls Tryz.prog 26 #[(.string ⟨#[103, 116, 112]⟩), (.slice A n c)] w (SP w (Byt A n c bs) none) := by
  have hnc00 : n ≤ c := (hst.fact (j := 0) rfl).2.1
  refine enter (vs := [(.string ⟨#[103, 116, 112]⟩), (.slice A n c)]) Tryz.func26 rfl rfl rfl hst ?_
  refine HT.seq ?_
  refine HT.plain ?_
  refine sl_ (l_alloc (by decide) zero_29 fun b4 => ?_)
  refine sAs rfl rfl ?_
  refine sAs rfl rfl ?_
  refine send ?_
  refine eseq ?_
  refine HT.seq ?_
  refine HT.plain ?_
  refine sl_ (l_makeMap (by decide) fun b13 => ?_)
  refine sl_ (l_insert (es := es0) (ck := 0) rfl rfl rfl Tryz.underlying36 Tryz.underlying9 fi0 ?_)
  refine sl_ (l_insert (es := es1) (ck := 1) rfl rfl rfl Tryz.underlying36 Tryz.underlying9 fi1 ?_)
  refine sl_ (l_insert (es := es2) (ck := 2) rfl rfl rfl Tryz.underlying36 Tryz.underlying9 fi2 ?_)
  refine sl_ (l_insert (es := es3) (ck := 3) rfl rfl rfl Tryz.underlying36 Tryz.underlying9 fi3 ?_)
  refine sl_ (l_insert (es := es4) (ck := 4) rfl rfl rfl Tryz.underlying36 Tryz.underlying9 fi4 ?_)
  refine sl_ (l_insert (es := es5) (ck := 5) rfl rfl rfl Tryz.underlying36 Tryz.underlying9 fi5 ?_)
  refine sl_ (l_insert (es := es6) (ck := 6) rfl rfl rfl Tryz.underlying36 Tryz.underlying9 fi6 ?_)
  refine sl_ (l_insert (es := es7) (ck := 7) rfl rfl rfl Tryz.underlying36 Tryz.underlying9 fi7 ?_)
  refine sl_ (l_insert (es := es8) (ck := 8) rfl rfl rfl Tryz.underlying36 Tryz.underlying9 fi8 ?_)
  refine sl_ (l_insert (es := es9) (ck := 9) rfl rfl rfl Tryz.underlying36 Tryz.underlying9 fi9 ?_)
  refine sl_ (l_insert (es := es10) (ck := 10) rfl rfl rfl Tryz.underlying36 Tryz.underlying9 fi10 ?_)
  refine sl_ (l_insert (es := es11) (ck := 11) rfl rfl rfl Tryz.underlying36 Tryz.underlying9 fi11 ?_)
  refine sl_ (l_insert (es := es12) (ck := 12) rfl rfl rfl Tryz.underlying36 Tryz.underlying9 fi12 ?_)
  refine sl_ (l_insert (es := es13) (ck := 13) rfl rfl rfl Tryz.underlying36 Tryz.underlying9 fi13 ?_)
  refine sl_ (l_insert (es := es14) (ck := 14) rfl rfl rfl Tryz.underlying36 Tryz.underlying9 fi14 ?_)
  refine sl_ (l_insert (es := es15) (ck := 15) rfl rfl rfl Tryz.underlying36 Tryz.underlying9 fi15 ?_)
  refine sl_ (l_insert (es := es16) (ck := 16) rfl rfl rfl Tryz.underlying36 Tryz.underlying9 fi16 ?_)
  refine sl_ (l_insert (es := es17) (ck := 17) rfl rfl rfl Tryz.underlying36 Tryz.underlying9 fi17 ?_)
  refine sl_ (l_insert (es := es18) (ck := 18) rfl rfl rfl Tryz.underlying36 Tryz.underlying9 fi18 ?_)
  refine sl_ (l_insert (es := es19) (ck := 19) rfl rfl rfl Tryz.underlying36 Tryz.underlying9 fi19 ?_)
  refine sl_ (l_insert (es := es20) (ck := 20) rfl rfl rfl Tryz.underlying36 Tryz.underlying9 fi20 ?_)
  refine sq (SM.closed) (q_move rfl) rfl ?_
  refine sq (SM.closed) (q_move rfl) rfl ?_
  refine sq (SM.closed) (q_lookup (es := es21) (i := 11) (v := (.int .i64 ((8 : Nat) : Int))) (fun _ h => h) rfl rfl Tryz.underlying36 Tryz.underlying9 (by kernel_rfl)) rfl ?_
  refine sq (SM.closed) (q_assign rfl) rfl ?_
  refine send ?_
  refine eseq ?_
  refine HT.unmap ?_
  refine HT.seq ?_
  refine HT.seq ?_
  refine HT.plain ?_
  refine sMv rfl rfl ?_
  refine sqS (q_len (len := n) rfl Tryz.underlying22) rfl ?_
  refine sMv rfl rfl ?_
  refine sqS (q_F (q_lt (p := n) (q := 8) rfl rfl) (by omega)) rfl ?_
  refine send ?_
  refine eseq ?_
  refine HT.no rfl ?_
  refine HT.skip ?_
  refine eseq ?_
  refine HT.seq ?_
  refine HT.seq ?_
  refine HT.plain ?_
  refine sMv rfl rfl ?_
  refine send ?_
  refine eseq ?_
  refine HT.block ?_
  refine HT.seq ?_
  refine HT.plain ?_
  refine sqS (q_eqs rfl rfl (r := false) (by kernel_rfl)) rfl ?_
  refine sAs rfl rfl ?_
  refine send ?_
  refine eseq ?_
  refine HT.no rfl ?_
  refine HT.seq ?_
  refine HT.plain ?_
  refine sqS (q_eqs rfl rfl (r := false) (by kernel_rfl)) rfl ?_
  refine sAs rfl rfl ?_
  refine send ?_
  refine eseq ?_
  refine HT.no rfl ?_
  refine HT.seq ?_
  refine HT.plain ?_
  refine sqS (q_eqs rfl rfl (r := false) (by kernel_rfl)) rfl ?_
  refine sAs rfl rfl ?_
  refine send ?_
  refine eseq ?_
  refine HT.no rfl ?_
  refine HT.seq ?_
  refine HT.plain ?_
  refine sqS (q_eqs rfl rfl (r := false) (by kernel_rfl)) rfl ?_
  refine sAs rfl rfl ?_
  refine send ?_
  refine eseq ?_
  refine HT.no rfl ?_
  refine HT.seq ?_
  refine HT.plain ?_
  refine sqS (q_eqs rfl rfl (r := false) (by kernel_rfl)) rfl ?_
  refine sAs rfl rfl ?_
  refine send ?_
  refine eseq ?_
  refine HT.no rfl ?_
  refine HT.seq ?_
  refine HT.plain ?_
  refine sqS (q_eqs rfl rfl (r := false) (by kernel_rfl)) rfl ?_
  refine sAs rfl rfl ?_
  refine send ?_
  refine eseq ?_
  refine HT.no rfl ?_
  refine HT.seq ?_
  refine HT.plain ?_
  refine sqS (q_eqs rfl rfl (r := false) (by kernel_rfl)) rfl ?_
  refine sAs rfl rfl ?_
  refine send ?_
  refine eseq ?_
  refine HT.no rfl ?_
  refine HT.seq ?_
  refine HT.plain ?_
  refine sqS (q_eqs rfl rfl (r := false) (by kernel_rfl)) rfl ?_
  refine sAs rfl rfl ?_
  refine send ?_
  refine eseq ?_
  refine HT.no rfl ?_
  refine HT.seq ?_
  refine HT.plain ?_
  refine sqS (q_eqs rfl rfl (r := false) (by kernel_rfl)) rfl ?_
  refine sAs rfl rfl ?_
  refine send ?_
  refine eseq ?_
  refine HT.no rfl ?_
  refine HT.seq ?_
  refine HT.plain ?_
  refine sqS (q_eqs rfl rfl (r := false) (by kernel_rfl)) rfl ?_
  refine sAs rfl rfl ?_
  refine send ?_
  refine eseq ?_
  refine HT.no rfl ?_
  refine HT.seq ?_
  refine HT.plain ?_
  refine sqS (q_eqs rfl rfl (r := false) (by kernel_rfl)) rfl ?_
  refine sAs rfl rfl ?_
  refine send ?_
  refine eseq ?_
  refine HT.no rfl ?_
  refine HT.seq ?_
  refine HT.plain ?_
  refine sqS (q_eqs rfl rfl (r := true) (by kernel_rfl)) rfl ?_
  refine sAs rfl rfl ?_
  refine send ?_
  refine eseq ?_
  refine HT.yes rfl ?_
  refine HT.seq ?_
  refine HT.plain ?_
  refine sMv rfl rfl ?_
  refine sl_ (l_callX1 (vs := [(.slice A n c)]) (Kc := []) (Bc := [Byt A n c bs]) [] [0] [Byt A n c bs] (fun b48 => [⟨b4, 29, [some (.slice none 0 0), some (.slice none 0 0), some (.slice none 0 0), some (.slice none 0 0)], true⟩, ⟨b48, 39, [some (.int .u64 (((nb bs 0) / 32 : Nat) : Int)), some (.int .u64 ((((nb bs 0) / 16) &&& 1 : Nat) : Int)), some (.int .u64 ((((nb bs 0) / 8) &&& 1 : Nat) : Int)), some (.int .u64 ((((nb bs 0) / 4) &&& 1 : Nat) : Int)), some (.int .u64 ((((nb bs 0) / 2) &&& 1 : Nat) : Int)), some (.int .u64 (((nb bs 0) &&& 1 : Nat) : Int)), some (.int .u64 ((nb bs 1 : Nat) : Int)), some (.int .u64 ((bN bs 2 2 : Nat) : Int)), some (.int .u64 ((bN bs 4 4 : Nat) : Int)), some (.int .u64 ((bN bs 8 2 : Nat) : Int)), some (.int .u64 ((nb bs 10 : Nat) : Int))], true⟩]) (fun b48 => [Byt A n c bs]) (by decide) rfl ca_40 (fun _ h => h) rfl rfl rfl rfl (fun w h => gtp_s12 w A n c bs (by omega) (by omega) (by omega) (by omega) (by omega) (by omega) (by omega) h) (fun _ => rfl) (fun _ => rfl) (fun _ => rfl) (fun _ => rfl) fun b48 hf1 he2 => ?_)
  refine sqS (q_extract (vs := [(.agg #[(.slice (some ⟨b48, 0, none⟩) 11 11), (.slice none 0 0), (.slice none 0 0), (.slice (cutA A c 8) (n - 8) (c - 8))]), (.bool true), (.bool false)]) (i := 0) rfl rfl) rfl ?_
  refine sqS (q_extract (vs := [(.agg #[(.slice (some ⟨b48, 0, none⟩) 11 11), (.slice none 0 0), (.slice none 0 0), (.slice (cutA A c 8) (n - 8) (c - 8))]), (.bool true), (.bool false)]) (i := 1) rfl rfl) rfl ?_
  refine sqS (q_extract (vs := [(.agg #[(.slice (some ⟨b48, 0, none⟩) 11 11), (.slice none 0 0), (.slice none 0 0), (.slice (cutA A c 8) (n - 8) (c - 8))]), (.bool true), (.bool false)]) (i := 2) rfl rfl) rfl ?_
  refine sl_ (l_storeAgg (b := b4) (off := 0) (j := 0) (vs := [(.slice (some ⟨b48, 0, none⟩) 11 11), (.slice none 0 0), (.slice none 0 0), (.slice (cutA A c 8) (n - 8) (c - 8))]) rfl rfl aggs_29 (by simp [Value.one1]) rfl rfl rfl (Nat.le_of_ble_eq_true rfl) ?_)
  refine sAs rfl rfl ?_
  refine sAs rfl rfl ?_
  refine send ?_
  refine eseq ?_
  refine HT.ret ?_
  refine rt_in ?_
  refine rt_then ?_
  exact fun a ha w' hw => fin_ ha (resc3 ha Tryz.results26 rfl (ld_ aggs_29 hw (j := 0) rfl rfl (vs := [(.slice (some ⟨b48, 0, none⟩) 11 11), (.slice none 0 0), (.slice none 0 0), (.slice (cutA A c 8) (n - 8) (c - 8))]) rfl) rfl rfl) ⟨⟨(some ⟨b48, 0, none⟩), 11, 11, []⟩, ⟨none, 0, 0, []⟩, ⟨none, 0, 0, []⟩, ⟨cutA A c 8, n - 8, c - 8, []⟩, true, rfl, hw.pres⟩
end Go.Proofs.YtfkaafbeeegenaaGreat.Zed
