/- pppoe: the reference -/
import Derived.Test.YtfkaafbeeegenaaGreatRead
import Derived.KernelRfl
namespace Go.Proofs.YtfkaafbeeegenaaGreat.Zed
set_option linter.unusedVariables false
set_option linter.unusedSimpArgs false
set_option maxRecDepth 100000
set_option maxHeartbeats 4000000
theorem ca_30 : callable Tryz.prog 30 = true := by kernel_rfl
theorem ca_62 : callable Tryz.prog 62 = true := by kernel_rfl
theorem ca_91 : callable Tryz.prog 91 = true := by kernel_rfl
theorem fo_72_5 : foff Tryz.prog 72 5 = some 6 := by kernel_rfl
theorem nagg_70 : nagg Tryz.prog 70 = true := by kernel_rfl
theorem fo_72_0 : foff Tryz.prog 72 0 = some 0 := by kernel_rfl
theorem aggs_68 : aggs Tryz.prog 68 = some 2 := by kernel_rfl
theorem ca_68 : callable Tryz.prog 68 = true := by kernel_rfl
theorem fo_72_1 : foff Tryz.prog 72 1 = some 2 := by kernel_rfl
theorem fo_72_2 : foff Tryz.prog 72 2 = some 3 := by kernel_rfl
theorem fo_72_3 : foff Tryz.prog 72 3 = some 4 := by kernel_rfl
theorem nagg_69 : nagg Tryz.prog 69 = true := by kernel_rfl
theorem fo_72_4 : foff Tryz.prog 72 4 = some 5 := by kernel_rfl
theorem me_66_LayerPayload : ∀ (b : Nat) (w : World), (method (Tryz.prog.types.size + Made.depth) 66 (.pointer (some ⟨b, 0, none⟩)) "LayerPayload").run Tryz.prog w = .ok (120, .pointer (some ⟨b, 0, none⟩)) w := fun b w => by kernel_rfl

theorem pppoe_S0 (w : World) (A : Option Addr) (n : Nat) (c : Nat) (bs : List UInt8) (hn : n ≤ 2147483647) (ha : n < 6) (hst : St w [] [] [Byt A n c bs] w) : Calls Tryz.prog 26 #[(.string ⟨#[112, 112, 112, 111, 101]⟩), (.slice A n c)] w (SP w (Byt A n c bs) (some none)) := by
  have hnc00 : n ≤ c := (hst.fact (j := 0) rfl).2.1
  refine enter (vs := [(.string ⟨#[112, 112, 112, 111, 101]⟩), (.slice A n c)]) Tryz.func26 rfl rfl rfl hst ?_
  refine HT.seq ?_
  refine HT.plain ?_
  refine sl_ (l_alloc (by decide) zero_29 fun b4 => ?_)
  refine sq (St.closed _ _ _ _) (q_assign rfl) rfl ?_
  refine sq (St.closed _ _ _ _) (q_assign rfl) rfl ?_
  refine send ?_
  refine eseq ?_
  refine HT.seq ?_
  refine HT.plain ?_
  refine sl_ (l_makeMap (by decide) fun b13 => ?_)
  refine sl_ (l_insert (es := es0) (ck := 0) rfl rfl rfl Tryz.underlying36 Tryz.underlying9 fi0 ?_)
  refine sl_ (l_insert (es := es1) (ck := 1) rfl rfl rfl Tryz.underlying36 Tryz.underlying9 fi1 ?_)
  refine sl_ (l_insert (es := es2) (ck := 2) rfl rfl rfl Tryz.underlying36 Tryz.underlying9 fi2 ?_)
  refine sl_ (l_insert (es := es3) (ck := 3) rfl rfl rfl Tryz.underlying36 Tryz.underlying9 fi3 ?_)
  refine sl_ (l_insert (es := es4) (ck := 4) rfl rfl rfl Tryz.underlying36 Tryz.underlying9 fi4 ?_)
  refine sl_ (l_insert (es := es5) (ck := 5) rfl rfl rfl Tryz.underlying36 Tryz.underlying9 fi5 ?_)
  refine sl_ (l_insert (es := es6) (ck := 6) rfl rfl rfl Tryz.underlying36 Tryz.underlying9 fi6 ?_)
  refine sl_ (l_insert (es := es7) (ck := 7) rfl rfl rfl Tryz.underlying36 Tryz.underlying9 fi7 ?_)
  refine sl_ (l_insert (es := es8) (ck := 8) rfl rfl rfl Tryz.underlying36 Tryz.underlying9 fi8 ?_)
  refine sl_ (l_insert (es := es9) (ck := 9) rfl rfl rfl Tryz.underlying36 Tryz.underlying9 fi9 ?_)
  refine sl_ (l_insert (es := es10) (ck := 10) rfl rfl rfl Tryz.underlying36 Tryz.underlying9 fi10 ?_)
  refine sl_ (l_insert (es := es11) (ck := 11) rfl rfl rfl Tryz.underlying36 Tryz.underlying9 fi11 ?_)
  refine sl_ (l_insert (es := es12) (ck := 12) rfl rfl rfl Tryz.underlying36 Tryz.underlying9 fi12 ?_)
  refine sl_ (l_insert (es := es13) (ck := 13) rfl rfl rfl Tryz.underlying36 Tryz.underlying9 fi13 ?_)
  refine sl_ (l_insert (es := es14) (ck := 14) rfl rfl rfl Tryz.underlying36 Tryz.underlying9 fi14 ?_)
  refine sl_ (l_insert (es := es15) (ck := 15) rfl rfl rfl Tryz.underlying36 Tryz.underlying9 fi15 ?_)
  refine sl_ (l_insert (es := es16) (ck := 16) rfl rfl rfl Tryz.underlying36 Tryz.underlying9 fi16 ?_)
  refine sl_ (l_insert (es := es17) (ck := 17) rfl rfl rfl Tryz.underlying36 Tryz.underlying9 fi17 ?_)
  refine sl_ (l_insert (es := es18) (ck := 18) rfl rfl rfl Tryz.underlying36 Tryz.underlying9 fi18 ?_)
  refine sl_ (l_insert (es := es19) (ck := 19) rfl rfl rfl Tryz.underlying36 Tryz.underlying9 fi19 ?_)
  refine sl_ (l_insert (es := es20) (ck := 20) rfl rfl rfl Tryz.underlying36 Tryz.underlying9 fi20 ?_)
  refine sq (SM.closed) (q_move rfl) rfl ?_
  refine sq (SM.closed) (q_move rfl) rfl ?_
  refine sq (SM.closed) (q_lookup (es := es21) (i := 0) (v := (.int .i64 ((6 : Nat) : Int))) (fun _ h => h) rfl rfl Tryz.underlying36 Tryz.underlying9 (by kernel_rfl)) rfl ?_
  refine sq (SM.closed) (q_assign rfl) rfl ?_
  refine send ?_
  refine eseq ?_
  refine HT.unmap ?_
  refine HT.seq ?_
  refine HT.seq ?_
  refine HT.plain ?_
  refine sq (St.closed _ _ _ _) (q_move rfl) rfl ?_
  refine sq (St.closed _ _ _ _) (q_len (len := n) rfl Tryz.underlying22) rfl ?_
  refine sq (St.closed _ _ _ _) (q_move rfl) rfl ?_
  refine sq (St.closed _ _ _ _) (q_T (q_lt (p := n) (q := 6) rfl rfl) (by omega)) rfl ?_
  refine send ?_
  refine eseq ?_
  refine HT.yes rfl ?_
  refine HT.seq ?_
  refine HT.plain ?_
  refine sq (St.closed _ _ _ _) (q_build (vs := []) (v := (.agg #[(.slice none 0 0), (.slice none 0 0), (.slice none 0 0), (.slice none 0 0)])) rfl (fun _ => by kernel_rfl)) rfl ?_
  refine sl_ (l_storeAgg (b := b4) (off := 0) (j := 0) (vs := [(.slice none 0 0), (.slice none 0 0), (.slice none 0 0), (.slice none 0 0)]) rfl rfl aggs_29 (by simp [Value.one1]) rfl rfl rfl (Nat.le_of_ble_eq_true rfl) ?_)
  refine sq (St.closed _ _ _ _) (q_assign rfl) rfl ?_
  refine sq (St.closed _ _ _ _) (q_assign rfl) rfl ?_
  refine send ?_
  refine eseq ?_
  refine HT.ret ?_
  refine rt_then ?_
  exact fun a ha w' hw => fin_ ha (resc3 ha Tryz.results26 rfl (ld_ aggs_29 hw (j := 0) rfl rfl (vs := [(.slice none 0 0), (.slice none 0 0), (.slice none 0 0), (.slice none 0 0)]) rfl) rfl rfl) ⟨rfl, hw.pres⟩

theorem pppoe_s1 (w : World) (A : Option Addr) (n : Nat) (c : Nat) (bs : List UInt8) (hn : n ≤ 2147483647) (ha : 6 ≤ n) (hb : n - 6 < bN bs 4 2) (hst : St w [] [] [Byt A n c bs] w) : Calls Tryz.prog 30 #[(.slice A n c)] w (fun e w' => e = .returned (.tuple #[(.agg #[(.slice none 0 0), (.slice none 0 0), (.slice none 0 0), (.slice none 0 0)]), (.bool false), (.bool true)]) ∧ Pres [] w w') := by
  have hnc00 : n ≤ c := (hst.fact (j := 0) rfl).2.1
  refine enter (vs := [(.slice A n c)]) Tryz.func30 rfl rfl rfl hst ?_
  refine HT.seq ?_
  refine HT.plain ?_
  refine sl_ (l_alloc (by decide) zero_29 fun b2 => ?_)
  refine sq (St.closed _ _ _ _) (q_assign rfl) rfl ?_
  refine sq (St.closed _ _ _ _) (q_assign rfl) rfl ?_
  refine send ?_
  refine eseq ?_
  refine HT.seq ?_
  refine HT.plain ?_
  refine sq (St.closed _ _ _ _) (q_move rfl) rfl ?_
  refine sq (St.closed _ _ _ _) (q_slice (lo := 4) (hi := 6) rfl Tryz.underlying22 nagg_5 (.inr ⟨_, _, rfl, rfl⟩) (.inr ⟨_, _, rfl, rfl⟩) (by omega) (by omega)) rfl ?_
  refine sq (St.closed _ _ _ _) (q_call (vs := [(.slice (cutA A c 4) (6 - 4) (c - 4))]) (v := (.int .u64 ((bN bs 4 2 : Nat) : Int))) rfl ca_34 (fun w h => NumberC w A n c bs (lo := 4) (hi := 6) (h.fact (j := 0) rfl) (k := 2) rfl (by decide) (by omega) (by omega))) rfl ?_
  refine sq (St.closed _ _ _ _) (q_convn (p := bN bs 4 2) rfl Tryz.underlying39 Tryz.underlying3 (show bN bs 4 2 < 9223372036854775808 by have := bN_lt bs 4 2 65536 rfl; omega)) rfl ?_
  refine sq (St.closed _ _ _ _) (q_assign rfl) rfl ?_
  refine send ?_
  refine eseq ?_
  refine HT.seq ?_
  refine HT.seq ?_
  refine HT.plain ?_
  refine sq (St.closed _ _ _ _) (q_move rfl) rfl ?_
  refine sq (St.closed _ _ _ _) (q_move rfl) rfl ?_
  refine sq (St.closed _ _ _ _) (q_len (len := n) rfl Tryz.underlying22) rfl ?_
  refine sq (St.closed _ _ _ _) (q_sub (p := n) (q := 6) rfl rfl (by omega) (show n < 9223372036854775808 by omega)) rfl ?_
  refine sq (St.closed _ _ _ _) (q_T (q_gt (p := bN bs 4 2) (q := n - 6) rfl rfl) (by have := bN_lt bs 4 2 65536 rfl; omega)) rfl ?_
  refine send ?_
  refine eseq ?_
  refine HT.yes rfl ?_
  refine HT.seq ?_
  refine HT.plain ?_
  refine sq (St.closed _ _ _ _) (q_build (vs := []) (v := (.agg #[(.slice none 0 0), (.slice none 0 0), (.slice none 0 0), (.slice none 0 0)])) rfl (fun _ => by kernel_rfl)) rfl ?_
  refine sl_ (l_storeAgg (b := b2) (off := 0) (j := 0) (vs := [(.slice none 0 0), (.slice none 0 0), (.slice none 0 0), (.slice none 0 0)]) rfl rfl aggs_29 (by simp [Value.one1]) rfl rfl rfl (Nat.le_of_ble_eq_true rfl) ?_)
  refine sq (St.closed _ _ _ _) (q_assign rfl) rfl ?_
  refine sq (St.closed _ _ _ _) (q_assign rfl) rfl ?_
  refine send ?_
  refine eseq ?_
  refine HT.ret ?_
  refine rt_then ?_
  exact fun a ha w' hw => fin_ ha (resc3 ha Tryz.results30 rfl (ld_ aggs_29 hw (j := 0) rfl rfl (vs := [(.slice none 0 0), (.slice none 0 0), (.slice none 0 0), (.slice none 0 0)]) rfl) rfl rfl) ⟨rfl, hw.pres⟩

theorem pppoe_S1 (w : World) (A : Option Addr) (n : Nat) (c : Nat) (bs : List UInt8) (hn : n ≤ 2147483647) (ha : 6 ≤ n) (hb : n - 6 < bN bs 4 2) (hst : St w [] [] [Byt A n c bs] w) : Calls Tryz.prog 26 #[(.string ⟨#[112, 112, 112, 111, 101]⟩), (.slice A n c)] w (SP w (Byt A n c bs) (some none)) := by
  have hnc00 : n ≤ c := (hst.fact (j := 0) rfl).2.1
  refine enter (vs := [(.string ⟨#[112, 112, 112, 111, 101]⟩), (.slice A n c)]) Tryz.func26 rfl rfl rfl hst ?_
  refine HT.seq ?_
  refine HT.plain ?_
  refine sl_ (l_alloc (by decide) zero_29 fun b4 => ?_)
  refine sq (St.closed _ _ _ _) (q_assign rfl) rfl ?_
  refine sq (St.closed _ _ _ _) (q_assign rfl) rfl ?_
  refine send ?_
  refine eseq ?_
  refine HT.seq ?_
  refine HT.plain ?_
  refine sl_ (l_makeMap (by decide) fun b13 => ?_)
  refine sl_ (l_insert (es := es0) (ck := 0) rfl rfl rfl Tryz.underlying36 Tryz.underlying9 fi0 ?_)
  refine sl_ (l_insert (es := es1) (ck := 1) rfl rfl rfl Tryz.underlying36 Tryz.underlying9 fi1 ?_)
  refine sl_ (l_insert (es := es2) (ck := 2) rfl rfl rfl Tryz.underlying36 Tryz.underlying9 fi2 ?_)
  refine sl_ (l_insert (es := es3) (ck := 3) rfl rfl rfl Tryz.underlying36 Tryz.underlying9 fi3 ?_)
  refine sl_ (l_insert (es := es4) (ck := 4) rfl rfl rfl Tryz.underlying36 Tryz.underlying9 fi4 ?_)
  refine sl_ (l_insert (es := es5) (ck := 5) rfl rfl rfl Tryz.underlying36 Tryz.underlying9 fi5 ?_)
  refine sl_ (l_insert (es := es6) (ck := 6) rfl rfl rfl Tryz.underlying36 Tryz.underlying9 fi6 ?_)
  refine sl_ (l_insert (es := es7) (ck := 7) rfl rfl rfl Tryz.underlying36 Tryz.underlying9 fi7 ?_)
  refine sl_ (l_insert (es := es8) (ck := 8) rfl rfl rfl Tryz.underlying36 Tryz.underlying9 fi8 ?_)
  refine sl_ (l_insert (es := es9) (ck := 9) rfl rfl rfl Tryz.underlying36 Tryz.underlying9 fi9 ?_)
  refine sl_ (l_insert (es := es10) (ck := 10) rfl rfl rfl Tryz.underlying36 Tryz.underlying9 fi10 ?_)
  refine sl_ (l_insert (es := es11) (ck := 11) rfl rfl rfl Tryz.underlying36 Tryz.underlying9 fi11 ?_)
  refine sl_ (l_insert (es := es12) (ck := 12) rfl rfl rfl Tryz.underlying36 Tryz.underlying9 fi12 ?_)
  refine sl_ (l_insert (es := es13) (ck := 13) rfl rfl rfl Tryz.underlying36 Tryz.underlying9 fi13 ?_)
  refine sl_ (l_insert (es := es14) (ck := 14) rfl rfl rfl Tryz.underlying36 Tryz.underlying9 fi14 ?_)
  refine sl_ (l_insert (es := es15) (ck := 15) rfl rfl rfl Tryz.underlying36 Tryz.underlying9 fi15 ?_)
  refine sl_ (l_insert (es := es16) (ck := 16) rfl rfl rfl Tryz.underlying36 Tryz.underlying9 fi16 ?_)
  refine sl_ (l_insert (es := es17) (ck := 17) rfl rfl rfl Tryz.underlying36 Tryz.underlying9 fi17 ?_)
  refine sl_ (l_insert (es := es18) (ck := 18) rfl rfl rfl Tryz.underlying36 Tryz.underlying9 fi18 ?_)
  refine sl_ (l_insert (es := es19) (ck := 19) rfl rfl rfl Tryz.underlying36 Tryz.underlying9 fi19 ?_)
  refine sl_ (l_insert (es := es20) (ck := 20) rfl rfl rfl Tryz.underlying36 Tryz.underlying9 fi20 ?_)
  refine sq (SM.closed) (q_move rfl) rfl ?_
  refine sq (SM.closed) (q_move rfl) rfl ?_
  refine sq (SM.closed) (q_lookup (es := es21) (i := 0) (v := (.int .i64 ((6 : Nat) : Int))) (fun _ h => h) rfl rfl Tryz.underlying36 Tryz.underlying9 (by kernel_rfl)) rfl ?_
  refine sq (SM.closed) (q_assign rfl) rfl ?_
  refine send ?_
  refine eseq ?_
  refine HT.unmap ?_
  refine HT.seq ?_
  refine HT.seq ?_
  refine HT.plain ?_
  refine sq (St.closed _ _ _ _) (q_move rfl) rfl ?_
  refine sq (St.closed _ _ _ _) (q_len (len := n) rfl Tryz.underlying22) rfl ?_
  refine sq (St.closed _ _ _ _) (q_move rfl) rfl ?_
  refine sq (St.closed _ _ _ _) (q_F (q_lt (p := n) (q := 6) rfl rfl) (by omega)) rfl ?_
  refine send ?_
  refine eseq ?_
  refine HT.no rfl ?_
  refine HT.skip ?_
  refine eseq ?_
  refine HT.seq ?_
  refine HT.seq ?_
  refine HT.plain ?_
  refine sq (St.closed _ _ _ _) (q_move rfl) rfl ?_
  refine send ?_
  refine eseq ?_
  refine HT.block ?_
  refine HT.seq ?_
  refine HT.plain ?_
  refine sq (St.closed _ _ _ _) (q_eqs rfl rfl (r := true) (by kernel_rfl)) rfl ?_
  refine sq (St.closed _ _ _ _) (q_assign rfl) rfl ?_
  refine send ?_
  refine eseq ?_
  refine HT.yes rfl ?_
  refine HT.seq ?_
  refine HT.plain ?_
  refine sq (St.closed _ _ _ _) (q_move rfl) rfl ?_
  refine sq (St.closed _ _ _ _) (q_call (vs := [(.slice A n c)]) (v := (.tuple #[(.agg #[(.slice none 0 0), (.slice none 0 0), (.slice none 0 0), (.slice none 0 0)]), (.bool false), (.bool true)])) rfl ca_30 (fun w h => pppoe_s1 w A n c bs (by omega) (by omega) (by omega) (St.enter (sp := []) (Kc := []) (bi := [0]) h rfl rfl rfl))) rfl ?_
  refine sq (St.closed _ _ _ _) (q_extract (vs := [(.agg #[(.slice none 0 0), (.slice none 0 0), (.slice none 0 0), (.slice none 0 0)]), (.bool false), (.bool true)]) (i := 0) rfl rfl) rfl ?_
  refine sq (St.closed _ _ _ _) (q_extract (vs := [(.agg #[(.slice none 0 0), (.slice none 0 0), (.slice none 0 0), (.slice none 0 0)]), (.bool false), (.bool true)]) (i := 1) rfl rfl) rfl ?_
  refine sq (St.closed _ _ _ _) (q_extract (vs := [(.agg #[(.slice none 0 0), (.slice none 0 0), (.slice none 0 0), (.slice none 0 0)]), (.bool false), (.bool true)]) (i := 2) rfl rfl) rfl ?_
  refine sl_ (l_storeAgg (b := b4) (off := 0) (j := 0) (vs := [(.slice none 0 0), (.slice none 0 0), (.slice none 0 0), (.slice none 0 0)]) rfl rfl aggs_29 (by simp [Value.one1]) rfl rfl rfl (Nat.le_of_ble_eq_true rfl) ?_)
  refine sq (St.closed _ _ _ _) (q_assign rfl) rfl ?_
  refine sq (St.closed _ _ _ _) (q_assign rfl) rfl ?_
  refine send ?_
  refine eseq ?_
  refine HT.ret ?_
  refine rt_in ?_
  refine rt_then ?_
  exact fun a ha w' hw => fin_ ha (resc3 ha Tryz.results26 rfl (ld_ aggs_29 hw (j := 0) rfl rfl (vs := [(.slice none 0 0), (.slice none 0 0), (.slice none 0 0), (.slice none 0 0)]) rfl) rfl rfl) ⟨rfl, hw.pres⟩

theorem pppoe_s2 (w : World) (A : Option Addr) (n : Nat) (c : Nat) (bs : List UInt8) (hn : n ≤ 2147483647) (ha : 6 ≤ n) (hb : bN bs 4 2 ≤ n - 6) (hst : St w [] [] [Byt A n c bs] w) : Calls Tryz.prog 30 #[(.slice A n c)] w (CP1 w [] [Byt A n c bs] (fun b39 => (.tuple #[(.agg #[(.slice (some ⟨b39, 0, none⟩) 5 5), (.slice none 0 0), (.slice none 0 0), (.slice (cutA A c 6) ((6 + (bN bs 4 2)) - 6) (c - 6))]), (.bool true), (.bool true)])) (fun b39 => [⟨b39, 39, [some (.int .u64 (((nb bs 0) / 16 : Nat) : Int)), some (.int .u64 (((nb bs 0) &&& 15 : Nat) : Int)), some (.int .u64 ((nb bs 1 : Nat) : Int)), some (.int .u64 ((bN bs 2 2 : Nat) : Int)), some (.int .u64 ((bN bs 4 2 : Nat) : Int))], true⟩]) (fun b39 => [])) := by
  have hnc00 : n ≤ c := (hst.fact (j := 0) rfl).2.1
  refine enter (vs := [(.slice A n c)]) Tryz.func30 rfl rfl rfl hst ?_
  refine HT.seq ?_
  refine HT.plain ?_
  refine sl_ (l_alloc (by decide) zero_29 fun b2 => ?_)
  refine sq (St.closed _ _ _ _) (q_assign rfl) rfl ?_
  refine sq (St.closed _ _ _ _) (q_assign rfl) rfl ?_
  refine send ?_
  refine eseq ?_
  refine HT.seq ?_
  refine HT.plain ?_
  refine sq (St.closed _ _ _ _) (q_move rfl) rfl ?_
  refine sq (St.closed _ _ _ _) (q_slice (lo := 4) (hi := 6) rfl Tryz.underlying22 nagg_5 (.inr ⟨_, _, rfl, rfl⟩) (.inr ⟨_, _, rfl, rfl⟩) (by omega) (by omega)) rfl ?_
  refine sq (St.closed _ _ _ _) (q_call (vs := [(.slice (cutA A c 4) (6 - 4) (c - 4))]) (v := (.int .u64 ((bN bs 4 2 : Nat) : Int))) rfl ca_34 (fun w h => NumberC w A n c bs (lo := 4) (hi := 6) (h.fact (j := 0) rfl) (k := 2) rfl (by decide) (by omega) (by omega))) rfl ?_
  refine sq (St.closed _ _ _ _) (q_convn (p := bN bs 4 2) rfl Tryz.underlying39 Tryz.underlying3 (show bN bs 4 2 < 9223372036854775808 by have := bN_lt bs 4 2 65536 rfl; omega)) rfl ?_
  refine sq (St.closed _ _ _ _) (q_assign rfl) rfl ?_
  refine send ?_
  refine eseq ?_
  refine HT.seq ?_
  refine HT.seq ?_
  refine HT.plain ?_
  refine sq (St.closed _ _ _ _) (q_move rfl) rfl ?_
  refine sq (St.closed _ _ _ _) (q_move rfl) rfl ?_
  refine sq (St.closed _ _ _ _) (q_len (len := n) rfl Tryz.underlying22) rfl ?_
  refine sq (St.closed _ _ _ _) (q_sub (p := n) (q := 6) rfl rfl (by omega) (show n < 9223372036854775808 by omega)) rfl ?_
  refine sq (St.closed _ _ _ _) (q_F (q_gt (p := bN bs 4 2) (q := n - 6) rfl rfl) (by have := bN_lt bs 4 2 65536 rfl; omega)) rfl ?_
  refine send ?_
  refine eseq ?_
  refine HT.no rfl ?_
  refine HT.skip ?_
  refine eseq ?_
  refine HT.seq ?_
  refine HT.drawn mixed (St.closed _ _ _ _) (St w [] [⟨b2, 29, [none, some (.slice none 0 0), some (.slice none 0 0), none], true⟩] [Byt A n c bs]) ?_
  refine dtake (f := 5) [0, 1, 2, 3, 4, 5, 6, 7, 8, 9, 10, 11, 12, 13, 14, 15, 16, 17, 18, 19, 20, 21, 22] (by kernel_rfl) (St.closed _ _ _ _) (fun _ h => (h.wk [(0, [0, 3])] rfl)) (by kernel_rfl) ?_
  refine dq rfl (q_move rfl) ?_
  refine dq rfl (q_move rfl) ?_
  refine dq rfl (q_add (p := 6) (q := bN bs 4 2) rfl rfl (show 6 + (bN bs 4 2) < 9223372036854775808 by have := bN_lt bs 4 2 65536 rfl; omega)) ?_
  refine dq rfl (q_slice (lo := 6) (hi := 6 + (bN bs 4 2)) rfl Tryz.underlying22 nagg_5 (.inr ⟨_, _, rfl, rfl⟩) (.inr ⟨_, _, rfl, rfl⟩) (by have := bN_lt bs 4 2 65536 rfl; omega) (by have := bN_lt bs 4 2 65536 rfl; omega)) ?_
  refine dq rfl (q_move rfl) ?_
  refine dq rfl (q_index (i := 0) (j := 0) rfl rfl Tryz.underlying22 nagg_5 (fun _ h => h) rfl (by omega)) ?_
  refine dq rfl (q_byte (i := 0) (j := 0) rfl nagg_5 (fun _ h => h) rfl (by omega)) ?_
  refine dq rfl (q_shr (p := nb bs 0) (e := 4) (N := 16) rfl rfl (by decide) rfl) ?_
  refine dq rfl (q_convn (p := (nb bs 0) / 16) rfl Tryz.underlying5 Tryz.underlying39 (show (nb bs 0) / 16 < 18446744073709551616 by have := nb_lt bs 0; omega)) ?_
  refine dq rfl (q_move rfl) ?_
  refine dq rfl (q_index (i := 0) (j := 0) rfl rfl Tryz.underlying22 nagg_5 (fun _ h => h) rfl (by omega)) ?_
  refine dq rfl (q_byte (i := 0) (j := 0) rfl nagg_5 (fun _ h => h) rfl (by omega)) ?_
  refine dq rfl (q_and (p := nb bs 0) (q := 15) rfl rfl rfl (show nb bs 0 < 256 by have := nb_lt bs 0; omega) (by decide)) ?_
  refine dq rfl (q_convn (p := (nb bs 0) &&& 15) rfl Tryz.underlying5 Tryz.underlying39 (show (nb bs 0) &&& 15 < 18446744073709551616 by have := nb_lt bs 0; have := zm15 (nb bs 0); have := Nat.and_le_left (n := nb bs 0) (m := 15); have := Nat.and_le_right (n := nb bs 0) (m := 15); omega)) ?_
  refine dq rfl (q_move rfl) ?_
  refine dq rfl (q_index (i := 1) (j := 0) rfl rfl Tryz.underlying22 nagg_5 (fun _ h => h) rfl (by omega)) ?_
  refine dq rfl (q_byte (i := 1) (j := 0) rfl nagg_5 (fun _ h => h) rfl (by omega)) ?_
  refine dq rfl (q_convn (p := nb bs 1) rfl Tryz.underlying5 Tryz.underlying39 (show nb bs 1 < 18446744073709551616 by have := nb_lt bs 1; omega)) ?_
  refine dq rfl (q_move rfl) ?_
  refine dq rfl (q_slice (lo := 2) (hi := 4) rfl Tryz.underlying22 nagg_5 (.inr ⟨_, _, rfl, rfl⟩) (.inr ⟨_, _, rfl, rfl⟩) (by omega) (by omega)) ?_
  refine dq rfl (q_call (vs := [(.slice (cutA A c 2) (4 - 2) (c - 2))]) (v := (.int .u64 ((bN bs 2 2 : Nat) : Int))) rfl ca_34 (fun w h => NumberC w A n c bs (lo := 2) (hi := 4) (h.fact (j := 0) rfl) (k := 2) rfl (by decide) (by omega) (by omega))) ?_
  refine dq rfl (q_move rfl) ?_
  refine dq rfl (q_convn (p := bN bs 4 2) rfl Tryz.underlying3 Tryz.underlying39 (show bN bs 4 2 < 18446744073709551616 by have := bN_lt bs 4 2 65536 rfl; omega)) ?_
  refine QL.nil ?_
  refine RG.step1 23 (by kernel_rfl) ?_
  refine dop rfl (l_buildSlice (e := 39) (vs := [(0, (.int .u64 (((nb bs 0) / 16 : Nat) : Int))), (1, (.int .u64 (((nb bs 0) &&& 15 : Nat) : Int))), (2, (.int .u64 ((nb bs 1 : Nat) : Int))), (3, (.int .u64 ((bN bs 2 2 : Nat) : Int))), (4, (.int .u64 ((bN bs 4 2 : Nat) : Int)))]) (cs := [(.int .u64 (((nb bs 0) / 16 : Nat) : Int)), (.int .u64 (((nb bs 0) &&& 15 : Nat) : Int)), (.int .u64 ((nb bs 1 : Nat) : Int)), (.int .u64 ((bN bs 2 2 : Nat) : Int)), (.int .u64 ((bN bs 4 2 : Nat) : Int))]) (by decide) rfl (fun _ => by kernel_rfl) fun b39 => ⟨(fun _ h => (h.wk [(0, [0, 3])] rfl)), ?_⟩)
  refine dtake (f := 3) [24] (by kernel_rfl) (St.closed _ _ _ _) (fun _ h => (h.wk [(0, [0, 3])] rfl)) (by kernel_rfl) ?_
  refine dq rfl (q_call (vs := [(.slice (cutA A c 6) ((6 + (bN bs 4 2)) - 6) (c - 6)), (.slice (some ⟨b39, 0, none⟩) 5 5)]) (v := (.agg #[(.slice (some ⟨b39, 0, none⟩) 5 5), (.slice none 0 0), (.slice none 0 0), (.slice (cutA A c 6) ((6 + (bN bs 4 2)) - 6) (c - 6))])) rfl ca_33 (fun w h => layerC w (cutA A c 6) ((6 + (bN bs 4 2)) - 6) (c - 6) (some ⟨b39, 0, none⟩) 5 5  (St.enter (sp := []) (Kc := []) (bi := []) h rfl rfl rfl))) ?_
  refine QL.nil ?_
  refine RG.step1 25 (by kernel_rfl) ?_
  refine dop rfl (l_storeAgg (b := b2) (off := 0) (j := 0) (vs := [(.slice (some ⟨b39, 0, none⟩) 5 5), (.slice none 0 0), (.slice none 0 0), (.slice (cutA A c 6) ((6 + (bN bs 4 2)) - 6) (c - 6))]) rfl rfl aggs_29 (by simp [Value.one1]) rfl rfl rfl (Nat.le_of_ble_eq_true rfl) ⟨(fun _ h => (h.wk [(0, [0, 3])] rfl)), ?_⟩)
  refine dtake (f := 0) [26, 27] (by kernel_rfl) (St.closed _ _ _ _) (fun _ h => (h.wk [(0, [0, 3])] rfl)) (by kernel_rfl) ?_
  refine dq rfl (q_assign rfl) ?_
  refine dq rfl (q_assign rfl) ?_
  refine QL.nil ?_
  refine dend (by kernel_rfl) ?_
  refine eseq ?_
  refine HT.ret ?_
  exact fun a ha w' hw => fin_ ha (resc3 ha Tryz.results30 rfl (ld_ aggs_29 hw (j := 0) rfl rfl (vs := [(.slice (some ⟨b39, 0, none⟩) 5 5), (.slice none 0 0), (.slice none 0 0), (.slice (cutA A c 6) ((6 + (bN bs 4 2)) - 6) (c - 6))]) rfl) rfl rfl) ⟨b39, rfl, (hw.wk [(1, [])] rfl), fr0⟩

theorem pppoe_S2 (w : World) (A : Option Addr) (n : Nat) (c : Nat) (bs : List UInt8) (hn : n ≤ 2147483647) (ha : 6 ≤ n) (hb : bN bs 4 2 ≤ n - 6) (hst : St w [] [] [Byt A n c bs] w) : Calls Tryz.prog 26 #[(.string ⟨#[112, 112, 112, 111, 101]⟩), (.slice A n c)] w (SP w (Byt A n c bs) (some (some ⟨[(nb bs 0) / 16, (nb bs 0) &&& 15, nb bs 1, bN bs 2 2, bN bs 4 2], [], [], sl bs 6 (6 + (bN bs 4 2))⟩))) := by
  have hnc00 : n ≤ c := (hst.fact (j := 0) rfl).2.1
  refine enter (vs := [(.string ⟨#[112, 112, 112, 111, 101]⟩), (.slice A n c)]) Tryz.func26 rfl rfl rfl hst ?_
  refine HT.seq ?_
  refine HT.plain ?_
  refine sl_ (l_alloc (by decide) zero_29 fun b4 => ?_)
  refine sq (St.closed _ _ _ _) (q_assign rfl) rfl ?_
  refine sq (St.closed _ _ _ _) (q_assign rfl) rfl ?_
  refine send ?_
  refine eseq ?_
  refine HT.seq ?_
  refine HT.plain ?_
  refine sl_ (l_makeMap (by decide) fun b13 => ?_)
  refine sl_ (l_insert (es := es0) (ck := 0) rfl rfl rfl Tryz.underlying36 Tryz.underlying9 fi0 ?_)
  refine sl_ (l_insert (es := es1) (ck := 1) rfl rfl rfl Tryz.underlying36 Tryz.underlying9 fi1 ?_)
  refine sl_ (l_insert (es := es2) (ck := 2) rfl rfl rfl Tryz.underlying36 Tryz.underlying9 fi2 ?_)
  refine sl_ (l_insert (es := es3) (ck := 3) rfl rfl rfl Tryz.underlying36 Tryz.underlying9 fi3 ?_)
  refine sl_ (l_insert (es := es4) (ck := 4) rfl rfl rfl Tryz.underlying36 Tryz.underlying9 fi4 ?_)
  refine sl_ (l_insert (es := es5) (ck := 5) rfl rfl rfl Tryz.underlying36 Tryz.underlying9 fi5 ?_)
  refine sl_ (l_insert (es := es6) (ck := 6) rfl rfl rfl Tryz.underlying36 Tryz.underlying9 fi6 ?_)
  refine sl_ (l_insert (es := es7) (ck := 7) rfl rfl rfl Tryz.underlying36 Tryz.underlying9 fi7 ?_)
  refine sl_ (l_insert (es := es8) (ck := 8) rfl rfl rfl Tryz.underlying36 Tryz.underlying9 fi8 ?_)
  refine sl_ (l_insert (es := es9) (ck := 9) rfl rfl rfl Tryz.underlying36 Tryz.underlying9 fi9 ?_)
  refine sl_ (l_insert (es := es10) (ck := 10) rfl rfl rfl Tryz.underlying36 Tryz.underlying9 fi10 ?_)
  refine sl_ (l_insert (es := es11) (ck := 11) rfl rfl rfl Tryz.underlying36 Tryz.underlying9 fi11 ?_)
  refine sl_ (l_insert (es := es12) (ck := 12) rfl rfl rfl Tryz.underlying36 Tryz.underlying9 fi12 ?_)
  refine sl_ (l_insert (es := es13) (ck := 13) rfl rfl rfl Tryz.underlying36 Tryz.underlying9 fi13 ?_)
  refine sl_ (l_insert (es := es14) (ck := 14) rfl rfl rfl Tryz.underlying36 Tryz.underlying9 fi14 ?_)
  refine sl_ (l_insert (es := es15) (ck := 15) rfl rfl rfl Tryz.underlying36 Tryz.underlying9 fi15 ?_)
  refine sl_ (l_insert (es := es16) (ck := 16) rfl rfl rfl Tryz.underlying36 Tryz.underlying9 fi16 ?_)
  refine sl_ (l_insert (es := es17) (ck := 17) rfl rfl rfl Tryz.underlying36 Tryz.underlying9 fi17 ?_)
  refine sl_ (l_insert (es := es18) (ck := 18) rfl rfl rfl Tryz.underlying36 Tryz.underlying9 fi18 ?_)
  refine sl_ (l_insert (es := es19) (ck := 19) rfl rfl rfl Tryz.underlying36 Tryz.underlying9 fi19 ?_)
  refine sl_ (l_insert (es := es20) (ck := 20) rfl rfl rfl Tryz.underlying36 Tryz.underlying9 fi20 ?_)
  refine sq (SM.closed) (q_move rfl) rfl ?_
  refine sq (SM.closed) (q_move rfl) rfl ?_
  refine sq (SM.closed) (q_lookup (es := es21) (i := 0) (v := (.int .i64 ((6 : Nat) : Int))) (fun _ h => h) rfl rfl Tryz.underlying36 Tryz.underlying9 (by kernel_rfl)) rfl ?_
  refine sq (SM.closed) (q_assign rfl) rfl ?_
  refine send ?_
  refine eseq ?_
  refine HT.unmap ?_
  refine HT.seq ?_
  refine HT.seq ?_
  refine HT.plain ?_
  refine sq (St.closed _ _ _ _) (q_move rfl) rfl ?_
  refine sq (St.closed _ _ _ _) (q_len (len := n) rfl Tryz.underlying22) rfl ?_
  refine sq (St.closed _ _ _ _) (q_move rfl) rfl ?_
  refine sq (St.closed _ _ _ _) (q_F (q_lt (p := n) (q := 6) rfl rfl) (by omega)) rfl ?_
  refine send ?_
  refine eseq ?_
  refine HT.no rfl ?_
  refine HT.skip ?_
  refine eseq ?_
  refine HT.seq ?_
  refine HT.seq ?_
  refine HT.plain ?_
  refine sq (St.closed _ _ _ _) (q_move rfl) rfl ?_
  refine send ?_
  refine eseq ?_
  refine HT.block ?_
  refine HT.seq ?_
  refine HT.plain ?_
  refine sq (St.closed _ _ _ _) (q_eqs rfl rfl (r := true) (by kernel_rfl)) rfl ?_
  refine sq (St.closed _ _ _ _) (q_assign rfl) rfl ?_
  refine send ?_
  refine eseq ?_
  refine HT.yes rfl ?_
  refine HT.seq ?_
  refine HT.plain ?_
  refine sq (St.closed _ _ _ _) (q_move rfl) rfl ?_
  refine sl_ (l_callX1 (vs := [(.slice A n c)]) (Kc := []) (Bc := [Byt A n c bs]) [] [0] [Byt A n c bs] (fun b39 => [⟨b4, 29, [some (.slice none 0 0), some (.slice none 0 0), some (.slice none 0 0), some (.slice none 0 0)], true⟩, ⟨b39, 39, [some (.int .u64 (((nb bs 0) / 16 : Nat) : Int)), some (.int .u64 (((nb bs 0) &&& 15 : Nat) : Int)), some (.int .u64 ((nb bs 1 : Nat) : Int)), some (.int .u64 ((bN bs 2 2 : Nat) : Int)), some (.int .u64 ((bN bs 4 2 : Nat) : Int))], true⟩]) (fun b39 => [Byt A n c bs]) (by decide) rfl ca_30 (fun _ h => h) rfl rfl rfl rfl (fun w h => pppoe_s2 w A n c bs (by omega) (by omega) (by omega) h) (fun _ => rfl) (fun _ => rfl) (fun _ => rfl) (fun _ => rfl) fun b39 hf1 he2 => ?_)
  refine sq (St.closed _ _ _ _) (q_extract (vs := [(.agg #[(.slice (some ⟨b39, 0, none⟩) 5 5), (.slice none 0 0), (.slice none 0 0), (.slice (cutA A c 6) ((6 + (bN bs 4 2)) - 6) (c - 6))]), (.bool true), (.bool true)]) (i := 0) rfl rfl) rfl ?_
  refine sq (St.closed _ _ _ _) (q_extract (vs := [(.agg #[(.slice (some ⟨b39, 0, none⟩) 5 5), (.slice none 0 0), (.slice none 0 0), (.slice (cutA A c 6) ((6 + (bN bs 4 2)) - 6) (c - 6))]), (.bool true), (.bool true)]) (i := 1) rfl rfl) rfl ?_
  refine sq (St.closed _ _ _ _) (q_extract (vs := [(.agg #[(.slice (some ⟨b39, 0, none⟩) 5 5), (.slice none 0 0), (.slice none 0 0), (.slice (cutA A c 6) ((6 + (bN bs 4 2)) - 6) (c - 6))]), (.bool true), (.bool true)]) (i := 2) rfl rfl) rfl ?_
  refine sl_ (l_storeAgg (b := b4) (off := 0) (j := 0) (vs := [(.slice (some ⟨b39, 0, none⟩) 5 5), (.slice none 0 0), (.slice none 0 0), (.slice (cutA A c 6) ((6 + (bN bs 4 2)) - 6) (c - 6))]) rfl rfl aggs_29 (by simp [Value.one1]) rfl rfl rfl (Nat.le_of_ble_eq_true rfl) ?_)
  refine sq (St.closed _ _ _ _) (q_assign rfl) rfl ?_
  refine sq (St.closed _ _ _ _) (q_assign rfl) rfl ?_
  refine send ?_
  refine eseq ?_
  refine HT.ret ?_
  refine rt_in ?_
  refine rt_then ?_
  exact fun a ha w' hw => fin_ ha (resc3 ha Tryz.results26 rfl (ld_ aggs_29 hw (j := 0) rfl rfl (vs := [(.slice (some ⟨b39, 0, none⟩) 5 5), (.slice none 0 0), (.slice none 0 0), (.slice (cutA A c 6) ((6 + (bN bs 4 2)) - 6) (c - 6))]) rfl) rfl rfl) ⟨⟨⟨some ⟨b39, 0, none⟩, 5, 5, [(nb bs 0) / 16, (nb bs 0) &&& 15, nb bs 1, bN bs 2 2, bN bs 4 2]⟩, none, 0, 0, [], none, 0, 0, [], ⟨cutA A c 6, (6 + (bN bs 4 2)) - 6, c - 6, sl bs 6 (6 + (bN bs 4 2))⟩⟩, rfl, hw.pres, Own.lay (all1 (Own.cel hw (j := 1) (sz := 1) (r := []) rfl rfl rfl rfl (Nat.le_refl _)) (all1 (Own.nilCel 1) (all1 (Own.nilCel 2) (all1 (Own.cut hw (j := 0) (lo := 6) (hi := 6 + (bN bs 4 2)) rfl (fun _ h => .inr h) (by have := bN_lt bs 4 2 65536 rfl; omega) (by have := bN_lt bs 4 2 65536 rfl; omega)) all0)))), rfl⟩
end Go.Proofs.YtfkaafbeeegenaaGreat.Zed
