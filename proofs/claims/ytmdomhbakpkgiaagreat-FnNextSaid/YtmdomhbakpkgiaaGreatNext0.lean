/- Next -/
import Derived.Test.YtmdomhbakpkgiaaGreatNBas
import Derived.KernelRfl
namespace Go.Proofs.YtmdomhbakpkgiaaGreat.Zed
set_option linter.unusedVariables false
set_option linter.unusedSimpArgs false
set_option maxRecDepth 100000
set_option maxHeartbeats 4000000
theorem aggs_71 : aggs Tryz.prog 71 = some 0 := by kernel_rfl
theorem ca_46 : callable Tryz.prog 46 = true := by kernel_rfl
theorem me_57_AddLayer : ∀ (b : Nat) (w : World), (method (Tryz.prog.types.size + Made.depth) 57 (.pointer (some ⟨b, 0, none⟩)) "AddLayer").run Tryz.prog w = .ok (77, .pointer (some ⟨b, 0, none⟩)) w := fun b w => by kernel_rfl
theorem ca_77 : callable Tryz.prog 77 = true := by kernel_rfl
theorem ca_16 : callable Tryz.prog 16 = true := by kernel_rfl
theorem ca_27 : callable Tryz.prog 27 = true := by kernel_rfl
theorem ca_8 : callable Tryz.prog 8 = true := by kernel_rfl
theorem ca_10 : callable Tryz.prog 10 = true := by kernel_rfl
theorem ca_9 : callable Tryz.prog 9 = true := by kernel_rfl
theorem zero_53 : (Tryz.prog.info? 53).bind (·.zero) = some (.pointer none) := by kernel_rfl
theorem ca_6 : callable Tryz.prog 6 = true := by kernel_rfl
theorem fo_37_3 : foff Tryz.prog 37 3 = some 4 := by kernel_rfl
theorem nagg_4 : nagg Tryz.prog 4 = true := by kernel_rfl
theorem fo_87_1 : foff Tryz.prog 87 1 = some 2 := by kernel_rfl
theorem ca_40 : callable Tryz.prog 40 = true := by kernel_rfl
theorem fo_87_2 : foff Tryz.prog 87 2 = some 3 := by kernel_rfl
theorem nagg_85 : nagg Tryz.prog 85 = true := by kernel_rfl
theorem fo_87_0 : foff Tryz.prog 87 0 = some 0 := by kernel_rfl
theorem aggs_34 : aggs Tryz.prog 34 = some 2 := by kernel_rfl
theorem ca_42 : callable Tryz.prog 42 = true := by kernel_rfl
theorem ca_20 : callable Tryz.prog 20 = true := by kernel_rfl
theorem ca_90 : callable Tryz.prog 90 = true := by kernel_rfl
theorem zero_32 : (Tryz.prog.info? 32).bind (·.zero) = some (.pointer none) := by kernel_rfl
theorem zero_38 : (Tryz.prog.info? 38).bind (·.zero) = some (.pointer none) := by kernel_rfl
theorem me_84_NextLayerType : ∀ (b : Nat) (w : World), (method (Tryz.prog.types.size + Made.depth) 84 (.pointer (some ⟨b, 0, none⟩)) "NextLayerType").run Tryz.prog w = .ok (89, .pointer (some ⟨b, 0, none⟩)) w := fun b w => by kernel_rfl
theorem ca_89 : callable Tryz.prog 89 = true := by kernel_rfl

theorem nm0c (w : World) (A : Option Addr) (n : Nat) (c : Nat) (bs : List UInt8) (hn : n ≤ 400) (ha : 5 ≤ n) (hb : bN bs 0 4 / 256 % 2 = 0) (hst : St w [] [] [Byt A n c bs] w) : Calls Tryz.prog 8 #[(.string ⟨#[109, 112, 108, 115]⟩), (.slice A n c)] w (fun e w' => e = .returned (.bool true) ∧ Pres [] w w') := by
  have hnc00 : n ≤ c := (hst.fact (j := 0) rfl).2.1
  refine enter (vs := [(.string ⟨#[109, 112, 108, 115]⟩), (.slice A n c)]) Tryz.func8 rfl rfl rfl hst ?_
  refine HT.seq ?_
  refine HT.plain ?_
  refine sq (St.closed _ _ _ _) (q_assign rfl) rfl ?_
  refine send ?_
  refine eseq ?_
  refine HT.seq ?_
  refine HT.seq ?_
  refine HT.plain ?_
  refine sq (St.closed _ _ _ _) (q_move rfl) rfl ?_
  refine send ?_
  refine eseq ?_
  refine HT.block ?_
  refine HT.seq ?_
  refine HT.plain ?_
  refine sq (St.closed _ _ _ _) (q_eqs rfl rfl (r := false) (by kernel_rfl)) rfl ?_
  refine sq (St.closed _ _ _ _) (q_assign rfl) rfl ?_
  refine send ?_
  refine eseq ?_
  refine HT.no rfl ?_
  refine HT.seq ?_
  refine HT.plain ?_
  refine sq (St.closed _ _ _ _) (q_eqs rfl rfl (r := false) (by kernel_rfl)) rfl ?_
  refine sq (St.closed _ _ _ _) (q_assign rfl) rfl ?_
  refine send ?_
  refine eseq ?_
  refine HT.no rfl ?_
  refine HT.seq ?_
  refine HT.plain ?_
  refine sq (St.closed _ _ _ _) (q_eqs rfl rfl (r := false) (by kernel_rfl)) rfl ?_
  refine sq (St.closed _ _ _ _) (q_assign rfl) rfl ?_
  refine send ?_
  refine eseq ?_
  refine HT.no rfl ?_
  refine HT.seq ?_
  refine HT.plain ?_
  refine sq (St.closed _ _ _ _) (q_eqs rfl rfl (r := true) (by kernel_rfl)) rfl ?_
  refine sq (St.closed _ _ _ _) (q_assign rfl) rfl ?_
  refine send ?_
  refine eseq ?_
  refine HT.yes rfl ?_
  refine HT.seq ?_
  refine HT.plain ?_
  refine sq (St.closed _ _ _ _) (q_move rfl) rfl ?_
  refine sq (St.closed _ _ _ _) (q_len (len := n) rfl Tryz.underlying22) rfl ?_
  refine sq (St.closed _ _ _ _) (q_T (q_ge (p := n) (q := 4) rfl rfl) (by omega)) rfl ?_
  refine sq (St.closed _ _ _ _) (q_assign rfl) rfl ?_
  refine send ?_
  refine eseq ?_
  refine HT.ret ?_
  refine rt_in ?_
  refine rt_then ?_
  exact fun a ha w' hw => fin_ ha (res1 ha Tryz.results8 rfl) ⟨rfl, hw.pres⟩

theorem nm0d (w : World) (A : Option Addr) (n : Nat) (c : Nat) (bs : List UInt8) (kb : Nat) (hn : n ≤ 400) (ha : 5 ≤ n) (hb : bN bs 0 4 / 256 % 2 = 0) (hst : St w [kb] [⟨kb, 59, [some .nilIface], true⟩] [Byt A n c bs] w) : Calls Tryz.prog 27 #[(.slice A n c), (.iface 57 (.pointer (some ⟨kb, 0, none⟩)))] w (CP1 w [kb] [Byt A n c bs] (fun b28 => .nilIface) (fun b28 => [⟨kb, 59, [some (.iface 32 (.pointer (some ⟨b28, 0, none⟩)))], true⟩, ⟨b28, 37, [some (.slice (cutA A c 0) (4 - 0) (c - 0)), some (.slice (cutA A c 4) (n - 4) (c - 4)), some (.int .u32 (((bN bs 0 4) / 4096 : Nat) : Int)), some (.int .u8 (((((bN bs 0 4) / 512) % 256) &&& 7 : Nat) : Int)), some (.bool false), some (.int .u8 (((bN bs 0 4) % 256 : Nat) : Int))], true⟩]) (fun b28 => [])) := by
  have hnc00 : n ≤ c := (hst.fact (j := 0) rfl).2.1
  refine enter (vs := [(.slice A n c), (.iface 57 (.pointer (some ⟨kb, 0, none⟩)))]) Tryz.func27 rfl rfl rfl hst ?_
  refine HT.seq ?_
  refine HT.plain ?_
  refine sq (St.closed _ _ _ _) (q_assign rfl) rfl ?_
  refine send ?_
  refine eseq ?_
  refine HT.seq ?_
  refine HT.drawnS mixed (St.closed _ _ _ _) ?_
  refine dtake (f := 0) [0, 1, 2, 3, 4] (by kernel_rfl) (St.closed _ _ _ _) (fun _ h => h) (by kernel_rfl) ?_
  refine dq rfl (q_loadEmpty rfl aggs_71) ?_
  refine dq rfl (q_move rfl) ?_
  refine dq rfl (q_slice (lo := 0) (hi := 4) rfl Tryz.underlying22 nagg_5 (.inl ⟨rfl, rfl⟩) (.inr ⟨_, _, rfl, rfl⟩) (by omega) (by omega)) ?_
  refine dq rfl (q_call (vs := [(.agg #[]), (.slice (cutA A c 0) (4 - 0) (c - 0))]) (v := (.int .u32 ((bN bs 0 4 : Nat) : Int))) rfl ca_46 (fun w h => U32 w A n c bs (lo := 0) (hi := 4) (h.fact (j := 0) rfl) (by omega) (by omega))) ?_
  refine dq rfl (q_assign rfl) ?_
  refine QL.nil ?_
  refine dend (by kernel_rfl) ?_
  refine eseq ?_
  refine HT.seq ?_
  refine HT.drawnS mixed (St.closed _ _ _ _) ?_
  refine dtake (f := 2) [0, 1, 2, 3, 4, 5, 6, 7, 8, 9, 10, 11, 12, 13, 14, 15, 16] (by kernel_rfl) (St.closed _ _ _ _) (fun _ h => h) (by kernel_rfl) ?_
  refine dq rfl (q_move rfl) ?_
  refine dq rfl (q_shr (p := bN bs 0 4) (e := 12) (N := 4096) rfl rfl (by decide) rfl) ?_
  refine dq rfl (q_move rfl) ?_
  refine dq rfl (q_shr (p := bN bs 0 4) (e := 9) (N := 512) rfl rfl (by decide) rfl) ?_
  refine dq rfl (q_convw (p := (bN bs 0 4) / 512) rfl Tryz.underlying35 Tryz.underlying5 rfl) ?_
  refine dq rfl (q_and (p := ((bN bs 0 4) / 512) % 256) (q := 7) rfl rfl rfl (show ((bN bs 0 4) / 512) % 256 < 256 by have := bN_lt bs 0 4 4294967296 rfl; omega) (by decide)) ?_
  refine dq rfl (q_move rfl) ?_
  refine dq rfl (q_and (p := bN bs 0 4) (q := 256) rfl rfl rfl (show bN bs 0 4 < 4294967296 by have := bN_lt bs 0 4 4294967296 rfl; omega) (by decide)) ?_
  refine dq rfl (q_F (q_ne (p := (bN bs 0 4) &&& 256) (q := 0) rfl rfl) (by have := bN_lt bs 0 4 4294967296 rfl; have := zb256 (bN bs 0 4); have := Nat.and_le_left (n := bN bs 0 4) (m := 256); have := Nat.and_le_right (n := bN bs 0 4) (m := 256); omega)) ?_
  refine dq rfl (q_move rfl) ?_
  refine dq rfl (q_convw (p := bN bs 0 4) rfl Tryz.underlying35 Tryz.underlying5 rfl) ?_
  refine dq rfl (q_move rfl) ?_
  refine dq rfl (q_slice (lo := 0) (hi := 4) rfl Tryz.underlying22 nagg_5 (.inl ⟨rfl, rfl⟩) (.inr ⟨_, _, rfl, rfl⟩) (by omega) (by omega)) ?_
  refine dq rfl (q_move rfl) ?_
  refine dq rfl (q_slice (lo := 4) (hi := n) rfl Tryz.underlying22 nagg_5 (.inr ⟨_, _, rfl, rfl⟩) (.inl ⟨rfl, rfl⟩) (by omega) (by omega)) ?_
  refine dq rfl (q_build (vs := [(0, (.slice (cutA A c 0) (4 - 0) (c - 0))), (1, (.slice (cutA A c 4) (n - 4) (c - 4)))]) (v := (.agg #[(.slice (cutA A c 0) (4 - 0) (c - 0)), (.slice (cutA A c 4) (n - 4) (c - 4))])) rfl (fun _ => by kernel_rfl)) ?_
  refine dq rfl (q_build (vs := [(1, (.int .u32 (((bN bs 0 4) / 4096 : Nat) : Int))), (2, (.int .u8 (((((bN bs 0 4) / 512) % 256) &&& 7 : Nat) : Int))), (3, (.bool false)), (4, (.int .u8 (((bN bs 0 4) % 256 : Nat) : Int))), (0, (.agg #[(.slice (cutA A c 0) (4 - 0) (c - 0)), (.slice (cutA A c 4) (n - 4) (c - 4))]))]) (v := (.agg #[(.slice (cutA A c 0) (4 - 0) (c - 0)), (.slice (cutA A c 4) (n - 4) (c - 4)), (.int .u32 (((bN bs 0 4) / 4096 : Nat) : Int)), (.int .u8 (((((bN bs 0 4) / 512) % 256) &&& 7 : Nat) : Int)), (.bool false), (.int .u8 (((bN bs 0 4) % 256 : Nat) : Int))])) rfl (fun _ => by kernel_rfl)) ?_
  refine QL.nil ?_
  refine RG.step1 17 (by kernel_rfl) ?_
  refine dop rfl (l_box (by decide) rfl fun b28 => ⟨(fun _ h => (h.wk [(0, [])] rfl)), ?_⟩)
  refine dtake (f := 0) [18] (by kernel_rfl) (St.closed _ _ _ _) (fun _ h => (h.wk [(0, [])] rfl)) (by kernel_rfl) ?_
  refine dq rfl (q_assign rfl) ?_
  refine QL.nil ?_
  refine dend (by kernel_rfl) ?_
  refine eseq ?_
  refine HT.seq ?_
  refine HT.plain ?_
  refine sq (St.closed _ _ _ _) (q_move rfl) rfl ?_
  refine sq (St.closed _ _ _ _) (q_move rfl) rfl ?_
  refine sq (St.closed _ _ _ _) (q_iface rfl Tryz.underlying32 (fun _ h => nomatch h)) rfl ?_
  refine sl_ (l_invX0 (vs := [(.iface 32 (.pointer (some ⟨b28, 0, none⟩)))]) (Kc := [⟨kb, 59, [some .nilIface], true⟩]) (Bc := []) [0] [] [Byt A n c bs] ([⟨b28, 37, [some (.slice (cutA A c 0) (4 - 0) (c - 0)), some (.slice (cutA A c 4) (n - 4) (c - 4)), some (.int .u32 (((bN bs 0 4) / 4096 : Nat) : Int)), some (.int .u8 (((((bN bs 0 4) / 512) % 256) &&& 7 : Nat) : Int)), some (.bool false), some (.int .u8 (((bN bs 0 4) % 256 : Nat) : Int))], true⟩, ⟨kb, 59, [some (.iface 32 (.pointer (some ⟨b28, 0, none⟩)))], true⟩]) ([Byt A n c bs]) (by decide) rfl (fun w => me_57_AddLayer _ w) rfl ca_77 (fun _ h => h) rfl rfl rfl rfl (fun w h => addLayer w kb 32 b28  h) rfl rfl rfl rfl fun hf1 he2 => ?_)
  refine send ?_
  refine eseq ?_
  refine HT.seq ?_
  refine HT.plain ?_
  refine sq (St.closed _ _ _ _) (q_assign rfl) rfl ?_
  refine send ?_
  refine eseq ?_
  refine HT.ret ?_
  exact fun a ha w' hw => fin_ ha (res1 ha Tryz.results27 rfl) ⟨b28, rfl, (hw.wk [(1, []), (0, [])] rfl), fr0⟩

theorem nm0z (w : World) (A : Option Addr) (n : Nat) (c : Nat) (bs : List UInt8) (hn : n ≤ 400) (ha : 5 ≤ n) (hb : bN bs 0 4 / 256 % 2 = 0) (hst : St w [] [] [Byt A n c bs] w) : Calls Tryz.prog 9 #[(.string ⟨#[109, 112, 108, 115]⟩), (.slice A n c)] w (CP1 w [] [Byt A n c bs] (fun b28 => (.tuple #[(.iface 32 (.pointer (some ⟨b28, 0, none⟩))), .nilIface])) (fun b28 => [⟨b28, 37, [some (.slice (cutA A c 0) (4 - 0) (c - 0)), some (.slice (cutA A c 4) (n - 4) (c - 4)), some (.int .u32 (((bN bs 0 4) / 4096 : Nat) : Int)), some (.int .u8 (((((bN bs 0 4) / 512) % 256) &&& 7 : Nat) : Int)), some (.bool false), some (.int .u8 (((bN bs 0 4) % 256 : Nat) : Int))], true⟩]) (fun b28 => [])) := by
  have hnc00 : n ≤ c := (hst.fact (j := 0) rfl).2.1
  refine enter (vs := [(.string ⟨#[109, 112, 108, 115]⟩), (.slice A n c)]) Tryz.func9 rfl rfl rfl hst ?_
  refine HT.seq ?_
  refine HT.plain ?_
  refine sq (St.closed _ _ _ _) (q_assign rfl) rfl ?_
  refine sq (St.closed _ _ _ _) (q_assign rfl) rfl ?_
  refine send ?_
  refine eseq ?_
  refine HT.seq ?_
  refine HT.plain ?_
  refine sq (St.closed _ _ _ _) (q_build (vs := []) (v := (.agg #[.nilIface])) rfl (fun _ => by kernel_rfl)) rfl ?_
  refine sl_ (l_box (by decide) rfl fun b9 => ?_)
  refine sq (St.closed _ _ _ _) (q_assign rfl) rfl ?_
  refine send ?_
  refine eseq ?_
  refine HT.seq ?_
  refine HT.plain ?_
  refine sl_ (l_callX1 (vs := [(.string ⟨#[110, 111, 32, 107, 105, 110, 100]⟩)]) (Kc := []) (Bc := []) [] [] [Byt A n c bs] (fun b5 => [⟨b9, 59, [some .nilIface], true⟩, ⟨b5, 65, [some (.string (⟨#[110, 111, 32, 107, 105, 110, 100]⟩))], true⟩]) (fun b5 => [Byt A n c bs]) (by decide) rfl ca_16 (fun _ h => h) rfl rfl rfl rfl (fun w h => errNew w (⟨#[110, 111, 32, 107, 105, 110, 100]⟩)  h) (fun _ => rfl) (fun _ => rfl) (fun _ => rfl) (fun _ => rfl) fun b5 hf1 he2 => ?_)
  refine sq (St.closed _ _ _ _) (q_assign rfl) rfl ?_
  refine send ?_
  refine eseq ?_
  refine HT.seq ?_
  refine HT.seq ?_
  refine HT.plain ?_
  refine sq (St.closed _ _ _ _) (q_move rfl) rfl ?_
  refine send ?_
  refine eseq ?_
  refine HT.block ?_
  refine HT.seq ?_
  refine HT.plain ?_
  refine sq (St.closed _ _ _ _) (q_eqs rfl rfl (r := false) (by kernel_rfl)) rfl ?_
  refine sq (St.closed _ _ _ _) (q_assign rfl) rfl ?_
  refine send ?_
  refine eseq ?_
  refine HT.no rfl ?_
  refine HT.seq ?_
  refine HT.plain ?_
  refine sq (St.closed _ _ _ _) (q_eqs rfl rfl (r := false) (by kernel_rfl)) rfl ?_
  refine sq (St.closed _ _ _ _) (q_assign rfl) rfl ?_
  refine send ?_
  refine eseq ?_
  refine HT.no rfl ?_
  refine HT.seq ?_
  refine HT.plain ?_
  refine sq (St.closed _ _ _ _) (q_eqs rfl rfl (r := false) (by kernel_rfl)) rfl ?_
  refine sq (St.closed _ _ _ _) (q_assign rfl) rfl ?_
  refine send ?_
  refine eseq ?_
  refine HT.no rfl ?_
  refine HT.seq ?_
  refine HT.plain ?_
  refine sq (St.closed _ _ _ _) (q_eqs rfl rfl (r := false) (by kernel_rfl)) rfl ?_
  refine sq (St.closed _ _ _ _) (q_assign rfl) rfl ?_
  refine send ?_
  refine eseq ?_
  refine HT.no rfl ?_
  refine HT.seq ?_
  refine HT.plain ?_
  refine sq (St.closed _ _ _ _) (q_eqs rfl rfl (r := false) (by kernel_rfl)) rfl ?_
  refine sq (St.closed _ _ _ _) (q_assign rfl) rfl ?_
  refine send ?_
  refine eseq ?_
  refine HT.no rfl ?_
  refine HT.seq ?_
  refine HT.plain ?_
  refine sq (St.closed _ _ _ _) (q_eqs rfl rfl (r := false) (by kernel_rfl)) rfl ?_
  refine sq (St.closed _ _ _ _) (q_assign rfl) rfl ?_
  refine send ?_
  refine eseq ?_
  refine HT.no rfl ?_
  refine HT.seq ?_
  refine HT.plain ?_
  refine sq (St.closed _ _ _ _) (q_eqs rfl rfl (r := false) (by kernel_rfl)) rfl ?_
  refine sq (St.closed _ _ _ _) (q_assign rfl) rfl ?_
  refine send ?_
  refine eseq ?_
  refine HT.no rfl ?_
  refine HT.seq ?_
  refine HT.plain ?_
  refine sq (St.closed _ _ _ _) (q_eqs rfl rfl (r := false) (by kernel_rfl)) rfl ?_
  refine sq (St.closed _ _ _ _) (q_assign rfl) rfl ?_
  refine send ?_
  refine eseq ?_
  refine HT.no rfl ?_
  refine HT.seq ?_
  refine HT.plain ?_
  refine sq (St.closed _ _ _ _) (q_eqs rfl rfl (r := false) (by kernel_rfl)) rfl ?_
  refine sq (St.closed _ _ _ _) (q_assign rfl) rfl ?_
  refine send ?_
  refine eseq ?_
  refine HT.no rfl ?_
  refine HT.seq ?_
  refine HT.plain ?_
  refine sq (St.closed _ _ _ _) (q_eqs rfl rfl (r := false) (by kernel_rfl)) rfl ?_
  refine sq (St.closed _ _ _ _) (q_assign rfl) rfl ?_
  refine send ?_
  refine eseq ?_
  refine HT.no rfl ?_
  refine HT.seq ?_
  refine HT.plain ?_
  refine sq (St.closed _ _ _ _) (q_eqs rfl rfl (r := true) (by kernel_rfl)) rfl ?_
  refine sq (St.closed _ _ _ _) (q_assign rfl) rfl ?_
  refine send ?_
  refine eseq ?_
  refine HT.yes rfl ?_
  refine HT.plain ?_
  refine sq (St.closed _ _ _ _) (q_move rfl) rfl ?_
  refine sq (St.closed _ _ _ _) (q_move rfl) rfl ?_
  refine sq (St.closed _ _ _ _) (q_iface rfl Tryz.underlying57 (fun _ h => nomatch h)) rfl ?_
  refine sl_ (l_callX1 (vs := [(.slice A n c), (.iface 57 (.pointer (some ⟨b9, 0, none⟩)))]) (Kc := [⟨b9, 59, [some .nilIface], true⟩]) (Bc := [Byt A n c bs]) [0] [0] [Byt A n c bs] (fun b28 => [⟨b5, 65, [some (.string (⟨#[110, 111, 32, 107, 105, 110, 100]⟩))], true⟩, ⟨b9, 59, [some (.iface 32 (.pointer (some ⟨b28, 0, none⟩)))], true⟩, ⟨b28, 37, [some (.slice (cutA A c 0) (4 - 0) (c - 0)), some (.slice (cutA A c 4) (n - 4) (c - 4)), some (.int .u32 (((bN bs 0 4) / 4096 : Nat) : Int)), some (.int .u8 (((((bN bs 0 4) / 512) % 256) &&& 7 : Nat) : Int)), some (.bool false), some (.int .u8 (((bN bs 0 4) % 256 : Nat) : Int))], true⟩]) (fun b28 => [Byt A n c bs]) (by decide) rfl ca_27 (fun _ h => h) rfl rfl rfl rfl (fun w h => nm0d w A n c bs b9 (by omega) (by omega) (by omega) h) (fun _ => rfl) (fun _ => rfl) (fun _ => rfl) (fun _ => rfl) fun b28 hf3 he4 => ?_)
  refine sq (St.closed _ _ _ _) (q_assign rfl) rfl ?_
  refine send ?_
  refine ein ?_
  refine eseq ?_
  refine HT.seq ?_
  refine HT.seq ?_
  refine HT.plain ?_
  refine sq (St.closed _ _ _ _) (q_move rfl) rfl ?_
  refine sq (St.closed _ _ _ _) (q_notNil rfl rfl Tryz.underlying50) rfl ?_
  refine send ?_
  refine eseq ?_
  refine HT.no rfl ?_
  refine HT.skip ?_
  refine eseq ?_
  refine HT.seq ?_
  refine HT.plain ?_
  refine sq (St.closed _ _ _ _) (q_move rfl) rfl ?_
  refine sq (St.closed _ _ _ _) (q_nil rfl) rfl ?_
  refine sq (St.closed _ _ _ _) (q_field (b := b9) (off := 0) rfl fo_59_0) rfl ?_
  refine sq (St.closed _ _ _ _) (q_load (b := b9) (off := 0) (j := 1) rfl nagg_29 (fun _ h => h) rfl rfl rfl) rfl ?_
  refine sq (St.closed _ _ _ _) (q_assign rfl) rfl ?_
  refine sq (St.closed _ _ _ _) (q_assign rfl) rfl ?_
  refine send ?_
  refine eseq ?_
  refine HT.ret ?_
  exact fun a ha w' hw => fin_ ha (res2 ha Tryz.results9 rfl rfl) ⟨b28, rfl, (hw.wk [(2, [])] rfl), fr0⟩

theorem nm0e (w : World) (A : Option Addr) (n : Nat) (c : Nat) (bs : List UInt8) (hn : n ≤ 400) (ha : 5 ≤ n) (hb : bN bs 0 4 / 256 % 2 = 0) (hst : St w [] [] [Byt A n c bs] w) : Calls Tryz.prog 6 #[(.string ⟨#[109, 112, 108, 115]⟩), (.slice A n c)] w (CP3 w [] [Byt A n c bs] (fun b28 A5 c5 => (.tuple #[(.iface 32 (.pointer (some ⟨b28, 0, none⟩))), (.bool true)])) (fun b28 A5 c5 => [⟨b28, 37, [some (.slice (cutA A5 c5 0) (4 - 0) (c5 - 0)), some (.slice (cutA A5 c5 4) (n - 4) (c5 - 4)), some (.int .u32 (((bN bs 0 4) / 4096 : Nat) : Int)), some (.int .u8 (((((bN bs 0 4) / 512) % 256) &&& 7 : Nat) : Int)), some (.bool false), some (.int .u8 (((bN bs 0 4) % 256 : Nat) : Int))], true⟩]) (fun b28 A5 c5 => [Byt A5 n c5 bs])) := by
  have hnc00 : n ≤ c := (hst.fact (j := 0) rfl).2.1
  refine enter (vs := [(.string ⟨#[109, 112, 108, 115]⟩), (.slice A n c)]) Tryz.func6 rfl rfl rfl hst ?_
  refine HT.seq ?_
  refine HT.plain ?_
  refine sq (St.closed _ _ _ _) (q_assign rfl) rfl ?_
  refine sq (St.closed _ _ _ _) (q_assign rfl) rfl ?_
  refine send ?_
  refine eseq ?_
  refine HT.seq ?_
  refine HT.seq ?_
  refine HT.plain ?_
  refine sq (St.closed _ _ _ _) (q_move rfl) rfl ?_
  refine sq (St.closed _ _ _ _) (q_len (len := n) rfl Tryz.underlying22) rfl ?_
  refine sq (St.closed _ _ _ _) (q_F (q_gt (p := n) (q := 2000) rfl rfl) (by omega)) rfl ?_
  refine send ?_
  refine eseq ?_
  refine HT.no rfl ?_
  refine HT.skip ?_
  refine eseq ?_
  refine HT.seq ?_
  refine HT.plain ?_
  refine sq (St.closed _ _ _ _) (q_move rfl) rfl ?_
  refine sq (St.closed _ _ _ _) (q_assign rfl) rfl ?_
  refine send ?_
  refine eseq ?_
  refine HT.seq ?_
  refine HT.seq ?_
  refine HT.plain ?_
  refine sq (St.closed _ _ _ _) (q_move rfl) rfl ?_
  refine sq (St.closed _ _ _ _) (q_eqs rfl rfl (r := false) (by kernel_rfl)) rfl ?_
  refine sq (St.closed _ _ _ _) (q_move rfl) rfl ?_
  refine sgq (St.closed _ _ _ _) rfl (q_move rfl) rfl ?_
  refine sgq (St.closed _ _ _ _) rfl (q_eqs rfl rfl (r := false) (by kernel_rfl)) rfl ?_
  refine sq (St.closed _ _ _ _) (q_pick rfl (fun h => nomatch h) (fun _ => rfl)) rfl ?_
  refine send ?_
  refine eseq ?_
  refine HT.no rfl ?_
  refine HT.seq ?_
  refine HT.plain ?_
  refine sq (St.closed _ _ _ _) (q_move rfl) rfl ?_
  refine sq (St.closed _ _ _ _) (q_eqs rfl rfl (r := false) (by kernel_rfl)) rfl ?_
  refine send ?_
  refine eseq ?_
  refine HT.no rfl ?_
  refine HT.skip ?_
  refine eseq ?_
  refine HT.seq ?_
  refine HT.seq ?_
  refine HT.plain ?_
  refine sq (St.closed _ _ _ _) (q_move rfl) rfl ?_
  refine sq (St.closed _ _ _ _) (q_move rfl) rfl ?_
  refine sq (St.closed _ _ _ _) (q_call (vs := [(.string ⟨#[109, 112, 108, 115]⟩), (.slice A n c)]) (v := (.bool true)) rfl ca_8 (fun w h => nm0c w A n c bs (by omega) (by omega) (by omega) (St.enter (sp := []) (Kc := []) (bi := [0]) h rfl rfl rfl))) rfl ?_
  refine sq (St.closed _ _ _ _) (q_not rfl) rfl ?_
  refine send ?_
  refine eseq ?_
  refine HT.no rfl ?_
  refine HT.skip ?_
  refine eseq ?_
  refine HT.seq ?_
  refine HT.plain ?_
  refine sq (St.closed _ _ _ _) (q_move rfl) rfl ?_
  refine sq (St.closed _ _ _ _) (q_move rfl) rfl ?_
  refine sl_ (l_callX2 (vs := [(.slice A n c)]) (Kc := []) (Bc := [Byt A n c bs]) [] [0] [Byt A n c bs] (fun A5 c5 => []) (fun A5 c5 => [Byt A n c bs, Byt A5 n c5 bs]) (by decide) rfl ca_10 (fun _ h => h) rfl rfl rfl rfl (fun w h => Clone w A n c bs (by omega) h) (fun _ _ => rfl) (fun _ _ => rfl) (fun _ _ => rfl) (fun _ _ => rfl) fun A5 c5 hf1 he2 => ?_)
  have hnc3 : n ≤ c5 := by obtain ⟨w, h⟩ := he2; exact (h _ List.mem_cons_self).2.1
  refine sl_ (l_callX1 (vs := [(.string ⟨#[109, 112, 108, 115]⟩), (.slice A5 n c5)]) (Kc := []) (Bc := [Byt A5 n c5 bs]) [] [1] [Byt A n c bs, Byt A5 n c5 bs] (fun b28 => [⟨b28, 37, [some (.slice (cutA A5 c5 0) (4 - 0) (c5 - 0)), some (.slice (cutA A5 c5 4) (n - 4) (c5 - 4)), some (.int .u32 (((bN bs 0 4) / 4096 : Nat) : Int)), some (.int .u8 (((((bN bs 0 4) / 512) % 256) &&& 7 : Nat) : Int)), some (.bool false), some (.int .u8 (((bN bs 0 4) % 256 : Nat) : Int))], true⟩]) (fun b28 => [Byt A n c bs, Byt A5 n c5 bs]) (by decide) rfl ca_9 (fun _ h => h) rfl rfl rfl rfl (fun w h => nm0z w A5 n c5 bs (by omega) (by omega) (by omega) h) (fun _ => rfl) (fun _ => rfl) (fun _ => rfl) (fun _ => rfl) fun b28 hf4 he5 => ?_)
  refine sq (St.closed _ _ _ _) (q_move rfl) rfl ?_
  refine sq (St.closed _ _ _ _) (q_extract (vs := [(.iface 32 (.pointer (some ⟨b28, 0, none⟩))), .nilIface]) (i := 0) rfl rfl) rfl ?_
  refine sq (St.closed _ _ _ _) (q_extract (vs := [(.iface 32 (.pointer (some ⟨b28, 0, none⟩))), .nilIface]) (i := 1) rfl rfl) rfl ?_
  refine sq (St.closed _ _ _ _) (q_assign rfl) rfl ?_
  refine sq (St.closed _ _ _ _) (q_assign rfl) rfl ?_
  refine send ?_
  refine eseq ?_
  refine HT.seq ?_
  refine HT.seq ?_
  refine HT.plain ?_
  refine sq (St.closed _ _ _ _) (q_move rfl) rfl ?_
  refine sq (St.closed _ _ _ _) (q_notNil rfl rfl Tryz.underlying50) rfl ?_
  refine sq (St.closed _ _ _ _) (q_move rfl) rfl ?_
  refine sgq (St.closed _ _ _ _) rfl (q_move rfl) rfl ?_
  refine sgq (St.closed _ _ _ _) rfl (q_isNil' rfl rfl Tryz.underlying29) rfl ?_
  refine sq (St.closed _ _ _ _) (q_pick rfl (fun h => nomatch h) (fun _ => rfl)) rfl ?_
  refine send ?_
  refine eseq ?_
  refine HT.no rfl ?_
  refine HT.skip ?_
  refine eseq ?_
  refine HT.seq ?_
  refine HT.seq ?_
  refine HT.plain ?_
  refine sq (St.closed _ _ _ _) (q_move rfl) rfl ?_
  refine sq (St.closed _ _ _ _) (q_isnt (T := 32) (z := (.pointer none)) rfl Tryz.underlying53 (fun _ h => nomatch h) (by decide) zero_53) rfl ?_
  refine sq (St.closed _ _ _ _) (q_move rfl) rfl ?_
  refine sq (St.closed _ _ _ _) (q_extract (vs := [(.pointer none), (.bool false)]) (i := 0) rfl rfl) rfl ?_
  refine sq (St.closed _ _ _ _) (q_extract (vs := [(.pointer none), (.bool false)]) (i := 1) rfl rfl) rfl ?_
  refine sq (St.closed _ _ _ _) (q_assign rfl) rfl ?_
  refine sq (St.closed _ _ _ _) (q_assign rfl) rfl ?_
  refine send ?_
  refine eseq ?_
  refine HT.seq ?_
  refine HT.plain ?_
  refine sq (St.closed _ _ _ _) (q_move rfl) rfl ?_
  refine sq (St.closed _ _ _ _) (q_move rfl) rfl ?_
  refine sq (St.closed _ _ _ _) (q_eqs rfl rfl (r := false) (by kernel_rfl)) rfl ?_
  refine sq (St.closed _ _ _ _) (q_neb rfl rfl Tryz.underlying4) rfl ?_
  refine sq (St.closed _ _ _ _) (q_move rfl) rfl ?_
  refine sskip rfl rfl ?_
  refine sskip rfl rfl ?_
  refine sq (St.closed _ _ _ _) (q_pick rfl (fun h => nomatch h) (fun _ => rfl)) rfl ?_
  refine send ?_
  refine eseq ?_
  refine HT.no rfl ?_
  refine HT.skip ?_
  refine eseq ?_
  refine HT.seq ?_
  refine HT.plain ?_
  refine sq (St.closed _ _ _ _) (q_move rfl) rfl ?_
  refine sq (St.closed _ _ _ _) (q_assign rfl) rfl ?_
  refine sq (St.closed _ _ _ _) (q_assign rfl) rfl ?_
  refine send ?_
  refine eseq ?_
  refine HT.ret ?_
  exact fun a ha w' hw => fin_ ha (res2 ha Tryz.results6 rfl rfl) ⟨b28, A5, c5, rfl, hw, (fr1 (hf1 _ List.mem_cons_self) fr0)⟩

theorem nm0N (w : World) (A : Option Addr) (n : Nat) (c : Nat) (bs : List UInt8) (hn : n ≤ 400) (ha : 5 ≤ n) (hb : bN bs 0 4 / 256 % 2 = 0) (hst : St w [] [] [Byt A n c bs] w) : Calls Tryz.prog 5 #[(.string ⟨#[109, 112, 108, 115]⟩), (.slice A n c)] w (fun e w' => e = .returned (.tuple #[(.int .u64 ((24 : Nat) : Int)), (.bool true)]) ∧ Pres [] w w') := by
  have hnc00 : n ≤ c := (hst.fact (j := 0) rfl).2.1
  refine enter (vs := [(.string ⟨#[109, 112, 108, 115]⟩), (.slice A n c)]) Tryz.func5 rfl rfl rfl hst ?_
  refine HT.seq ?_
  refine HT.plain ?_
  refine sq (St.closed _ _ _ _) (q_assign rfl) rfl ?_
  refine sq (St.closed _ _ _ _) (q_assign rfl) rfl ?_
  refine send ?_
  refine eseq ?_
  refine HT.seq ?_
  refine HT.plain ?_
  refine sq (St.closed _ _ _ _) (q_move rfl) rfl ?_
  refine sq (St.closed _ _ _ _) (q_move rfl) rfl ?_
  refine sl_ (l_callX3 (vs := [(.string ⟨#[109, 112, 108, 115]⟩), (.slice A n c)]) (Kc := []) (Bc := [Byt A n c bs]) [] [0] [Byt A n c bs] (fun b28 A5 c5 => [⟨b28, 37, [some (.slice (cutA A5 c5 0) (4 - 0) (c5 - 0)), some (.slice (cutA A5 c5 4) (n - 4) (c5 - 4)), some (.int .u32 (((bN bs 0 4) / 4096 : Nat) : Int)), some (.int .u8 (((((bN bs 0 4) / 512) % 256) &&& 7 : Nat) : Int)), some (.bool false), some (.int .u8 (((bN bs 0 4) % 256 : Nat) : Int))], true⟩]) (fun b28 A5 c5 => [Byt A n c bs, Byt A5 n c5 bs]) (by decide) rfl ca_6 (fun _ h => h) rfl rfl rfl rfl (fun w h => nm0e w A n c bs (by omega) (by omega) (by omega) h) (fun _ _ _ => rfl) (fun _ _ _ => rfl) (fun _ _ _ => rfl) (fun _ _ _ => rfl) fun b28 A5 c5 hf1 he2 => ?_)
  have hnc3 : n ≤ c5 := by obtain ⟨w, h⟩ := he2; exact (h _ List.mem_cons_self).2.1
  refine sq (St.closed _ _ _ _) (q_move rfl) rfl ?_
  refine sq (St.closed _ _ _ _) (q_extract (vs := [(.iface 32 (.pointer (some ⟨b28, 0, none⟩))), (.bool true)]) (i := 0) rfl rfl) rfl ?_
  refine sq (St.closed _ _ _ _) (q_extract (vs := [(.iface 32 (.pointer (some ⟨b28, 0, none⟩))), (.bool true)]) (i := 1) rfl rfl) rfl ?_
  refine sq (St.closed _ _ _ _) (q_assign rfl) rfl ?_
  refine sq (St.closed _ _ _ _) (q_assign rfl) rfl ?_
  refine send ?_
  refine eseq ?_
  refine HT.seq ?_
  refine HT.seq ?_
  refine HT.plain ?_
  refine sq (St.closed _ _ _ _) (q_move rfl) rfl ?_
  refine sq (St.closed _ _ _ _) (q_not rfl) rfl ?_
  refine send ?_
  refine eseq ?_
  refine HT.no rfl ?_
  refine HT.skip ?_
  refine eseq ?_
  refine HT.seq ?_
  refine HT.seq ?_
  refine HT.plain ?_
  refine sq (St.closed _ _ _ _) (q_move rfl) rfl ?_
  refine send ?_
  refine eseq ?_
  refine HT.block ?_
  refine HT.seq ?_
  refine HT.plain ?_
  refine sq (St.closed _ _ _ _) (q_is rfl Tryz.underlying32 (fun _ h => nomatch h)) rfl ?_
  refine sq (St.closed _ _ _ _) (q_extract (vs := [(.pointer (some ⟨b28, 0, none⟩)), (.bool true)]) (i := 1) rfl rfl) rfl ?_
  refine sq (St.closed _ _ _ _) (q_extract (vs := [(.pointer (some ⟨b28, 0, none⟩)), (.bool true)]) (i := 0) rfl rfl) rfl ?_
  refine send ?_
  refine eseq ?_
  refine HT.yes rfl ?_
  refine HT.seq ?_
  refine HT.plain ?_
  refine sq (St.closed _ _ _ _) (q_assign rfl) rfl ?_
  refine send ?_
  refine eseq ?_
  refine HT.seq ?_
  refine HT.drawnS mixed (St.closed _ _ _ _) ?_
  refine dtake (f := 0) [0, 1, 2, 3, 4, 5, 6] (by kernel_rfl) (St.closed _ _ _ _) (fun _ h => h) (by kernel_rfl) ?_
  refine dq rfl (q_move rfl) ?_
  refine dq rfl (q_nil rfl) ?_
  refine dq rfl (q_field (b := b28) (off := 0) rfl fo_37_3) ?_
  refine dq rfl (q_load (b := b28) (off := 4) (j := 0) rfl nagg_4 (fun _ h => h) rfl rfl rfl) ?_
  refine dq rfl (q_not rfl) ?_
  refine dq rfl (q_assign rfl) ?_
  refine dq rfl (q_assign rfl) ?_
  refine QL.nil ?_
  refine dend (by kernel_rfl) ?_
  refine eseq ?_
  refine HT.ret ?_
  refine rt_in ?_
  refine rt_then ?_
  exact fun a ha w' hw => fin_ ha (res2 ha Tryz.results5 rfl rfl) ⟨rfl, hw.pres⟩

theorem nm1c (w : World) (A : Option Addr) (n : Nat) (c : Nat) (bs : List UInt8) (hn : n ≤ 400) (ha : 5 ≤ n) (hb : bN bs 0 4 / 256 % 2 = 1) (hst : St w [] [] [Byt A n c bs] w) : Calls Tryz.prog 8 #[(.string ⟨#[109, 112, 108, 115]⟩), (.slice A n c)] w (fun e w' => e = .returned (.bool true) ∧ Pres [] w w') := by
  have hnc00 : n ≤ c := (hst.fact (j := 0) rfl).2.1
  refine enter (vs := [(.string ⟨#[109, 112, 108, 115]⟩), (.slice A n c)]) Tryz.func8 rfl rfl rfl hst ?_
  refine HT.seq ?_
  refine HT.plain ?_
  refine sq (St.closed _ _ _ _) (q_assign rfl) rfl ?_
  refine send ?_
  refine eseq ?_
  refine HT.seq ?_
  refine HT.seq ?_
  refine HT.plain ?_
  refine sq (St.closed _ _ _ _) (q_move rfl) rfl ?_
  refine send ?_
  refine eseq ?_
  refine HT.block ?_
  refine HT.seq ?_
  refine HT.plain ?_
  refine sq (St.closed _ _ _ _) (q_eqs rfl rfl (r := false) (by kernel_rfl)) rfl ?_
  refine sq (St.closed _ _ _ _) (q_assign rfl) rfl ?_
  refine send ?_
  refine eseq ?_
  refine HT.no rfl ?_
  refine HT.seq ?_
  refine HT.plain ?_
  refine sq (St.closed _ _ _ _) (q_eqs rfl rfl (r := false) (by kernel_rfl)) rfl ?_
  refine sq (St.closed _ _ _ _) (q_assign rfl) rfl ?_
  refine send ?_
  refine eseq ?_
  refine HT.no rfl ?_
  refine HT.seq ?_
  refine HT.plain ?_
  refine sq (St.closed _ _ _ _) (q_eqs rfl rfl (r := false) (by kernel_rfl)) rfl ?_
  refine sq (St.closed _ _ _ _) (q_assign rfl) rfl ?_
  refine send ?_
  refine eseq ?_
  refine HT.no rfl ?_
  refine HT.seq ?_
  refine HT.plain ?_
  refine sq (St.closed _ _ _ _) (q_eqs rfl rfl (r := true) (by kernel_rfl)) rfl ?_
  refine sq (St.closed _ _ _ _) (q_assign rfl) rfl ?_
  refine send ?_
  refine eseq ?_
  refine HT.yes rfl ?_
  refine HT.seq ?_
  refine HT.plain ?_
  refine sq (St.closed _ _ _ _) (q_move rfl) rfl ?_
  refine sq (St.closed _ _ _ _) (q_len (len := n) rfl Tryz.underlying22) rfl ?_
  refine sq (St.closed _ _ _ _) (q_T (q_ge (p := n) (q := 4) rfl rfl) (by omega)) rfl ?_
  refine sq (St.closed _ _ _ _) (q_assign rfl) rfl ?_
  refine send ?_
  refine eseq ?_
  refine HT.ret ?_
  refine rt_in ?_
  refine rt_then ?_
  exact fun a ha w' hw => fin_ ha (res1 ha Tryz.results8 rfl) ⟨rfl, hw.pres⟩

theorem nm1d (w : World) (A : Option Addr) (n : Nat) (c : Nat) (bs : List UInt8) (kb : Nat) (hn : n ≤ 400) (ha : 5 ≤ n) (hb : bN bs 0 4 / 256 % 2 = 1) (hst : St w [kb] [⟨kb, 59, [some .nilIface], true⟩] [Byt A n c bs] w) : Calls Tryz.prog 27 #[(.slice A n c), (.iface 57 (.pointer (some ⟨kb, 0, none⟩)))] w (CP1 w [kb] [Byt A n c bs] (fun b28 => .nilIface) (fun b28 => [⟨kb, 59, [some (.iface 32 (.pointer (some ⟨b28, 0, none⟩)))], true⟩, ⟨b28, 37, [some (.slice (cutA A c 0) (4 - 0) (c - 0)), some (.slice (cutA A c 4) (n - 4) (c - 4)), some (.int .u32 (((bN bs 0 4) / 4096 : Nat) : Int)), some (.int .u8 (((((bN bs 0 4) / 512) % 256) &&& 7 : Nat) : Int)), some (.bool true), some (.int .u8 (((bN bs 0 4) % 256 : Nat) : Int))], true⟩]) (fun b28 => [])) := by
  have hnc00 : n ≤ c := (hst.fact (j := 0) rfl).2.1
  refine enter (vs := [(.slice A n c), (.iface 57 (.pointer (some ⟨kb, 0, none⟩)))]) Tryz.func27 rfl rfl rfl hst ?_
  refine HT.seq ?_
  refine HT.plain ?_
  refine sq (St.closed _ _ _ _) (q_assign rfl) rfl ?_
  refine send ?_
  refine eseq ?_
  refine HT.seq ?_
  refine HT.drawnS mixed (St.closed _ _ _ _) ?_
  refine dtake (f := 0) [0, 1, 2, 3, 4] (by kernel_rfl) (St.closed _ _ _ _) (fun _ h => h) (by kernel_rfl) ?_
  refine dq rfl (q_loadEmpty rfl aggs_71) ?_
  refine dq rfl (q_move rfl) ?_
  refine dq rfl (q_slice (lo := 0) (hi := 4) rfl Tryz.underlying22 nagg_5 (.inl ⟨rfl, rfl⟩) (.inr ⟨_, _, rfl, rfl⟩) (by omega) (by omega)) ?_
  refine dq rfl (q_call (vs := [(.agg #[]), (.slice (cutA A c 0) (4 - 0) (c - 0))]) (v := (.int .u32 ((bN bs 0 4 : Nat) : Int))) rfl ca_46 (fun w h => U32 w A n c bs (lo := 0) (hi := 4) (h.fact (j := 0) rfl) (by omega) (by omega))) ?_
  refine dq rfl (q_assign rfl) ?_
  refine QL.nil ?_
  refine dend (by kernel_rfl) ?_
  refine eseq ?_
  refine HT.seq ?_
  refine HT.drawnS mixed (St.closed _ _ _ _) ?_
  refine dtake (f := 2) [0, 1, 2, 3, 4, 5, 6, 7, 8, 9, 10, 11, 12, 13, 14, 15, 16] (by kernel_rfl) (St.closed _ _ _ _) (fun _ h => h) (by kernel_rfl) ?_
  refine dq rfl (q_move rfl) ?_
  refine dq rfl (q_shr (p := bN bs 0 4) (e := 12) (N := 4096) rfl rfl (by decide) rfl) ?_
  refine dq rfl (q_move rfl) ?_
  refine dq rfl (q_shr (p := bN bs 0 4) (e := 9) (N := 512) rfl rfl (by decide) rfl) ?_
  refine dq rfl (q_convw (p := (bN bs 0 4) / 512) rfl Tryz.underlying35 Tryz.underlying5 rfl) ?_
  refine dq rfl (q_and (p := ((bN bs 0 4) / 512) % 256) (q := 7) rfl rfl rfl (show ((bN bs 0 4) / 512) % 256 < 256 by have := bN_lt bs 0 4 4294967296 rfl; omega) (by decide)) ?_
  refine dq rfl (q_move rfl) ?_
  refine dq rfl (q_and (p := bN bs 0 4) (q := 256) rfl rfl rfl (show bN bs 0 4 < 4294967296 by have := bN_lt bs 0 4 4294967296 rfl; omega) (by decide)) ?_
  refine dq rfl (q_T (q_ne (p := (bN bs 0 4) &&& 256) (q := 0) rfl rfl) (by have := bN_lt bs 0 4 4294967296 rfl; have := zb256 (bN bs 0 4); have := Nat.and_le_left (n := bN bs 0 4) (m := 256); have := Nat.and_le_right (n := bN bs 0 4) (m := 256); omega)) ?_
  refine dq rfl (q_move rfl) ?_
  refine dq rfl (q_convw (p := bN bs 0 4) rfl Tryz.underlying35 Tryz.underlying5 rfl) ?_
  refine dq rfl (q_move rfl) ?_
  refine dq rfl (q_slice (lo := 0) (hi := 4) rfl Tryz.underlying22 nagg_5 (.inl ⟨rfl, rfl⟩) (.inr ⟨_, _, rfl, rfl⟩) (by omega) (by omega)) ?_
  refine dq rfl (q_move rfl) ?_
  refine dq rfl (q_slice (lo := 4) (hi := n) rfl Tryz.underlying22 nagg_5 (.inr ⟨_, _, rfl, rfl⟩) (.inl ⟨rfl, rfl⟩) (by omega) (by omega)) ?_
  refine dq rfl (q_build (vs := [(0, (.slice (cutA A c 0) (4 - 0) (c - 0))), (1, (.slice (cutA A c 4) (n - 4) (c - 4)))]) (v := (.agg #[(.slice (cutA A c 0) (4 - 0) (c - 0)), (.slice (cutA A c 4) (n - 4) (c - 4))])) rfl (fun _ => by kernel_rfl)) ?_
  refine dq rfl (q_build (vs := [(1, (.int .u32 (((bN bs 0 4) / 4096 : Nat) : Int))), (2, (.int .u8 (((((bN bs 0 4) / 512) % 256) &&& 7 : Nat) : Int))), (3, (.bool true)), (4, (.int .u8 (((bN bs 0 4) % 256 : Nat) : Int))), (0, (.agg #[(.slice (cutA A c 0) (4 - 0) (c - 0)), (.slice (cutA A c 4) (n - 4) (c - 4))]))]) (v := (.agg #[(.slice (cutA A c 0) (4 - 0) (c - 0)), (.slice (cutA A c 4) (n - 4) (c - 4)), (.int .u32 (((bN bs 0 4) / 4096 : Nat) : Int)), (.int .u8 (((((bN bs 0 4) / 512) % 256) &&& 7 : Nat) : Int)), (.bool true), (.int .u8 (((bN bs 0 4) % 256 : Nat) : Int))])) rfl (fun _ => by kernel_rfl)) ?_
  refine QL.nil ?_
  refine RG.step1 17 (by kernel_rfl) ?_
  refine dop rfl (l_box (by decide) rfl fun b28 => ⟨(fun _ h => (h.wk [(0, [])] rfl)), ?_⟩)
  refine dtake (f := 0) [18] (by kernel_rfl) (St.closed _ _ _ _) (fun _ h => (h.wk [(0, [])] rfl)) (by kernel_rfl) ?_
  refine dq rfl (q_assign rfl) ?_
  refine QL.nil ?_
  refine dend (by kernel_rfl) ?_
  refine eseq ?_
  refine HT.seq ?_
  refine HT.plain ?_
  refine sq (St.closed _ _ _ _) (q_move rfl) rfl ?_
  refine sq (St.closed _ _ _ _) (q_move rfl) rfl ?_
  refine sq (St.closed _ _ _ _) (q_iface rfl Tryz.underlying32 (fun _ h => nomatch h)) rfl ?_
  refine sl_ (l_invX0 (vs := [(.iface 32 (.pointer (some ⟨b28, 0, none⟩)))]) (Kc := [⟨kb, 59, [some .nilIface], true⟩]) (Bc := []) [0] [] [Byt A n c bs] ([⟨b28, 37, [some (.slice (cutA A c 0) (4 - 0) (c - 0)), some (.slice (cutA A c 4) (n - 4) (c - 4)), some (.int .u32 (((bN bs 0 4) / 4096 : Nat) : Int)), some (.int .u8 (((((bN bs 0 4) / 512) % 256) &&& 7 : Nat) : Int)), some (.bool true), some (.int .u8 (((bN bs 0 4) % 256 : Nat) : Int))], true⟩, ⟨kb, 59, [some (.iface 32 (.pointer (some ⟨b28, 0, none⟩)))], true⟩]) ([Byt A n c bs]) (by decide) rfl (fun w => me_57_AddLayer _ w) rfl ca_77 (fun _ h => h) rfl rfl rfl rfl (fun w h => addLayer w kb 32 b28  h) rfl rfl rfl rfl fun hf1 he2 => ?_)
  refine send ?_
  refine eseq ?_
  refine HT.seq ?_
  refine HT.plain ?_
  refine sq (St.closed _ _ _ _) (q_assign rfl) rfl ?_
  refine send ?_
  refine eseq ?_
  refine HT.ret ?_
  exact fun a ha w' hw => fin_ ha (res1 ha Tryz.results27 rfl) ⟨b28, rfl, (hw.wk [(1, []), (0, [])] rfl), fr0⟩

theorem nm1z (w : World) (A : Option Addr) (n : Nat) (c : Nat) (bs : List UInt8) (hn : n ≤ 400) (ha : 5 ≤ n) (hb : bN bs 0 4 / 256 % 2 = 1) (hst : St w [] [] [Byt A n c bs] w) : Calls Tryz.prog 9 #[(.string ⟨#[109, 112, 108, 115]⟩), (.slice A n c)] w (CP1 w [] [Byt A n c bs] (fun b28 => (.tuple #[(.iface 32 (.pointer (some ⟨b28, 0, none⟩))), .nilIface])) (fun b28 => [⟨b28, 37, [some (.slice (cutA A c 0) (4 - 0) (c - 0)), some (.slice (cutA A c 4) (n - 4) (c - 4)), some (.int .u32 (((bN bs 0 4) / 4096 : Nat) : Int)), some (.int .u8 (((((bN bs 0 4) / 512) % 256) &&& 7 : Nat) : Int)), some (.bool true), some (.int .u8 (((bN bs 0 4) % 256 : Nat) : Int))], true⟩]) (fun b28 => [])) := by
  have hnc00 : n ≤ c := (hst.fact (j := 0) rfl).2.1
  refine enter (vs := [(.string ⟨#[109, 112, 108, 115]⟩), (.slice A n c)]) Tryz.func9 rfl rfl rfl hst ?_
  refine HT.seq ?_
  refine HT.plain ?_
  refine sq (St.closed _ _ _ _) (q_assign rfl) rfl ?_
  refine sq (St.closed _ _ _ _) (q_assign rfl) rfl ?_
  refine send ?_
  refine eseq ?_
  refine HT.seq ?_
  refine HT.plain ?_
  refine sq (St.closed _ _ _ _) (q_build (vs := []) (v := (.agg #[.nilIface])) rfl (fun _ => by kernel_rfl)) rfl ?_
  refine sl_ (l_box (by decide) rfl fun b9 => ?_)
  refine sq (St.closed _ _ _ _) (q_assign rfl) rfl ?_
  refine send ?_
  refine eseq ?_
  refine HT.seq ?_
  refine HT.plain ?_
  refine sl_ (l_callX1 (vs := [(.string ⟨#[110, 111, 32, 107, 105, 110, 100]⟩)]) (Kc := []) (Bc := []) [] [] [Byt A n c bs] (fun b5 => [⟨b9, 59, [some .nilIface], true⟩, ⟨b5, 65, [some (.string (⟨#[110, 111, 32, 107, 105, 110, 100]⟩))], true⟩]) (fun b5 => [Byt A n c bs]) (by decide) rfl ca_16 (fun _ h => h) rfl rfl rfl rfl (fun w h => errNew w (⟨#[110, 111, 32, 107, 105, 110, 100]⟩)  h) (fun _ => rfl) (fun _ => rfl) (fun _ => rfl) (fun _ => rfl) fun b5 hf1 he2 => ?_)
  refine sq (St.closed _ _ _ _) (q_assign rfl) rfl ?_
  refine send ?_
  refine eseq ?_
  refine HT.seq ?_
  refine HT.seq ?_
  refine HT.plain ?_
  refine sq (St.closed _ _ _ _) (q_move rfl) rfl ?_
  refine send ?_
  refine eseq ?_
  refine HT.block ?_
  refine HT.seq ?_
  refine HT.plain ?_
  refine sq (St.closed _ _ _ _) (q_eqs rfl rfl (r := false) (by kernel_rfl)) rfl ?_
  refine sq (St.closed _ _ _ _) (q_assign rfl) rfl ?_
  refine send ?_
  refine eseq ?_
  refine HT.no rfl ?_
  refine HT.seq ?_
  refine HT.plain ?_
  refine sq (St.closed _ _ _ _) (q_eqs rfl rfl (r := false) (by kernel_rfl)) rfl ?_
  refine sq (St.closed _ _ _ _) (q_assign rfl) rfl ?_
  refine send ?_
  refine eseq ?_
  refine HT.no rfl ?_
  refine HT.seq ?_
  refine HT.plain ?_
  refine sq (St.closed _ _ _ _) (q_eqs rfl rfl (r := false) (by kernel_rfl)) rfl ?_
  refine sq (St.closed _ _ _ _) (q_assign rfl) rfl ?_
  refine send ?_
  refine eseq ?_
  refine HT.no rfl ?_
  refine HT.seq ?_
  refine HT.plain ?_
  refine sq (St.closed _ _ _ _) (q_eqs rfl rfl (r := false) (by kernel_rfl)) rfl ?_
  refine sq (St.closed _ _ _ _) (q_assign rfl) rfl ?_
  refine send ?_
  refine eseq ?_
  refine HT.no rfl ?_
  refine HT.seq ?_
  refine HT.plain ?_
  refine sq (St.closed _ _ _ _) (q_eqs rfl rfl (r := false) (by kernel_rfl)) rfl ?_
  refine sq (St.closed _ _ _ _) (q_assign rfl) rfl ?_
  refine send ?_
  refine eseq ?_
  refine HT.no rfl ?_
  refine HT.seq ?_
  refine HT.plain ?_
  refine sq (St.closed _ _ _ _) (q_eqs rfl rfl (r := false) (by kernel_rfl)) rfl ?_
  refine sq (St.closed _ _ _ _) (q_assign rfl) rfl ?_
  refine send ?_
  refine eseq ?_
  refine HT.no rfl ?_
  refine HT.seq ?_
  refine HT.plain ?_
  refine sq (St.closed _ _ _ _) (q_eqs rfl rfl (r := false) (by kernel_rfl)) rfl ?_
  refine sq (St.closed _ _ _ _) (q_assign rfl) rfl ?_
  refine send ?_
  refine eseq ?_
  refine HT.no rfl ?_
  refine HT.seq ?_
  refine HT.plain ?_
  refine sq (St.closed _ _ _ _) (q_eqs rfl rfl (r := false) (by kernel_rfl)) rfl ?_
  refine sq (St.closed _ _ _ _) (q_assign rfl) rfl ?_
  refine send ?_
  refine eseq ?_
  refine HT.no rfl ?_
  refine HT.seq ?_
  refine HT.plain ?_
  refine sq (St.closed _ _ _ _) (q_eqs rfl rfl (r := false) (by kernel_rfl)) rfl ?_
  refine sq (St.closed _ _ _ _) (q_assign rfl) rfl ?_
  refine send ?_
  refine eseq ?_
  refine HT.no rfl ?_
  refine HT.seq ?_
  refine HT.plain ?_
  refine sq (St.closed _ _ _ _) (q_eqs rfl rfl (r := false) (by kernel_rfl)) rfl ?_
  refine sq (St.closed _ _ _ _) (q_assign rfl) rfl ?_
  refine send ?_
  refine eseq ?_
  refine HT.no rfl ?_
  refine HT.seq ?_
  refine HT.plain ?_
  refine sq (St.closed _ _ _ _) (q_eqs rfl rfl (r := true) (by kernel_rfl)) rfl ?_
  refine sq (St.closed _ _ _ _) (q_assign rfl) rfl ?_
  refine send ?_
  refine eseq ?_
  refine HT.yes rfl ?_
  refine HT.plain ?_
  refine sq (St.closed _ _ _ _) (q_move rfl) rfl ?_
  refine sq (St.closed _ _ _ _) (q_move rfl) rfl ?_
  refine sq (St.closed _ _ _ _) (q_iface rfl Tryz.underlying57 (fun _ h => nomatch h)) rfl ?_
  refine sl_ (l_callX1 (vs := [(.slice A n c), (.iface 57 (.pointer (some ⟨b9, 0, none⟩)))]) (Kc := [⟨b9, 59, [some .nilIface], true⟩]) (Bc := [Byt A n c bs]) [0] [0] [Byt A n c bs] (fun b28 => [⟨b5, 65, [some (.string (⟨#[110, 111, 32, 107, 105, 110, 100]⟩))], true⟩, ⟨b9, 59, [some (.iface 32 (.pointer (some ⟨b28, 0, none⟩)))], true⟩, ⟨b28, 37, [some (.slice (cutA A c 0) (4 - 0) (c - 0)), some (.slice (cutA A c 4) (n - 4) (c - 4)), some (.int .u32 (((bN bs 0 4) / 4096 : Nat) : Int)), some (.int .u8 (((((bN bs 0 4) / 512) % 256) &&& 7 : Nat) : Int)), some (.bool true), some (.int .u8 (((bN bs 0 4) % 256 : Nat) : Int))], true⟩]) (fun b28 => [Byt A n c bs]) (by decide) rfl ca_27 (fun _ h => h) rfl rfl rfl rfl (fun w h => nm1d w A n c bs b9 (by omega) (by omega) (by omega) h) (fun _ => rfl) (fun _ => rfl) (fun _ => rfl) (fun _ => rfl) fun b28 hf3 he4 => ?_)
  refine sq (St.closed _ _ _ _) (q_assign rfl) rfl ?_
  refine send ?_
  refine ein ?_
  refine eseq ?_
  refine HT.seq ?_
  refine HT.seq ?_
  refine HT.plain ?_
  refine sq (St.closed _ _ _ _) (q_move rfl) rfl ?_
  refine sq (St.closed _ _ _ _) (q_notNil rfl rfl Tryz.underlying50) rfl ?_
  refine send ?_
  refine eseq ?_
  refine HT.no rfl ?_
  refine HT.skip ?_
  refine eseq ?_
  refine HT.seq ?_
  refine HT.plain ?_
  refine sq (St.closed _ _ _ _) (q_move rfl) rfl ?_
  refine sq (St.closed _ _ _ _) (q_nil rfl) rfl ?_
  refine sq (St.closed _ _ _ _) (q_field (b := b9) (off := 0) rfl fo_59_0) rfl ?_
  refine sq (St.closed _ _ _ _) (q_load (b := b9) (off := 0) (j := 1) rfl nagg_29 (fun _ h => h) rfl rfl rfl) rfl ?_
  refine sq (St.closed _ _ _ _) (q_assign rfl) rfl ?_
  refine sq (St.closed _ _ _ _) (q_assign rfl) rfl ?_
  refine send ?_
  refine eseq ?_
  refine HT.ret ?_
  exact fun a ha w' hw => fin_ ha (res2 ha Tryz.results9 rfl rfl) ⟨b28, rfl, (hw.wk [(2, [])] rfl), fr0⟩

theorem nm1e (w : World) (A : Option Addr) (n : Nat) (c : Nat) (bs : List UInt8) (hn : n ≤ 400) (ha : 5 ≤ n) (hb : bN bs 0 4 / 256 % 2 = 1) (hst : St w [] [] [Byt A n c bs] w) : Calls Tryz.prog 6 #[(.string ⟨#[109, 112, 108, 115]⟩), (.slice A n c)] w (CP3 w [] [Byt A n c bs] (fun b28 A5 c5 => (.tuple #[(.iface 32 (.pointer (some ⟨b28, 0, none⟩))), (.bool true)])) (fun b28 A5 c5 => [⟨b28, 37, [some (.slice (cutA A5 c5 0) (4 - 0) (c5 - 0)), some (.slice (cutA A5 c5 4) (n - 4) (c5 - 4)), some (.int .u32 (((bN bs 0 4) / 4096 : Nat) : Int)), some (.int .u8 (((((bN bs 0 4) / 512) % 256) &&& 7 : Nat) : Int)), some (.bool true), some (.int .u8 (((bN bs 0 4) % 256 : Nat) : Int))], true⟩]) (fun b28 A5 c5 => [Byt A5 n c5 bs])) := by
  have hnc00 : n ≤ c := (hst.fact (j := 0) rfl).2.1
  refine enter (vs := [(.string ⟨#[109, 112, 108, 115]⟩), (.slice A n c)]) Tryz.func6 rfl rfl rfl hst ?_
  refine HT.seq ?_
  refine HT.plain ?_
  refine sq (St.closed _ _ _ _) (q_assign rfl) rfl ?_
  refine sq (St.closed _ _ _ _) (q_assign rfl) rfl ?_
  refine send ?_
  refine eseq ?_
  refine HT.seq ?_
  refine HT.seq ?_
  refine HT.plain ?_
  refine sq (St.closed _ _ _ _) (q_move rfl) rfl ?_
  refine sq (St.closed _ _ _ _) (q_len (len := n) rfl Tryz.underlying22) rfl ?_
  refine sq (St.closed _ _ _ _) (q_F (q_gt (p := n) (q := 2000) rfl rfl) (by omega)) rfl ?_
  refine send ?_
  refine eseq ?_
  refine HT.no rfl ?_
  refine HT.skip ?_
  refine eseq ?_
  refine HT.seq ?_
  refine HT.plain ?_
  refine sq (St.closed _ _ _ _) (q_move rfl) rfl ?_
  refine sq (St.closed _ _ _ _) (q_assign rfl) rfl ?_
  refine send ?_
  refine eseq ?_
  refine HT.seq ?_
  refine HT.seq ?_
  refine HT.plain ?_
  refine sq (St.closed _ _ _ _) (q_move rfl) rfl ?_
  refine sq (St.closed _ _ _ _) (q_eqs rfl rfl (r := false) (by kernel_rfl)) rfl ?_
  refine sq (St.closed _ _ _ _) (q_move rfl) rfl ?_
  refine sgq (St.closed _ _ _ _) rfl (q_move rfl) rfl ?_
  refine sgq (St.closed _ _ _ _) rfl (q_eqs rfl rfl (r := false) (by kernel_rfl)) rfl ?_
  refine sq (St.closed _ _ _ _) (q_pick rfl (fun h => nomatch h) (fun _ => rfl)) rfl ?_
  refine send ?_
  refine eseq ?_
  refine HT.no rfl ?_
  refine HT.seq ?_
  refine HT.plain ?_
  refine sq (St.closed _ _ _ _) (q_move rfl) rfl ?_
  refine sq (St.closed _ _ _ _) (q_eqs rfl rfl (r := false) (by kernel_rfl)) rfl ?_
  refine send ?_
  refine eseq ?_
  refine HT.no rfl ?_
  refine HT.skip ?_
  refine eseq ?_
  refine HT.seq ?_
  refine HT.seq ?_
  refine HT.plain ?_
  refine sq (St.closed _ _ _ _) (q_move rfl) rfl ?_
  refine sq (St.closed _ _ _ _) (q_move rfl) rfl ?_
  refine sq (St.closed _ _ _ _) (q_call (vs := [(.string ⟨#[109, 112, 108, 115]⟩), (.slice A n c)]) (v := (.bool true)) rfl ca_8 (fun w h => nm1c w A n c bs (by omega) (by omega) (by omega) (St.enter (sp := []) (Kc := []) (bi := [0]) h rfl rfl rfl))) rfl ?_
  refine sq (St.closed _ _ _ _) (q_not rfl) rfl ?_
  refine send ?_
  refine eseq ?_
  refine HT.no rfl ?_
  refine HT.skip ?_
  refine eseq ?_
  refine HT.seq ?_
  refine HT.plain ?_
  refine sq (St.closed _ _ _ _) (q_move rfl) rfl ?_
  refine sq (St.closed _ _ _ _) (q_move rfl) rfl ?_
  refine sl_ (l_callX2 (vs := [(.slice A n c)]) (Kc := []) (Bc := [Byt A n c bs]) [] [0] [Byt A n c bs] (fun A5 c5 => []) (fun A5 c5 => [Byt A n c bs, Byt A5 n c5 bs]) (by decide) rfl ca_10 (fun _ h => h) rfl rfl rfl rfl (fun w h => Clone w A n c bs (by omega) h) (fun _ _ => rfl) (fun _ _ => rfl) (fun _ _ => rfl) (fun _ _ => rfl) fun A5 c5 hf1 he2 => ?_)
  have hnc3 : n ≤ c5 := by obtain ⟨w, h⟩ := he2; exact (h _ List.mem_cons_self).2.1
  refine sl_ (l_callX1 (vs := [(.string ⟨#[109, 112, 108, 115]⟩), (.slice A5 n c5)]) (Kc := []) (Bc := [Byt A5 n c5 bs]) [] [1] [Byt A n c bs, Byt A5 n c5 bs] (fun b28 => [⟨b28, 37, [some (.slice (cutA A5 c5 0) (4 - 0) (c5 - 0)), some (.slice (cutA A5 c5 4) (n - 4) (c5 - 4)), some (.int .u32 (((bN bs 0 4) / 4096 : Nat) : Int)), some (.int .u8 (((((bN bs 0 4) / 512) % 256) &&& 7 : Nat) : Int)), some (.bool true), some (.int .u8 (((bN bs 0 4) % 256 : Nat) : Int))], true⟩]) (fun b28 => [Byt A n c bs, Byt A5 n c5 bs]) (by decide) rfl ca_9 (fun _ h => h) rfl rfl rfl rfl (fun w h => nm1z w A5 n c5 bs (by omega) (by omega) (by omega) h) (fun _ => rfl) (fun _ => rfl) (fun _ => rfl) (fun _ => rfl) fun b28 hf4 he5 => ?_)
  refine sq (St.closed _ _ _ _) (q_move rfl) rfl ?_
  refine sq (St.closed _ _ _ _) (q_extract (vs := [(.iface 32 (.pointer (some ⟨b28, 0, none⟩))), .nilIface]) (i := 0) rfl rfl) rfl ?_
  refine sq (St.closed _ _ _ _) (q_extract (vs := [(.iface 32 (.pointer (some ⟨b28, 0, none⟩))), .nilIface]) (i := 1) rfl rfl) rfl ?_
  refine sq (St.closed _ _ _ _) (q_assign rfl) rfl ?_
  refine sq (St.closed _ _ _ _) (q_assign rfl) rfl ?_
  refine send ?_
  refine eseq ?_
  refine HT.seq ?_
  refine HT.seq ?_
  refine HT.plain ?_
  refine sq (St.closed _ _ _ _) (q_move rfl) rfl ?_
  refine sq (St.closed _ _ _ _) (q_notNil rfl rfl Tryz.underlying50) rfl ?_
  refine sq (St.closed _ _ _ _) (q_move rfl) rfl ?_
  refine sgq (St.closed _ _ _ _) rfl (q_move rfl) rfl ?_
  refine sgq (St.closed _ _ _ _) rfl (q_isNil' rfl rfl Tryz.underlying29) rfl ?_
  refine sq (St.closed _ _ _ _) (q_pick rfl (fun h => nomatch h) (fun _ => rfl)) rfl ?_
  refine send ?_
  refine eseq ?_
  refine HT.no rfl ?_
  refine HT.skip ?_
  refine eseq ?_
  refine HT.seq ?_
  refine HT.seq ?_
  refine HT.plain ?_
  refine sq (St.closed _ _ _ _) (q_move rfl) rfl ?_
  refine sq (St.closed _ _ _ _) (q_isnt (T := 32) (z := (.pointer none)) rfl Tryz.underlying53 (fun _ h => nomatch h) (by decide) zero_53) rfl ?_
  refine sq (St.closed _ _ _ _) (q_move rfl) rfl ?_
  refine sq (St.closed _ _ _ _) (q_extract (vs := [(.pointer none), (.bool false)]) (i := 0) rfl rfl) rfl ?_
  refine sq (St.closed _ _ _ _) (q_extract (vs := [(.pointer none), (.bool false)]) (i := 1) rfl rfl) rfl ?_
  refine sq (St.closed _ _ _ _) (q_assign rfl) rfl ?_
  refine sq (St.closed _ _ _ _) (q_assign rfl) rfl ?_
  refine send ?_
  refine eseq ?_
  refine HT.seq ?_
  refine HT.plain ?_
  refine sq (St.closed _ _ _ _) (q_move rfl) rfl ?_
  refine sq (St.closed _ _ _ _) (q_move rfl) rfl ?_
  refine sq (St.closed _ _ _ _) (q_eqs rfl rfl (r := false) (by kernel_rfl)) rfl ?_
  refine sq (St.closed _ _ _ _) (q_neb rfl rfl Tryz.underlying4) rfl ?_
  refine sq (St.closed _ _ _ _) (q_move rfl) rfl ?_
  refine sskip rfl rfl ?_
  refine sskip rfl rfl ?_
  refine sq (St.closed _ _ _ _) (q_pick rfl (fun h => nomatch h) (fun _ => rfl)) rfl ?_
  refine send ?_
  refine eseq ?_
  refine HT.no rfl ?_
  refine HT.skip ?_
  refine eseq ?_
  refine HT.seq ?_
  refine HT.plain ?_
  refine sq (St.closed _ _ _ _) (q_move rfl) rfl ?_
  refine sq (St.closed _ _ _ _) (q_assign rfl) rfl ?_
  refine sq (St.closed _ _ _ _) (q_assign rfl) rfl ?_
  refine send ?_
  refine eseq ?_
  refine HT.ret ?_
  exact fun a ha w' hw => fin_ ha (res2 ha Tryz.results6 rfl rfl) ⟨b28, A5, c5, rfl, hw, (fr1 (hf1 _ List.mem_cons_self) fr0)⟩

theorem nm1N (w : World) (A : Option Addr) (n : Nat) (c : Nat) (bs : List UInt8) (hn : n ≤ 400) (ha : 5 ≤ n) (hb : bN bs 0 4 / 256 % 2 = 1) (hst : St w [] [] [Byt A n c bs] w) : Calls Tryz.prog 5 #[(.string ⟨#[109, 112, 108, 115]⟩), (.slice A n c)] w (fun e w' => e = .returned (.tuple #[(.int .u64 ((24 : Nat) : Int)), (.bool false)]) ∧ Pres [] w w') := by
  have hnc00 : n ≤ c := (hst.fact (j := 0) rfl).2.1
  refine enter (vs := [(.string ⟨#[109, 112, 108, 115]⟩), (.slice A n c)]) Tryz.func5 rfl rfl rfl hst ?_
  refine HT.seq ?_
  refine HT.plain ?_
  refine sq (St.closed _ _ _ _) (q_assign rfl) rfl ?_
  refine sq (St.closed _ _ _ _) (q_assign rfl) rfl ?_
  refine send ?_
  refine eseq ?_
  refine HT.seq ?_
  refine HT.plain ?_
  refine sq (St.closed _ _ _ _) (q_move rfl) rfl ?_
  refine sq (St.closed _ _ _ _) (q_move rfl) rfl ?_
  refine sl_ (l_callX3 (vs := [(.string ⟨#[109, 112, 108, 115]⟩), (.slice A n c)]) (Kc := []) (Bc := [Byt A n c bs]) [] [0] [Byt A n c bs] (fun b28 A5 c5 => [⟨b28, 37, [some (.slice (cutA A5 c5 0) (4 - 0) (c5 - 0)), some (.slice (cutA A5 c5 4) (n - 4) (c5 - 4)), some (.int .u32 (((bN bs 0 4) / 4096 : Nat) : Int)), some (.int .u8 (((((bN bs 0 4) / 512) % 256) &&& 7 : Nat) : Int)), some (.bool true), some (.int .u8 (((bN bs 0 4) % 256 : Nat) : Int))], true⟩]) (fun b28 A5 c5 => [Byt A n c bs, Byt A5 n c5 bs]) (by decide) rfl ca_6 (fun _ h => h) rfl rfl rfl rfl (fun w h => nm1e w A n c bs (by omega) (by omega) (by omega) h) (fun _ _ _ => rfl) (fun _ _ _ => rfl) (fun _ _ _ => rfl) (fun _ _ _ => rfl) fun b28 A5 c5 hf1 he2 => ?_)
  have hnc3 : n ≤ c5 := by obtain ⟨w, h⟩ := he2; exact (h _ List.mem_cons_self).2.1
  refine sq (St.closed _ _ _ _) (q_move rfl) rfl ?_
  refine sq (St.closed _ _ _ _) (q_extract (vs := [(.iface 32 (.pointer (some ⟨b28, 0, none⟩))), (.bool true)]) (i := 0) rfl rfl) rfl ?_
  refine sq (St.closed _ _ _ _) (q_extract (vs := [(.iface 32 (.pointer (some ⟨b28, 0, none⟩))), (.bool true)]) (i := 1) rfl rfl) rfl ?_
  refine sq (St.closed _ _ _ _) (q_assign rfl) rfl ?_
  refine sq (St.closed _ _ _ _) (q_assign rfl) rfl ?_
  refine send ?_
  refine eseq ?_
  refine HT.seq ?_
  refine HT.seq ?_
  refine HT.plain ?_
  refine sq (St.closed _ _ _ _) (q_move rfl) rfl ?_
  refine sq (St.closed _ _ _ _) (q_not rfl) rfl ?_
  refine send ?_
  refine eseq ?_
  refine HT.no rfl ?_
  refine HT.skip ?_
  refine eseq ?_
  refine HT.seq ?_
  refine HT.seq ?_
  refine HT.plain ?_
  refine sq (St.closed _ _ _ _) (q_move rfl) rfl ?_
  refine send ?_
  refine eseq ?_
  refine HT.block ?_
  refine HT.seq ?_
  refine HT.plain ?_
  refine sq (St.closed _ _ _ _) (q_is rfl Tryz.underlying32 (fun _ h => nomatch h)) rfl ?_
  refine sq (St.closed _ _ _ _) (q_extract (vs := [(.pointer (some ⟨b28, 0, none⟩)), (.bool true)]) (i := 1) rfl rfl) rfl ?_
  refine sq (St.closed _ _ _ _) (q_extract (vs := [(.pointer (some ⟨b28, 0, none⟩)), (.bool true)]) (i := 0) rfl rfl) rfl ?_
  refine send ?_
  refine eseq ?_
  refine HT.yes rfl ?_
  refine HT.seq ?_
  refine HT.plain ?_
  refine sq (St.closed _ _ _ _) (q_assign rfl) rfl ?_
  refine send ?_
  refine eseq ?_
  refine HT.seq ?_
  refine HT.drawnS mixed (St.closed _ _ _ _) ?_
  refine dtake (f := 0) [0, 1, 2, 3, 4, 5, 6] (by kernel_rfl) (St.closed _ _ _ _) (fun _ h => h) (by kernel_rfl) ?_
  refine dq rfl (q_move rfl) ?_
  refine dq rfl (q_nil rfl) ?_
  refine dq rfl (q_field (b := b28) (off := 0) rfl fo_37_3) ?_
  refine dq rfl (q_load (b := b28) (off := 4) (j := 0) rfl nagg_4 (fun _ h => h) rfl rfl rfl) ?_
  refine dq rfl (q_not rfl) ?_
  refine dq rfl (q_assign rfl) ?_
  refine dq rfl (q_assign rfl) ?_
  refine QL.nil ?_
  refine dend (by kernel_rfl) ?_
  refine eseq ?_
  refine HT.ret ?_
  refine rt_in ?_
  refine rt_then ?_
  exact fun a ha w' hw => fin_ ha (res2 ha Tryz.results5 rfl rfl) ⟨rfl, hw.pres⟩

theorem ns4c (w : World) (A : Option Addr) (n : Nat) (c : Nat) (bs : List UInt8) (hn : n ≤ 400) (ha : 5 ≤ n) (hb : bN bs 3 2 = 2048) (hst : St w [] [] [Byt A n c bs] w) : Calls Tryz.prog 8 #[(.string ⟨#[115, 110, 97, 112]⟩), (.slice A n c)] w (fun e w' => e = .returned (.bool true) ∧ Pres [] w w') := by
  have hnc00 : n ≤ c := (hst.fact (j := 0) rfl).2.1
  refine enter (vs := [(.string ⟨#[115, 110, 97, 112]⟩), (.slice A n c)]) Tryz.func8 rfl rfl rfl hst ?_
  refine HT.seq ?_
  refine HT.plain ?_
  refine sq (St.closed _ _ _ _) (q_assign rfl) rfl ?_
  refine send ?_
  refine eseq ?_
  refine HT.seq ?_
  refine HT.seq ?_
  refine HT.plain ?_
  refine sq (St.closed _ _ _ _) (q_move rfl) rfl ?_
  refine send ?_
  refine eseq ?_
  refine HT.block ?_
  refine HT.seq ?_
  refine HT.plain ?_
  refine sq (St.closed _ _ _ _) (q_eqs rfl rfl (r := false) (by kernel_rfl)) rfl ?_
  refine sq (St.closed _ _ _ _) (q_assign rfl) rfl ?_
  refine send ?_
  refine eseq ?_
  refine HT.no rfl ?_
  refine HT.seq ?_
  refine HT.plain ?_
  refine sq (St.closed _ _ _ _) (q_eqs rfl rfl (r := false) (by kernel_rfl)) rfl ?_
  refine sq (St.closed _ _ _ _) (q_assign rfl) rfl ?_
  refine send ?_
  refine eseq ?_
  refine HT.no rfl ?_
  refine HT.seq ?_
  refine HT.plain ?_
  refine sq (St.closed _ _ _ _) (q_eqs rfl rfl (r := false) (by kernel_rfl)) rfl ?_
  refine sq (St.closed _ _ _ _) (q_assign rfl) rfl ?_
  refine send ?_
  refine eseq ?_
  refine HT.no rfl ?_
  refine HT.seq ?_
  refine HT.plain ?_
  refine sq (St.closed _ _ _ _) (q_eqs rfl rfl (r := false) (by kernel_rfl)) rfl ?_
  refine sq (St.closed _ _ _ _) (q_assign rfl) rfl ?_
  refine send ?_
  refine eseq ?_
  refine HT.no rfl ?_
  refine HT.seq ?_
  refine HT.plain ?_
  refine sq (St.closed _ _ _ _) (q_eqs rfl rfl (r := false) (by kernel_rfl)) rfl ?_
  refine sq (St.closed _ _ _ _) (q_assign rfl) rfl ?_
  refine send ?_
  refine eseq ?_
  refine HT.no rfl ?_
  refine HT.seq ?_
  refine HT.seq ?_
  refine HT.plain ?_
  refine sq (St.closed _ _ _ _) (q_eqs rfl rfl (r := false) (by kernel_rfl)) rfl ?_
  refine sq (St.closed _ _ _ _) (q_assign rfl) rfl ?_
  refine send ?_
  refine eseq ?_
  refine HT.no rfl ?_
  refine HT.seq ?_
  refine HT.plain ?_
  refine sq (St.closed _ _ _ _) (q_eqs rfl rfl (r := false) (by kernel_rfl)) rfl ?_
  refine sq (St.closed _ _ _ _) (q_assign rfl) rfl ?_
  refine send ?_
  refine eseq ?_
  refine HT.no rfl ?_
  refine HT.plain ?_
  refine sq (St.closed _ _ _ _) (q_eqs rfl rfl (r := false) (by kernel_rfl)) rfl ?_
  refine sq (St.closed _ _ _ _) (q_assign rfl) rfl ?_
  refine send ?_
  refine eseq ?_
  refine HT.no rfl ?_
  refine HT.seq ?_
  refine HT.plain ?_
  refine sq (St.closed _ _ _ _) (q_eqs rfl rfl (r := false) (by kernel_rfl)) rfl ?_
  refine sq (St.closed _ _ _ _) (q_assign rfl) rfl ?_
  refine send ?_
  refine eseq ?_
  refine HT.no rfl ?_
  refine HT.seq ?_
  refine HT.plain ?_
  refine sq (St.closed _ _ _ _) (q_eqs rfl rfl (r := false) (by kernel_rfl)) rfl ?_
  refine sq (St.closed _ _ _ _) (q_assign rfl) rfl ?_
  refine send ?_
  refine eseq ?_
  refine HT.no rfl ?_
  refine HT.seq ?_
  refine HT.plain ?_
  refine sq (St.closed _ _ _ _) (q_eqs rfl rfl (r := false) (by kernel_rfl)) rfl ?_
  refine sq (St.closed _ _ _ _) (q_assign rfl) rfl ?_
  refine send ?_
  refine eseq ?_
  refine HT.no rfl ?_
  refine HT.seq ?_
  refine HT.plain ?_
  refine sq (St.closed _ _ _ _) (q_eqs rfl rfl (r := false) (by kernel_rfl)) rfl ?_
  refine sq (St.closed _ _ _ _) (q_assign rfl) rfl ?_
  refine send ?_
  refine eseq ?_
  refine HT.no rfl ?_
  refine HT.seq ?_
  refine HT.plain ?_
  refine sq (St.closed _ _ _ _) (q_eqs rfl rfl (r := false) (by kernel_rfl)) rfl ?_
  refine sq (St.closed _ _ _ _) (q_assign rfl) rfl ?_
  refine send ?_
  refine eseq ?_
  refine HT.no rfl ?_
  refine HT.seq ?_
  refine HT.plain ?_
  refine sq (St.closed _ _ _ _) (q_eqs rfl rfl (r := false) (by kernel_rfl)) rfl ?_
  refine sq (St.closed _ _ _ _) (q_assign rfl) rfl ?_
  refine send ?_
  refine eseq ?_
  refine HT.no rfl ?_
  refine HT.skip ?_
  refine ein ?_
  refine eseq ?_
  refine HT.seq ?_
  refine HT.plain ?_
  refine sq (St.closed _ _ _ _) (q_assign rfl) rfl ?_
  refine send ?_
  refine eseq ?_
  refine HT.ret ?_
  exact fun a ha w' hw => fin_ ha (res1 ha Tryz.results8 rfl) ⟨rfl, hw.pres⟩

theorem ns4m (w : World) (A : Option Addr) (n : Nat) (c : Nat) (bs : List UInt8) (rb : Nat) (kb : Nat) (hn : n ≤ 400) (ha : 5 ≤ n) (hb : bN bs 3 2 = 2048) (hst : St w [rb] [⟨rb, 87, [some (.slice none 0 0), some (.slice none 0 0), some (.slice none 0 0), some (.int .u16 ((0 : Nat) : Int))], true⟩] [Byt A n c bs] w) : Calls Tryz.prog 42 #[(.pointer (some ⟨rb, 0, none⟩)), (.slice A n c), (.iface 57 (.pointer (some ⟨kb, 0, none⟩)))] w (CP0 w [rb] [Byt A n c bs] (.nilIface) ([⟨rb, 87, [some (.slice (cutA A c 0) (5 - 0) (c - 0)), some (.slice (cutA A c 5) (n - 5) (c - 5)), some (.slice (cutA A c 0) (3 - 0) (c - 0)), some (.int .u16 ((bN bs 3 2 : Nat) : Int))], true⟩]) ([])) := by
  have hnc00 : n ≤ c := (hst.fact (j := 0) rfl).2.1
  refine enter (vs := [(.pointer (some ⟨rb, 0, none⟩)), (.slice A n c), (.iface 57 (.pointer (some ⟨kb, 0, none⟩)))]) Tryz.func42 rfl rfl rfl hst ?_
  refine HT.seq ?_
  refine HT.plain ?_
  refine sq (St.closed _ _ _ _) (q_assign rfl) rfl ?_
  refine send ?_
  refine eseq ?_
  refine HT.seq ?_
  refine HT.seq ?_
  refine HT.plain ?_
  refine sq (St.closed _ _ _ _) (q_move rfl) rfl ?_
  refine sq (St.closed _ _ _ _) (q_len (len := n) rfl Tryz.underlying22) rfl ?_
  refine sq (St.closed _ _ _ _) (q_F (q_lt (p := n) (q := 5) rfl rfl) (by omega)) rfl ?_
  refine send ?_
  refine eseq ?_
  refine HT.no rfl ?_
  refine HT.skip ?_
  refine eseq ?_
  refine HT.seq ?_
  refine HT.plain ?_
  refine sq (St.closed _ _ _ _) (q_move rfl) rfl ?_
  refine sq (St.closed _ _ _ _) (q_move rfl) rfl ?_
  refine sq (St.closed _ _ _ _) (q_slice (lo := 0) (hi := 3) rfl Tryz.underlying22 nagg_5 (.inl ⟨rfl, rfl⟩) (.inr ⟨_, _, rfl, rfl⟩) (by omega) (by omega)) rfl ?_
  refine sq (St.closed _ _ _ _) (q_nil rfl) rfl ?_
  refine sq (St.closed _ _ _ _) (q_field (b := rb) (off := 0) rfl fo_87_1) rfl ?_
  refine sl_ (l_store (b := rb) (off := 2) (j := 0) rfl rfl nagg_22 rfl rfl rfl rfl (dlt rfl) ?_)
  refine send ?_
  refine eseq ?_
  refine HT.seq ?_
  refine HT.drawn mixed (St.closed _ _ _ _) (St w [rb] [⟨rb, 87, [some (.slice none 0 0), some (.slice none 0 0), some (.slice (cutA A c 0) (3 - 0) (c - 0)), none], true⟩] [Byt A n c bs]) ?_
  refine dtake (f := 1) [0, 1, 2, 3, 4, 5, 6] (by kernel_rfl) (St.closed _ _ _ _) (fun _ h => (h.wk [(0, [3])] rfl)) (by kernel_rfl) ?_
  refine dq rfl (q_move rfl) ?_
  refine dq rfl (q_loadEmpty rfl aggs_71) ?_
  refine dq rfl (q_move rfl) ?_
  refine dq rfl (q_slice (lo := 3) (hi := 5) rfl Tryz.underlying22 nagg_5 (.inr ⟨_, _, rfl, rfl⟩) (.inr ⟨_, _, rfl, rfl⟩) (by omega) (by omega)) ?_
  refine dq rfl (q_call (vs := [(.agg #[]), (.slice (cutA A c 3) (5 - 3) (c - 3))]) (v := (.int .u16 ((bN bs 3 2 : Nat) : Int))) rfl ca_40 (fun w h => U16 w A n c bs (lo := 3) (hi := 5) (h.fact (j := 0) rfl) (by omega) (by omega))) ?_
  refine dq rfl (q_nil rfl) ?_
  refine dq rfl (q_field (b := rb) (off := 0) rfl fo_87_2) ?_
  refine QL.nil ?_
  refine RG.step1 7 (by kernel_rfl) ?_
  refine dop rfl (l_store (b := rb) (off := 3) (j := 0) rfl rfl nagg_85 rfl rfl rfl rfl (dlt rfl) ⟨(fun _ h => (h.wk [(0, [3])] rfl)), ?_⟩)
  refine dend (by kernel_rfl) ?_
  refine eseq ?_
  refine HT.seq ?_
  refine HT.drawn mixed (St.closed _ _ _ _) (St w [rb] [⟨rb, 87, [none, none, some (.slice (cutA A c 0) (3 - 0) (c - 0)), some (.int .u16 ((bN bs 3 2 : Nat) : Int))], true⟩] [Byt A n c bs]) ?_
  refine dtake (f := 1) [0, 1, 2, 3, 4, 5, 6, 7] (by kernel_rfl) (St.closed _ _ _ _) (fun _ h => (h.wk [(0, [0, 1])] rfl)) (by kernel_rfl) ?_
  refine dq rfl (q_move rfl) ?_
  refine dq rfl (q_move rfl) ?_
  refine dq rfl (q_slice (lo := 0) (hi := 5) rfl Tryz.underlying22 nagg_5 (.inl ⟨rfl, rfl⟩) (.inr ⟨_, _, rfl, rfl⟩) (by omega) (by omega)) ?_
  refine dq rfl (q_move rfl) ?_
  refine dq rfl (q_slice (lo := 5) (hi := n) rfl Tryz.underlying22 nagg_5 (.inr ⟨_, _, rfl, rfl⟩) (.inl ⟨rfl, rfl⟩) (by omega) (by omega)) ?_
  refine dq rfl (q_build (vs := [(0, (.slice (cutA A c 0) (5 - 0) (c - 0))), (1, (.slice (cutA A c 5) (n - 5) (c - 5)))]) (v := (.agg #[(.slice (cutA A c 0) (5 - 0) (c - 0)), (.slice (cutA A c 5) (n - 5) (c - 5))])) rfl (fun _ => by kernel_rfl)) ?_
  refine dq rfl (q_nil rfl) ?_
  refine dq rfl (q_field (b := rb) (off := 0) rfl fo_87_0) ?_
  refine QL.nil ?_
  refine RG.step1 8 (by kernel_rfl) ?_
  refine dop rfl (l_storeAgg (b := rb) (off := 0) (j := 0) (vs := [(.slice (cutA A c 0) (5 - 0) (c - 0)), (.slice (cutA A c 5) (n - 5) (c - 5))]) rfl rfl aggs_34 (by simp [Value.one1]) rfl rfl rfl (Nat.le_of_ble_eq_true rfl) ⟨(fun _ h => (h.wk [(0, [0, 1])] rfl)), ?_⟩)
  refine dend (by kernel_rfl) ?_
  refine eseq ?_
  refine HT.seq ?_
  refine HT.plain ?_
  refine sq (St.closed _ _ _ _) (q_assign rfl) rfl ?_
  refine send ?_
  refine eseq ?_
  refine HT.ret ?_
  exact fun a ha w' hw => fin_ ha (res1 ha Tryz.results42 rfl) ⟨rfl, hw, fr0⟩

theorem ns4d (w : World) (A : Option Addr) (n : Nat) (c : Nat) (bs : List UInt8) (kb : Nat) (hn : n ≤ 400) (ha : 5 ≤ n) (hb : bN bs 3 2 = 2048) (hst : St w [kb] [⟨kb, 59, [some .nilIface], true⟩] [Byt A n c bs] w) : Calls Tryz.prog 20 #[(.slice A n c), (.iface 57 (.pointer (some ⟨kb, 0, none⟩)))] w (CP1 w [kb] [Byt A n c bs] (fun b8 => .nilIface) (fun b8 => [⟨kb, 59, [some (.iface 84 (.pointer (some ⟨b8, 0, none⟩)))], true⟩, ⟨b8, 87, [some (.slice (cutA A c 0) (5 - 0) (c - 0)), some (.slice (cutA A c 5) (n - 5) (c - 5)), some (.slice (cutA A c 0) (3 - 0) (c - 0)), some (.int .u16 ((bN bs 3 2 : Nat) : Int))], true⟩]) (fun b8 => [])) := by
  have hnc00 : n ≤ c := (hst.fact (j := 0) rfl).2.1
  refine enter (vs := [(.slice A n c), (.iface 57 (.pointer (some ⟨kb, 0, none⟩)))]) Tryz.func20 rfl rfl rfl hst ?_
  refine HT.seq ?_
  refine HT.plain ?_
  refine sq (St.closed _ _ _ _) (q_assign rfl) rfl ?_
  refine send ?_
  refine eseq ?_
  refine HT.seq ?_
  refine HT.plain ?_
  refine sq (St.closed _ _ _ _) (q_build (vs := []) (v := (.agg #[(.slice none 0 0), (.slice none 0 0), (.slice none 0 0), (.int .u16 ((0 : Nat) : Int))])) rfl (fun _ => by kernel_rfl)) rfl ?_
  refine sl_ (l_box (by decide) rfl fun b8 => ?_)
  refine sq (St.closed _ _ _ _) (q_assign rfl) rfl ?_
  refine send ?_
  refine eseq ?_
  refine HT.seq ?_
  refine HT.plain ?_
  refine sq (St.closed _ _ _ _) (q_move rfl) rfl ?_
  refine sq (St.closed _ _ _ _) (q_move rfl) rfl ?_
  refine sq (St.closed _ _ _ _) (q_move rfl) rfl ?_
  refine sl_ (l_callX0 (vs := [(.pointer (some ⟨b8, 0, none⟩)), (.slice A n c), (.iface 57 (.pointer (some ⟨kb, 0, none⟩)))]) (Kc := [⟨b8, 87, [some (.slice none 0 0), some (.slice none 0 0), some (.slice none 0 0), some (.int .u16 ((0 : Nat) : Int))], true⟩]) (Bc := [Byt A n c bs]) [1] [0] [Byt A n c bs] ([⟨kb, 59, [some .nilIface], true⟩, ⟨b8, 87, [some (.slice (cutA A c 0) (5 - 0) (c - 0)), some (.slice (cutA A c 5) (n - 5) (c - 5)), some (.slice (cutA A c 0) (3 - 0) (c - 0)), some (.int .u16 ((bN bs 3 2 : Nat) : Int))], true⟩]) ([Byt A n c bs]) (by decide) rfl ca_42 (fun _ h => h) rfl rfl rfl rfl (fun w h => ns4m w A n c bs b8 kb (by omega) (by omega) (by omega) h) rfl rfl rfl rfl fun hf1 he2 => ?_)
  refine sq (St.closed _ _ _ _) (q_assign rfl) rfl ?_
  refine send ?_
  refine eseq ?_
  refine HT.seq ?_
  refine HT.seq ?_
  refine HT.plain ?_
  refine sq (St.closed _ _ _ _) (q_move rfl) rfl ?_
  refine sq (St.closed _ _ _ _) (q_notNil rfl rfl Tryz.underlying50) rfl ?_
  refine send ?_
  refine eseq ?_
  refine HT.no rfl ?_
  refine HT.skip ?_
  refine eseq ?_
  refine HT.seq ?_
  refine HT.plain ?_
  refine sq (St.closed _ _ _ _) (q_move rfl) rfl ?_
  refine sq (St.closed _ _ _ _) (q_move rfl) rfl ?_
  refine sq (St.closed _ _ _ _) (q_iface rfl Tryz.underlying84 (fun _ h => nomatch h)) rfl ?_
  refine sl_ (l_invX0 (vs := [(.iface 84 (.pointer (some ⟨b8, 0, none⟩)))]) (Kc := [⟨kb, 59, [some .nilIface], true⟩]) (Bc := []) [0] [] [Byt A n c bs] ([⟨b8, 87, [some (.slice (cutA A c 0) (5 - 0) (c - 0)), some (.slice (cutA A c 5) (n - 5) (c - 5)), some (.slice (cutA A c 0) (3 - 0) (c - 0)), some (.int .u16 ((bN bs 3 2 : Nat) : Int))], true⟩, ⟨kb, 59, [some (.iface 84 (.pointer (some ⟨b8, 0, none⟩)))], true⟩]) ([Byt A n c bs]) (by decide) rfl (fun w => me_57_AddLayer _ w) rfl ca_77 (fun _ h => h) rfl rfl rfl rfl (fun w h => addLayer w kb 84 b8  h) rfl rfl rfl rfl fun hf3 he4 => ?_)
  refine send ?_
  refine eseq ?_
  refine HT.seq ?_
  refine HT.plain ?_
  refine sq (St.closed _ _ _ _) (q_assign rfl) rfl ?_
  refine send ?_
  refine eseq ?_
  refine HT.ret ?_
  exact fun a ha w' hw => fin_ ha (res1 ha Tryz.results20 rfl) ⟨b8, rfl, (hw.wk [(1, []), (0, [])] rfl), fr0⟩

theorem ns4z (w : World) (A : Option Addr) (n : Nat) (c : Nat) (bs : List UInt8) (hn : n ≤ 400) (ha : 5 ≤ n) (hb : bN bs 3 2 = 2048) (hst : St w [] [] [Byt A n c bs] w) : Calls Tryz.prog 9 #[(.string ⟨#[115, 110, 97, 112]⟩), (.slice A n c)] w (CP1 w [] [Byt A n c bs] (fun b8 => (.tuple #[(.iface 84 (.pointer (some ⟨b8, 0, none⟩))), .nilIface])) (fun b8 => [⟨b8, 87, [some (.slice (cutA A c 0) (5 - 0) (c - 0)), some (.slice (cutA A c 5) (n - 5) (c - 5)), some (.slice (cutA A c 0) (3 - 0) (c - 0)), some (.int .u16 ((bN bs 3 2 : Nat) : Int))], true⟩]) (fun b8 => [])) := by
  have hnc00 : n ≤ c := (hst.fact (j := 0) rfl).2.1
  refine enter (vs := [(.string ⟨#[115, 110, 97, 112]⟩), (.slice A n c)]) Tryz.func9 rfl rfl rfl hst ?_
  refine HT.seq ?_
  refine HT.plain ?_
  refine sq (St.closed _ _ _ _) (q_assign rfl) rfl ?_
  refine sq (St.closed _ _ _ _) (q_assign rfl) rfl ?_
  refine send ?_
  refine eseq ?_
  refine HT.seq ?_
  refine HT.plain ?_
  refine sq (St.closed _ _ _ _) (q_build (vs := []) (v := (.agg #[.nilIface])) rfl (fun _ => by kernel_rfl)) rfl ?_
  refine sl_ (l_box (by decide) rfl fun b9 => ?_)
  refine sq (St.closed _ _ _ _) (q_assign rfl) rfl ?_
  refine send ?_
  refine eseq ?_
  refine HT.seq ?_
  refine HT.plain ?_
  refine sl_ (l_callX1 (vs := [(.string ⟨#[110, 111, 32, 107, 105, 110, 100]⟩)]) (Kc := []) (Bc := []) [] [] [Byt A n c bs] (fun b5 => [⟨b9, 59, [some .nilIface], true⟩, ⟨b5, 65, [some (.string (⟨#[110, 111, 32, 107, 105, 110, 100]⟩))], true⟩]) (fun b5 => [Byt A n c bs]) (by decide) rfl ca_16 (fun _ h => h) rfl rfl rfl rfl (fun w h => errNew w (⟨#[110, 111, 32, 107, 105, 110, 100]⟩)  h) (fun _ => rfl) (fun _ => rfl) (fun _ => rfl) (fun _ => rfl) fun b5 hf1 he2 => ?_)
  refine sq (St.closed _ _ _ _) (q_assign rfl) rfl ?_
  refine send ?_
  refine eseq ?_
  refine HT.seq ?_
  refine HT.seq ?_
  refine HT.plain ?_
  refine sq (St.closed _ _ _ _) (q_move rfl) rfl ?_
  refine send ?_
  refine eseq ?_
  refine HT.block ?_
  refine HT.seq ?_
  refine HT.plain ?_
  refine sq (St.closed _ _ _ _) (q_eqs rfl rfl (r := false) (by kernel_rfl)) rfl ?_
  refine sq (St.closed _ _ _ _) (q_assign rfl) rfl ?_
  refine send ?_
  refine eseq ?_
  refine HT.no rfl ?_
  refine HT.seq ?_
  refine HT.plain ?_
  refine sq (St.closed _ _ _ _) (q_eqs rfl rfl (r := false) (by kernel_rfl)) rfl ?_
  refine sq (St.closed _ _ _ _) (q_assign rfl) rfl ?_
  refine send ?_
  refine eseq ?_
  refine HT.no rfl ?_
  refine HT.seq ?_
  refine HT.plain ?_
  refine sq (St.closed _ _ _ _) (q_eqs rfl rfl (r := false) (by kernel_rfl)) rfl ?_
  refine sq (St.closed _ _ _ _) (q_assign rfl) rfl ?_
  refine send ?_
  refine eseq ?_
  refine HT.no rfl ?_
  refine HT.seq ?_
  refine HT.plain ?_
  refine sq (St.closed _ _ _ _) (q_eqs rfl rfl (r := true) (by kernel_rfl)) rfl ?_
  refine sq (St.closed _ _ _ _) (q_assign rfl) rfl ?_
  refine send ?_
  refine eseq ?_
  refine HT.yes rfl ?_
  refine HT.plain ?_
  refine sq (St.closed _ _ _ _) (q_move rfl) rfl ?_
  refine sq (St.closed _ _ _ _) (q_move rfl) rfl ?_
  refine sq (St.closed _ _ _ _) (q_iface rfl Tryz.underlying57 (fun _ h => nomatch h)) rfl ?_
  refine sl_ (l_callX1 (vs := [(.slice A n c), (.iface 57 (.pointer (some ⟨b9, 0, none⟩)))]) (Kc := [⟨b9, 59, [some .nilIface], true⟩]) (Bc := [Byt A n c bs]) [0] [0] [Byt A n c bs] (fun b8 => [⟨b5, 65, [some (.string (⟨#[110, 111, 32, 107, 105, 110, 100]⟩))], true⟩, ⟨b9, 59, [some (.iface 84 (.pointer (some ⟨b8, 0, none⟩)))], true⟩, ⟨b8, 87, [some (.slice (cutA A c 0) (5 - 0) (c - 0)), some (.slice (cutA A c 5) (n - 5) (c - 5)), some (.slice (cutA A c 0) (3 - 0) (c - 0)), some (.int .u16 ((bN bs 3 2 : Nat) : Int))], true⟩]) (fun b8 => [Byt A n c bs]) (by decide) rfl ca_20 (fun _ h => h) rfl rfl rfl rfl (fun w h => ns4d w A n c bs b9 (by omega) (by omega) (by omega) h) (fun _ => rfl) (fun _ => rfl) (fun _ => rfl) (fun _ => rfl) fun b8 hf3 he4 => ?_)
  refine sq (St.closed _ _ _ _) (q_assign rfl) rfl ?_
  refine send ?_
  refine ein ?_
  refine eseq ?_
  refine HT.seq ?_
  refine HT.seq ?_
  refine HT.plain ?_
  refine sq (St.closed _ _ _ _) (q_move rfl) rfl ?_
  refine sq (St.closed _ _ _ _) (q_notNil rfl rfl Tryz.underlying50) rfl ?_
  refine send ?_
  refine eseq ?_
  refine HT.no rfl ?_
  refine HT.skip ?_
  refine eseq ?_
  refine HT.seq ?_
  refine HT.plain ?_
  refine sq (St.closed _ _ _ _) (q_move rfl) rfl ?_
  refine sq (St.closed _ _ _ _) (q_nil rfl) rfl ?_
  refine sq (St.closed _ _ _ _) (q_field (b := b9) (off := 0) rfl fo_59_0) rfl ?_
  refine sq (St.closed _ _ _ _) (q_load (b := b9) (off := 0) (j := 1) rfl nagg_29 (fun _ h => h) rfl rfl rfl) rfl ?_
  refine sq (St.closed _ _ _ _) (q_assign rfl) rfl ?_
  refine sq (St.closed _ _ _ _) (q_assign rfl) rfl ?_
  refine send ?_
  refine eseq ?_
  refine HT.ret ?_
  exact fun a ha w' hw => fin_ ha (res2 ha Tryz.results9 rfl rfl) ⟨b8, rfl, (hw.wk [(2, [])] rfl), fr0⟩

theorem ns4e (w : World) (A : Option Addr) (n : Nat) (c : Nat) (bs : List UInt8) (hn : n ≤ 400) (ha : 5 ≤ n) (hb : bN bs 3 2 = 2048) (hst : St w [] [] [Byt A n c bs] w) : Calls Tryz.prog 6 #[(.string ⟨#[115, 110, 97, 112]⟩), (.slice A n c)] w (CP3 w [] [Byt A n c bs] (fun b8 A5 c5 => (.tuple #[(.iface 84 (.pointer (some ⟨b8, 0, none⟩))), (.bool true)])) (fun b8 A5 c5 => [⟨b8, 87, [some (.slice (cutA A5 c5 0) (5 - 0) (c5 - 0)), some (.slice (cutA A5 c5 5) (n - 5) (c5 - 5)), some (.slice (cutA A5 c5 0) (3 - 0) (c5 - 0)), some (.int .u16 ((bN bs 3 2 : Nat) : Int))], true⟩]) (fun b8 A5 c5 => [Byt A5 n c5 bs])) := by
  have hnc00 : n ≤ c := (hst.fact (j := 0) rfl).2.1
  refine enter (vs := [(.string ⟨#[115, 110, 97, 112]⟩), (.slice A n c)]) Tryz.func6 rfl rfl rfl hst ?_
  refine HT.seq ?_
  refine HT.plain ?_
  refine sq (St.closed _ _ _ _) (q_assign rfl) rfl ?_
  refine sq (St.closed _ _ _ _) (q_assign rfl) rfl ?_
  refine send ?_
  refine eseq ?_
  refine HT.seq ?_
  refine HT.seq ?_
  refine HT.plain ?_
  refine sq (St.closed _ _ _ _) (q_move rfl) rfl ?_
  refine sq (St.closed _ _ _ _) (q_len (len := n) rfl Tryz.underlying22) rfl ?_
  refine sq (St.closed _ _ _ _) (q_F (q_gt (p := n) (q := 2000) rfl rfl) (by omega)) rfl ?_
  refine send ?_
  refine eseq ?_
  refine HT.no rfl ?_
  refine HT.skip ?_
  refine eseq ?_
  refine HT.seq ?_
  refine HT.plain ?_
  refine sq (St.closed _ _ _ _) (q_move rfl) rfl ?_
  refine sq (St.closed _ _ _ _) (q_assign rfl) rfl ?_
  refine send ?_
  refine eseq ?_
  refine HT.seq ?_
  refine HT.seq ?_
  refine HT.plain ?_
  refine sq (St.closed _ _ _ _) (q_move rfl) rfl ?_
  refine sq (St.closed _ _ _ _) (q_eqs rfl rfl (r := false) (by kernel_rfl)) rfl ?_
  refine sq (St.closed _ _ _ _) (q_move rfl) rfl ?_
  refine sgq (St.closed _ _ _ _) rfl (q_move rfl) rfl ?_
  refine sgq (St.closed _ _ _ _) rfl (q_eqs rfl rfl (r := false) (by kernel_rfl)) rfl ?_
  refine sq (St.closed _ _ _ _) (q_pick rfl (fun h => nomatch h) (fun _ => rfl)) rfl ?_
  refine send ?_
  refine eseq ?_
  refine HT.no rfl ?_
  refine HT.seq ?_
  refine HT.plain ?_
  refine sq (St.closed _ _ _ _) (q_move rfl) rfl ?_
  refine sq (St.closed _ _ _ _) (q_eqs rfl rfl (r := false) (by kernel_rfl)) rfl ?_
  refine send ?_
  refine eseq ?_
  refine HT.no rfl ?_
  refine HT.skip ?_
  refine eseq ?_
  refine HT.seq ?_
  refine HT.seq ?_
  refine HT.plain ?_
  refine sq (St.closed _ _ _ _) (q_move rfl) rfl ?_
  refine sq (St.closed _ _ _ _) (q_move rfl) rfl ?_
  refine sq (St.closed _ _ _ _) (q_call (vs := [(.string ⟨#[115, 110, 97, 112]⟩), (.slice A n c)]) (v := (.bool true)) rfl ca_8 (fun w h => ns4c w A n c bs (by omega) (by omega) (by omega) (St.enter (sp := []) (Kc := []) (bi := [0]) h rfl rfl rfl))) rfl ?_
  refine sq (St.closed _ _ _ _) (q_not rfl) rfl ?_
  refine send ?_
  refine eseq ?_
  refine HT.no rfl ?_
  refine HT.skip ?_
  refine eseq ?_
  refine HT.seq ?_
  refine HT.plain ?_
  refine sq (St.closed _ _ _ _) (q_move rfl) rfl ?_
  refine sq (St.closed _ _ _ _) (q_move rfl) rfl ?_
  refine sl_ (l_callX2 (vs := [(.slice A n c)]) (Kc := []) (Bc := [Byt A n c bs]) [] [0] [Byt A n c bs] (fun A5 c5 => []) (fun A5 c5 => [Byt A n c bs, Byt A5 n c5 bs]) (by decide) rfl ca_10 (fun _ h => h) rfl rfl rfl rfl (fun w h => Clone w A n c bs (by omega) h) (fun _ _ => rfl) (fun _ _ => rfl) (fun _ _ => rfl) (fun _ _ => rfl) fun A5 c5 hf1 he2 => ?_)
  have hnc3 : n ≤ c5 := by obtain ⟨w, h⟩ := he2; exact (h _ List.mem_cons_self).2.1
  refine sl_ (l_callX1 (vs := [(.string ⟨#[115, 110, 97, 112]⟩), (.slice A5 n c5)]) (Kc := []) (Bc := [Byt A5 n c5 bs]) [] [1] [Byt A n c bs, Byt A5 n c5 bs] (fun b8 => [⟨b8, 87, [some (.slice (cutA A5 c5 0) (5 - 0) (c5 - 0)), some (.slice (cutA A5 c5 5) (n - 5) (c5 - 5)), some (.slice (cutA A5 c5 0) (3 - 0) (c5 - 0)), some (.int .u16 ((bN bs 3 2 : Nat) : Int))], true⟩]) (fun b8 => [Byt A n c bs, Byt A5 n c5 bs]) (by decide) rfl ca_9 (fun _ h => h) rfl rfl rfl rfl (fun w h => ns4z w A5 n c5 bs (by omega) (by omega) (by omega) h) (fun _ => rfl) (fun _ => rfl) (fun _ => rfl) (fun _ => rfl) fun b8 hf4 he5 => ?_)
  refine sq (St.closed _ _ _ _) (q_move rfl) rfl ?_
  refine sq (St.closed _ _ _ _) (q_extract (vs := [(.iface 84 (.pointer (some ⟨b8, 0, none⟩))), .nilIface]) (i := 0) rfl rfl) rfl ?_
  refine sq (St.closed _ _ _ _) (q_extract (vs := [(.iface 84 (.pointer (some ⟨b8, 0, none⟩))), .nilIface]) (i := 1) rfl rfl) rfl ?_
  refine sq (St.closed _ _ _ _) (q_assign rfl) rfl ?_
  refine sq (St.closed _ _ _ _) (q_assign rfl) rfl ?_
  refine send ?_
  refine eseq ?_
  refine HT.seq ?_
  refine HT.seq ?_
  refine HT.plain ?_
  refine sq (St.closed _ _ _ _) (q_move rfl) rfl ?_
  refine sq (St.closed _ _ _ _) (q_notNil rfl rfl Tryz.underlying50) rfl ?_
  refine sq (St.closed _ _ _ _) (q_move rfl) rfl ?_
  refine sgq (St.closed _ _ _ _) rfl (q_move rfl) rfl ?_
  refine sgq (St.closed _ _ _ _) rfl (q_isNil' rfl rfl Tryz.underlying29) rfl ?_
  refine sq (St.closed _ _ _ _) (q_pick rfl (fun h => nomatch h) (fun _ => rfl)) rfl ?_
  refine send ?_
  refine eseq ?_
  refine HT.no rfl ?_
  refine HT.skip ?_
  refine eseq ?_
  refine HT.seq ?_
  refine HT.seq ?_
  refine HT.plain ?_
  refine sq (St.closed _ _ _ _) (q_move rfl) rfl ?_
  refine sq (St.closed _ _ _ _) (q_isnt (T := 84) (z := (.pointer none)) rfl Tryz.underlying53 (fun _ h => nomatch h) (by decide) zero_53) rfl ?_
  refine sq (St.closed _ _ _ _) (q_move rfl) rfl ?_
  refine sq (St.closed _ _ _ _) (q_extract (vs := [(.pointer none), (.bool false)]) (i := 0) rfl rfl) rfl ?_
  refine sq (St.closed _ _ _ _) (q_extract (vs := [(.pointer none), (.bool false)]) (i := 1) rfl rfl) rfl ?_
  refine sq (St.closed _ _ _ _) (q_assign rfl) rfl ?_
  refine sq (St.closed _ _ _ _) (q_assign rfl) rfl ?_
  refine send ?_
  refine eseq ?_
  refine HT.seq ?_
  refine HT.plain ?_
  refine sq (St.closed _ _ _ _) (q_move rfl) rfl ?_
  refine sq (St.closed _ _ _ _) (q_move rfl) rfl ?_
  refine sq (St.closed _ _ _ _) (q_eqs rfl rfl (r := false) (by kernel_rfl)) rfl ?_
  refine sq (St.closed _ _ _ _) (q_neb rfl rfl Tryz.underlying4) rfl ?_
  refine sq (St.closed _ _ _ _) (q_move rfl) rfl ?_
  refine sskip rfl rfl ?_
  refine sskip rfl rfl ?_
  refine sq (St.closed _ _ _ _) (q_pick rfl (fun h => nomatch h) (fun _ => rfl)) rfl ?_
  refine send ?_
  refine eseq ?_
  refine HT.no rfl ?_
  refine HT.skip ?_
  refine eseq ?_
  refine HT.seq ?_
  refine HT.plain ?_
  refine sq (St.closed _ _ _ _) (q_move rfl) rfl ?_
  refine sq (St.closed _ _ _ _) (q_assign rfl) rfl ?_
  refine sq (St.closed _ _ _ _) (q_assign rfl) rfl ?_
  refine send ?_
  refine eseq ?_
  refine HT.ret ?_
  exact fun a ha w' hw => fin_ ha (res2 ha Tryz.results6 rfl rfl) ⟨b8, A5, c5, rfl, hw, (fr1 (hf1 _ List.mem_cons_self) fr0)⟩

theorem ns4t (w : World) (bs : List UInt8) (hb : bN bs 3 2 = 2048) (hst : St w [] [] [] w) : Calls Tryz.prog 90 #[(.int .u16 ((bN bs 3 2 : Nat) : Int))] w (fun e w' => e = .returned (.int .i64 ((20 : Nat) : Int)) ∧ Pres [] w w') := by
  refine enter (vs := [(.int .u16 ((bN bs 3 2 : Nat) : Int))]) Tryz.func90 rfl rfl rfl hst ?_
  refine HT.seq ?_
  refine HT.plain ?_
  refine sq (St.closed _ _ _ _) (q_assign rfl) rfl ?_
  refine send ?_
  refine eseq ?_
  refine HT.seq ?_
  refine HT.seq ?_
  refine HT.plain ?_
  refine sq (St.closed _ _ _ _) (q_move rfl) rfl ?_
  refine send ?_
  refine eseq ?_
  refine HT.block ?_
  refine HT.seq ?_
  refine HT.plain ?_
  refine sq (St.closed _ _ _ _) (q_F (q_eq (p := bN bs 3 2) (q := 0) rfl rfl) (by have := bN_lt bs 3 2 65536 rfl; omega)) rfl ?_
  refine sq (St.closed _ _ _ _) (q_assign rfl) rfl ?_
  refine send ?_
  refine eseq ?_
  refine HT.no rfl ?_
  refine HT.seq ?_
  refine HT.plain ?_
  refine sq (St.closed _ _ _ _) (q_T (q_eq (p := bN bs 3 2) (q := 2048) rfl rfl) (by have := bN_lt bs 3 2 65536 rfl; omega)) rfl ?_
  refine sq (St.closed _ _ _ _) (q_assign rfl) rfl ?_
  refine send ?_
  refine eseq ?_
  refine HT.yes rfl ?_
  refine HT.seq ?_
  refine HT.plain ?_
  refine sq (St.closed _ _ _ _) (q_assign rfl) rfl ?_
  refine send ?_
  refine eseq ?_
  refine HT.ret ?_
  refine rt_in ?_
  refine rt_then ?_
  exact fun a ha w' hw => fin_ ha (res1 ha Tryz.results90 rfl) ⟨rfl, hw.pres⟩

theorem ns4T (w : World) (bs : List UInt8) (b8 : Nat) (hb : bN bs 3 2 = 2048) (hst : St w [] [⟨b8, 87, [none, none, none, some (.int .u16 ((bN bs 3 2 : Nat) : Int))], false⟩] [] w) : Calls Tryz.prog 89 #[(.pointer (some ⟨b8, 0, none⟩))] w (fun e w' => e = .returned (.int .i64 ((20 : Nat) : Int)) ∧ Pres [] w w') := by
  refine enter (vs := [(.pointer (some ⟨b8, 0, none⟩))]) Tryz.func89 rfl rfl rfl hst ?_
  refine HT.seq ?_
  refine HT.plain ?_
  refine sq (St.closed _ _ _ _) (q_assign rfl) rfl ?_
  refine send ?_
  refine eseq ?_
  refine HT.seq ?_
  refine HT.plain ?_
  refine sq (St.closed _ _ _ _) (q_move rfl) rfl ?_
  refine sq (St.closed _ _ _ _) (q_nil rfl) rfl ?_
  refine sq (St.closed _ _ _ _) (q_field (b := b8) (off := 0) rfl fo_87_2) rfl ?_
  refine sq (St.closed _ _ _ _) (q_load (b := b8) (off := 3) (j := 0) rfl nagg_85 (fun _ h => h) rfl rfl rfl) rfl ?_
  refine sq (St.closed _ _ _ _) (q_call (vs := [(.int .u16 ((bN bs 3 2 : Nat) : Int))]) (v := (.int .i64 ((20 : Nat) : Int))) rfl ca_90 (fun w h => ns4t w bs (by have := bN_lt bs 3 2 65536 rfl; omega) (St.enter (sp := []) (Kc := []) (bi := []) h rfl rfl rfl))) rfl ?_
  refine sq (St.closed _ _ _ _) (q_assign rfl) rfl ?_
  refine send ?_
  refine eseq ?_
  refine HT.ret ?_
  exact fun a ha w' hw => fin_ ha (res1 ha Tryz.results89 rfl) ⟨rfl, hw.pres⟩

theorem ns4N (w : World) (A : Option Addr) (n : Nat) (c : Nat) (bs : List UInt8) (hn : n ≤ 400) (ha : 5 ≤ n) (hb : bN bs 3 2 = 2048) (hst : St w [] [] [Byt A n c bs] w) : Calls Tryz.prog 5 #[(.string ⟨#[115, 110, 97, 112]⟩), (.slice A n c)] w (fun e w' => e = .returned (.tuple #[(.int .u64 ((20 : Nat) : Int)), (.bool true)]) ∧ Pres [] w w') := by
  have hnc00 : n ≤ c := (hst.fact (j := 0) rfl).2.1
  refine enter (vs := [(.string ⟨#[115, 110, 97, 112]⟩), (.slice A n c)]) Tryz.func5 rfl rfl rfl hst ?_
  refine HT.seq ?_
  refine HT.plain ?_
  refine sq (St.closed _ _ _ _) (q_assign rfl) rfl ?_
  refine sq (St.closed _ _ _ _) (q_assign rfl) rfl ?_
  refine send ?_
  refine eseq ?_
  refine HT.seq ?_
  refine HT.plain ?_
  refine sq (St.closed _ _ _ _) (q_move rfl) rfl ?_
  refine sq (St.closed _ _ _ _) (q_move rfl) rfl ?_
  refine sl_ (l_callX3 (vs := [(.string ⟨#[115, 110, 97, 112]⟩), (.slice A n c)]) (Kc := []) (Bc := [Byt A n c bs]) [] [0] [Byt A n c bs] (fun b8 A5 c5 => [⟨b8, 87, [some (.slice (cutA A5 c5 0) (5 - 0) (c5 - 0)), some (.slice (cutA A5 c5 5) (n - 5) (c5 - 5)), some (.slice (cutA A5 c5 0) (3 - 0) (c5 - 0)), some (.int .u16 ((bN bs 3 2 : Nat) : Int))], true⟩]) (fun b8 A5 c5 => [Byt A n c bs, Byt A5 n c5 bs]) (by decide) rfl ca_6 (fun _ h => h) rfl rfl rfl rfl (fun w h => ns4e w A n c bs (by omega) (by omega) (by omega) h) (fun _ _ _ => rfl) (fun _ _ _ => rfl) (fun _ _ _ => rfl) (fun _ _ _ => rfl) fun b8 A5 c5 hf1 he2 => ?_)
  have hnc3 : n ≤ c5 := by obtain ⟨w, h⟩ := he2; exact (h _ List.mem_cons_self).2.1
  refine sq (St.closed _ _ _ _) (q_move rfl) rfl ?_
  refine sq (St.closed _ _ _ _) (q_extract (vs := [(.iface 84 (.pointer (some ⟨b8, 0, none⟩))), (.bool true)]) (i := 0) rfl rfl) rfl ?_
  refine sq (St.closed _ _ _ _) (q_extract (vs := [(.iface 84 (.pointer (some ⟨b8, 0, none⟩))), (.bool true)]) (i := 1) rfl rfl) rfl ?_
  refine sq (St.closed _ _ _ _) (q_assign rfl) rfl ?_
  refine sq (St.closed _ _ _ _) (q_assign rfl) rfl ?_
  refine send ?_
  refine eseq ?_
  refine HT.seq ?_
  refine HT.seq ?_
  refine HT.plain ?_
  refine sq (St.closed _ _ _ _) (q_move rfl) rfl ?_
  refine sq (St.closed _ _ _ _) (q_not rfl) rfl ?_
  refine send ?_
  refine eseq ?_
  refine HT.no rfl ?_
  refine HT.skip ?_
  refine eseq ?_
  refine HT.seq ?_
  refine HT.seq ?_
  refine HT.plain ?_
  refine sq (St.closed _ _ _ _) (q_move rfl) rfl ?_
  refine send ?_
  refine eseq ?_
  refine HT.block ?_
  refine HT.seq ?_
  refine HT.plain ?_
  refine sq (St.closed _ _ _ _) (q_isnt (T := 84) (z := (.pointer none)) rfl Tryz.underlying32 (fun _ h => nomatch h) (by decide) zero_32) rfl ?_
  refine sq (St.closed _ _ _ _) (q_extract (vs := [(.pointer none), (.bool false)]) (i := 1) rfl rfl) rfl ?_
  refine sq (St.closed _ _ _ _) (q_extract (vs := [(.pointer none), (.bool false)]) (i := 0) rfl rfl) rfl ?_
  refine send ?_
  refine eseq ?_
  refine HT.no rfl ?_
  refine HT.seq ?_
  refine HT.plain ?_
  refine sq (St.closed _ _ _ _) (q_isnt (T := 84) (z := (.pointer none)) rfl Tryz.underlying38 (fun _ h => nomatch h) (by decide) zero_38) rfl ?_
  refine sq (St.closed _ _ _ _) (q_extract (vs := [(.pointer none), (.bool false)]) (i := 1) rfl rfl) rfl ?_
  refine sq (St.closed _ _ _ _) (q_extract (vs := [(.pointer none), (.bool false)]) (i := 0) rfl rfl) rfl ?_
  refine send ?_
  refine eseq ?_
  refine HT.no rfl ?_
  refine HT.seq ?_
  refine HT.plain ?_
  refine sq (St.closed _ _ _ _) (q_assertI (u := (.iface 84 (.pointer (some ⟨b8, 0, none⟩)))) (v := (.tuple #[(.iface 84 (.pointer (some ⟨b8, 0, none⟩))), (.bool true)])) rfl (fun w => by kernel_rfl)) rfl ?_
  refine sq (St.closed _ _ _ _) (q_extract (vs := [(.iface 84 (.pointer (some ⟨b8, 0, none⟩))), (.bool true)]) (i := 1) rfl rfl) rfl ?_
  refine sq (St.closed _ _ _ _) (q_extract (vs := [(.iface 84 (.pointer (some ⟨b8, 0, none⟩))), (.bool true)]) (i := 0) rfl rfl) rfl ?_
  refine send ?_
  refine eseq ?_
  refine HT.yes rfl ?_
  refine HT.seq ?_
  refine HT.plain ?_
  refine sq (St.closed _ _ _ _) (q_assign rfl) rfl ?_
  refine send ?_
  refine eseq ?_
  refine HT.seq ?_
  refine HT.plain ?_
  refine sq (St.closed _ _ _ _) (q_move rfl) rfl ?_
  refine sq (St.closed _ _ _ _) (q_invoke (vs := []) (v := (.int .i64 ((20 : Nat) : Int))) rfl (fun w => me_84_NextLayerType _ w) rfl ca_89 (fun w h => ns4T w bs b8 (by omega) ((h.ro (j := 0) rfl).wk [(0, [0, 1, 2])] rfl))) rfl ?_
  refine sq (St.closed _ _ _ _) (q_convn (p := 20) rfl Tryz.underlying39 Tryz.underlying24 (by decide)) rfl ?_
  refine sq (St.closed _ _ _ _) (q_assign rfl) rfl ?_
  refine sq (St.closed _ _ _ _) (q_assign rfl) rfl ?_
  refine send ?_
  refine eseq ?_
  refine HT.ret ?_
  refine rt_in ?_
  refine rt_then ?_
  exact fun a ha w' hw => fin_ ha (res2 ha Tryz.results5 rfl rfl) ⟨rfl, hw.pres⟩

theorem ns6c (w : World) (A : Option Addr) (n : Nat) (c : Nat) (bs : List UInt8) (hn : n ≤ 400) (ha : 5 ≤ n) (hb : bN bs 3 2 = 34525) (hst : St w [] [] [Byt A n c bs] w) : Calls Tryz.prog 8 #[(.string ⟨#[115, 110, 97, 112]⟩), (.slice A n c)] w (fun e w' => e = .returned (.bool true) ∧ Pres [] w w') := by
  have hnc00 : n ≤ c := (hst.fact (j := 0) rfl).2.1
  refine enter (vs := [(.string ⟨#[115, 110, 97, 112]⟩), (.slice A n c)]) Tryz.func8 rfl rfl rfl hst ?_
  refine HT.seq ?_
  refine HT.plain ?_
  refine sq (St.closed _ _ _ _) (q_assign rfl) rfl ?_
  refine send ?_
  refine eseq ?_
  refine HT.seq ?_
  refine HT.seq ?_
  refine HT.plain ?_
  refine sq (St.closed _ _ _ _) (q_move rfl) rfl ?_
  refine send ?_
  refine eseq ?_
  refine HT.block ?_
  refine HT.seq ?_
  refine HT.plain ?_
  refine sq (St.closed _ _ _ _) (q_eqs rfl rfl (r := false) (by kernel_rfl)) rfl ?_
  refine sq (St.closed _ _ _ _) (q_assign rfl) rfl ?_
  refine send ?_
  refine eseq ?_
  refine HT.no rfl ?_
  refine HT.seq ?_
  refine HT.plain ?_
  refine sq (St.closed _ _ _ _) (q_eqs rfl rfl (r := false) (by kernel_rfl)) rfl ?_
  refine sq (St.closed _ _ _ _) (q_assign rfl) rfl ?_
  refine send ?_
  refine eseq ?_
  refine HT.no rfl ?_
  refine HT.seq ?_
  refine HT.plain ?_
  refine sq (St.closed _ _ _ _) (q_eqs rfl rfl (r := false) (by kernel_rfl)) rfl ?_
  refine sq (St.closed _ _ _ _) (q_assign rfl) rfl ?_
  refine send ?_
  refine eseq ?_
  refine HT.no rfl ?_
  refine HT.seq ?_
  refine HT.plain ?_
  refine sq (St.closed _ _ _ _) (q_eqs rfl rfl (r := false) (by kernel_rfl)) rfl ?_
  refine sq (St.closed _ _ _ _) (q_assign rfl) rfl ?_
  refine send ?_
  refine eseq ?_
  refine HT.no rfl ?_
  refine HT.seq ?_
  refine HT.plain ?_
  refine sq (St.closed _ _ _ _) (q_eqs rfl rfl (r := false) (by kernel_rfl)) rfl ?_
  refine sq (St.closed _ _ _ _) (q_assign rfl) rfl ?_
  refine send ?_
  refine eseq ?_
  refine HT.no rfl ?_
  refine HT.seq ?_
  refine HT.seq ?_
  refine HT.plain ?_
  refine sq (St.closed _ _ _ _) (q_eqs rfl rfl (r := false) (by kernel_rfl)) rfl ?_
  refine sq (St.closed _ _ _ _) (q_assign rfl) rfl ?_
  refine send ?_
  refine eseq ?_
  refine HT.no rfl ?_
  refine HT.seq ?_
  refine HT.plain ?_
  refine sq (St.closed _ _ _ _) (q_eqs rfl rfl (r := false) (by kernel_rfl)) rfl ?_
  refine sq (St.closed _ _ _ _) (q_assign rfl) rfl ?_
  refine send ?_
  refine eseq ?_
  refine HT.no rfl ?_
  refine HT.plain ?_
  refine sq (St.closed _ _ _ _) (q_eqs rfl rfl (r := false) (by kernel_rfl)) rfl ?_
  refine sq (St.closed _ _ _ _) (q_assign rfl) rfl ?_
  refine send ?_
  refine eseq ?_
  refine HT.no rfl ?_
  refine HT.seq ?_
  refine HT.plain ?_
  refine sq (St.closed _ _ _ _) (q_eqs rfl rfl (r := false) (by kernel_rfl)) rfl ?_
  refine sq (St.closed _ _ _ _) (q_assign rfl) rfl ?_
  refine send ?_
  refine eseq ?_
  refine HT.no rfl ?_
  refine HT.seq ?_
  refine HT.plain ?_
  refine sq (St.closed _ _ _ _) (q_eqs rfl rfl (r := false) (by kernel_rfl)) rfl ?_
  refine sq (St.closed _ _ _ _) (q_assign rfl) rfl ?_
  refine send ?_
  refine eseq ?_
  refine HT.no rfl ?_
  refine HT.seq ?_
  refine HT.plain ?_
  refine sq (St.closed _ _ _ _) (q_eqs rfl rfl (r := false) (by kernel_rfl)) rfl ?_
  refine sq (St.closed _ _ _ _) (q_assign rfl) rfl ?_
  refine send ?_
  refine eseq ?_
  refine HT.no rfl ?_
  refine HT.seq ?_
  refine HT.plain ?_
  refine sq (St.closed _ _ _ _) (q_eqs rfl rfl (r := false) (by kernel_rfl)) rfl ?_
  refine sq (St.closed _ _ _ _) (q_assign rfl) rfl ?_
  refine send ?_
  refine eseq ?_
  refine HT.no rfl ?_
  refine HT.seq ?_
  refine HT.plain ?_
  refine sq (St.closed _ _ _ _) (q_eqs rfl rfl (r := false) (by kernel_rfl)) rfl ?_
  refine sq (St.closed _ _ _ _) (q_assign rfl) rfl ?_
  refine send ?_
  refine eseq ?_
  refine HT.no rfl ?_
  refine HT.seq ?_
  refine HT.plain ?_
  refine sq (St.closed _ _ _ _) (q_eqs rfl rfl (r := false) (by kernel_rfl)) rfl ?_
  refine sq (St.closed _ _ _ _) (q_assign rfl) rfl ?_
  refine send ?_
  refine eseq ?_
  refine HT.no rfl ?_
  refine HT.skip ?_
  refine ein ?_
  refine eseq ?_
  refine HT.seq ?_
  refine HT.plain ?_
  refine sq (St.closed _ _ _ _) (q_assign rfl) rfl ?_
  refine send ?_
  refine eseq ?_
  refine HT.ret ?_
  exact fun a ha w' hw => fin_ ha (res1 ha Tryz.results8 rfl) ⟨rfl, hw.pres⟩

theorem ns6m (w : World) (A : Option Addr) (n : Nat) (c : Nat) (bs : List UInt8) (rb : Nat) (kb : Nat) (hn : n ≤ 400) (ha : 5 ≤ n) (hb : bN bs 3 2 = 34525) (hst : St w [rb] [⟨rb, 87, [some (.slice none 0 0), some (.slice none 0 0), some (.slice none 0 0), some (.int .u16 ((0 : Nat) : Int))], true⟩] [Byt A n c bs] w) : Calls Tryz.prog 42 #[(.pointer (some ⟨rb, 0, none⟩)), (.slice A n c), (.iface 57 (.pointer (some ⟨kb, 0, none⟩)))] w (CP0 w [rb] [Byt A n c bs] (.nilIface) ([⟨rb, 87, [some (.slice (cutA A c 0) (5 - 0) (c - 0)), some (.slice (cutA A c 5) (n - 5) (c - 5)), some (.slice (cutA A c 0) (3 - 0) (c - 0)), some (.int .u16 ((bN bs 3 2 : Nat) : Int))], true⟩]) ([])) := by
  have hnc00 : n ≤ c := (hst.fact (j := 0) rfl).2.1
  refine enter (vs := [(.pointer (some ⟨rb, 0, none⟩)), (.slice A n c), (.iface 57 (.pointer (some ⟨kb, 0, none⟩)))]) Tryz.func42 rfl rfl rfl hst ?_
  refine HT.seq ?_
  refine HT.plain ?_
  refine sq (St.closed _ _ _ _) (q_assign rfl) rfl ?_
  refine send ?_
  refine eseq ?_
  refine HT.seq ?_
  refine HT.seq ?_
  refine HT.plain ?_
  refine sq (St.closed _ _ _ _) (q_move rfl) rfl ?_
  refine sq (St.closed _ _ _ _) (q_len (len := n) rfl Tryz.underlying22) rfl ?_
  refine sq (St.closed _ _ _ _) (q_F (q_lt (p := n) (q := 5) rfl rfl) (by omega)) rfl ?_
  refine send ?_
  refine eseq ?_
  refine HT.no rfl ?_
  refine HT.skip ?_
  refine eseq ?_
  refine HT.seq ?_
  refine HT.plain ?_
  refine sq (St.closed _ _ _ _) (q_move rfl) rfl ?_
  refine sq (St.closed _ _ _ _) (q_move rfl) rfl ?_
  refine sq (St.closed _ _ _ _) (q_slice (lo := 0) (hi := 3) rfl Tryz.underlying22 nagg_5 (.inl ⟨rfl, rfl⟩) (.inr ⟨_, _, rfl, rfl⟩) (by omega) (by omega)) rfl ?_
  refine sq (St.closed _ _ _ _) (q_nil rfl) rfl ?_
  refine sq (St.closed _ _ _ _) (q_field (b := rb) (off := 0) rfl fo_87_1) rfl ?_
  refine sl_ (l_store (b := rb) (off := 2) (j := 0) rfl rfl nagg_22 rfl rfl rfl rfl (dlt rfl) ?_)
  refine send ?_
  refine eseq ?_
  refine HT.seq ?_
  refine HT.drawn mixed (St.closed _ _ _ _) (St w [rb] [⟨rb, 87, [some (.slice none 0 0), some (.slice none 0 0), some (.slice (cutA A c 0) (3 - 0) (c - 0)), none], true⟩] [Byt A n c bs]) ?_
  refine dtake (f := 1) [0, 1, 2, 3, 4, 5, 6] (by kernel_rfl) (St.closed _ _ _ _) (fun _ h => (h.wk [(0, [3])] rfl)) (by kernel_rfl) ?_
  refine dq rfl (q_move rfl) ?_
  refine dq rfl (q_loadEmpty rfl aggs_71) ?_
  refine dq rfl (q_move rfl) ?_
  refine dq rfl (q_slice (lo := 3) (hi := 5) rfl Tryz.underlying22 nagg_5 (.inr ⟨_, _, rfl, rfl⟩) (.inr ⟨_, _, rfl, rfl⟩) (by omega) (by omega)) ?_
  refine dq rfl (q_call (vs := [(.agg #[]), (.slice (cutA A c 3) (5 - 3) (c - 3))]) (v := (.int .u16 ((bN bs 3 2 : Nat) : Int))) rfl ca_40 (fun w h => U16 w A n c bs (lo := 3) (hi := 5) (h.fact (j := 0) rfl) (by omega) (by omega))) ?_
  refine dq rfl (q_nil rfl) ?_
  refine dq rfl (q_field (b := rb) (off := 0) rfl fo_87_2) ?_
  refine QL.nil ?_
  refine RG.step1 7 (by kernel_rfl) ?_
  refine dop rfl (l_store (b := rb) (off := 3) (j := 0) rfl rfl nagg_85 rfl rfl rfl rfl (dlt rfl) ⟨(fun _ h => (h.wk [(0, [3])] rfl)), ?_⟩)
  refine dend (by kernel_rfl) ?_
  refine eseq ?_
  refine HT.seq ?_
  refine HT.drawn mixed (St.closed _ _ _ _) (St w [rb] [⟨rb, 87, [none, none, some (.slice (cutA A c 0) (3 - 0) (c - 0)), some (.int .u16 ((bN bs 3 2 : Nat) : Int))], true⟩] [Byt A n c bs]) ?_
  refine dtake (f := 1) [0, 1, 2, 3, 4, 5, 6, 7] (by kernel_rfl) (St.closed _ _ _ _) (fun _ h => (h.wk [(0, [0, 1])] rfl)) (by kernel_rfl) ?_
  refine dq rfl (q_move rfl) ?_
  refine dq rfl (q_move rfl) ?_
  refine dq rfl (q_slice (lo := 0) (hi := 5) rfl Tryz.underlying22 nagg_5 (.inl ⟨rfl, rfl⟩) (.inr ⟨_, _, rfl, rfl⟩) (by omega) (by omega)) ?_
  refine dq rfl (q_move rfl) ?_
  refine dq rfl (q_slice (lo := 5) (hi := n) rfl Tryz.underlying22 nagg_5 (.inr ⟨_, _, rfl, rfl⟩) (.inl ⟨rfl, rfl⟩) (by omega) (by omega)) ?_
  refine dq rfl (q_build (vs := [(0, (.slice (cutA A c 0) (5 - 0) (c - 0))), (1, (.slice (cutA A c 5) (n - 5) (c - 5)))]) (v := (.agg #[(.slice (cutA A c 0) (5 - 0) (c - 0)), (.slice (cutA A c 5) (n - 5) (c - 5))])) rfl (fun _ => by kernel_rfl)) ?_
  refine dq rfl (q_nil rfl) ?_
  refine dq rfl (q_field (b := rb) (off := 0) rfl fo_87_0) ?_
  refine QL.nil ?_
  refine RG.step1 8 (by kernel_rfl) ?_
  refine dop rfl (l_storeAgg (b := rb) (off := 0) (j := 0) (vs := [(.slice (cutA A c 0) (5 - 0) (c - 0)), (.slice (cutA A c 5) (n - 5) (c - 5))]) rfl rfl aggs_34 (by simp [Value.one1]) rfl rfl rfl (Nat.le_of_ble_eq_true rfl) ⟨(fun _ h => (h.wk [(0, [0, 1])] rfl)), ?_⟩)
  refine dend (by kernel_rfl) ?_
  refine eseq ?_
  refine HT.seq ?_
  refine HT.plain ?_
  refine sq (St.closed _ _ _ _) (q_assign rfl) rfl ?_
  refine send ?_
  refine eseq ?_
  refine HT.ret ?_
  exact fun a ha w' hw => fin_ ha (res1 ha Tryz.results42 rfl) ⟨rfl, hw, fr0⟩

theorem ns6d (w : World) (A : Option Addr) (n : Nat) (c : Nat) (bs : List UInt8) (kb : Nat) (hn : n ≤ 400) (ha : 5 ≤ n) (hb : bN bs 3 2 = 34525) (hst : St w [kb] [⟨kb, 59, [some .nilIface], true⟩] [Byt A n c bs] w) : Calls Tryz.prog 20 #[(.slice A n c), (.iface 57 (.pointer (some ⟨kb, 0, none⟩)))] w (CP1 w [kb] [Byt A n c bs] (fun b8 => .nilIface) (fun b8 => [⟨kb, 59, [some (.iface 84 (.pointer (some ⟨b8, 0, none⟩)))], true⟩, ⟨b8, 87, [some (.slice (cutA A c 0) (5 - 0) (c - 0)), some (.slice (cutA A c 5) (n - 5) (c - 5)), some (.slice (cutA A c 0) (3 - 0) (c - 0)), some (.int .u16 ((bN bs 3 2 : Nat) : Int))], true⟩]) (fun b8 => [])) := by
  have hnc00 : n ≤ c := (hst.fact (j := 0) rfl).2.1
  refine enter (vs := [(.slice A n c), (.iface 57 (.pointer (some ⟨kb, 0, none⟩)))]) Tryz.func20 rfl rfl rfl hst ?_
  refine HT.seq ?_
  refine HT.plain ?_
  refine sq (St.closed _ _ _ _) (q_assign rfl) rfl ?_
  refine send ?_
  refine eseq ?_
  refine HT.seq ?_
  refine HT.plain ?_
  refine sq (St.closed _ _ _ _) (q_build (vs := []) (v := (.agg #[(.slice none 0 0), (.slice none 0 0), (.slice none 0 0), (.int .u16 ((0 : Nat) : Int))])) rfl (fun _ => by kernel_rfl)) rfl ?_
  refine sl_ (l_box (by decide) rfl fun b8 => ?_)
  refine sq (St.closed _ _ _ _) (q_assign rfl) rfl ?_
  refine send ?_
  refine eseq ?_
  refine HT.seq ?_
  refine HT.plain ?_
  refine sq (St.closed _ _ _ _) (q_move rfl) rfl ?_
  refine sq (St.closed _ _ _ _) (q_move rfl) rfl ?_
  refine sq (St.closed _ _ _ _) (q_move rfl) rfl ?_
  refine sl_ (l_callX0 (vs := [(.pointer (some ⟨b8, 0, none⟩)), (.slice A n c), (.iface 57 (.pointer (some ⟨kb, 0, none⟩)))]) (Kc := [⟨b8, 87, [some (.slice none 0 0), some (.slice none 0 0), some (.slice none 0 0), some (.int .u16 ((0 : Nat) : Int))], true⟩]) (Bc := [Byt A n c bs]) [1] [0] [Byt A n c bs] ([⟨kb, 59, [some .nilIface], true⟩, ⟨b8, 87, [some (.slice (cutA A c 0) (5 - 0) (c - 0)), some (.slice (cutA A c 5) (n - 5) (c - 5)), some (.slice (cutA A c 0) (3 - 0) (c - 0)), some (.int .u16 ((bN bs 3 2 : Nat) : Int))], true⟩]) ([Byt A n c bs]) (by decide) rfl ca_42 (fun _ h => h) rfl rfl rfl rfl (fun w h => ns6m w A n c bs b8 kb (by omega) (by omega) (by omega) h) rfl rfl rfl rfl fun hf1 he2 => ?_)
  refine sq (St.closed _ _ _ _) (q_assign rfl) rfl ?_
  refine send ?_
  refine eseq ?_
  refine HT.seq ?_
  refine HT.seq ?_
  refine HT.plain ?_
  refine sq (St.closed _ _ _ _) (q_move rfl) rfl ?_
  refine sq (St.closed _ _ _ _) (q_notNil rfl rfl Tryz.underlying50) rfl ?_
  refine send ?_
  refine eseq ?_
  refine HT.no rfl ?_
  refine HT.skip ?_
  refine eseq ?_
  refine HT.seq ?_
  refine HT.plain ?_
  refine sq (St.closed _ _ _ _) (q_move rfl) rfl ?_
  refine sq (St.closed _ _ _ _) (q_move rfl) rfl ?_
  refine sq (St.closed _ _ _ _) (q_iface rfl Tryz.underlying84 (fun _ h => nomatch h)) rfl ?_
  refine sl_ (l_invX0 (vs := [(.iface 84 (.pointer (some ⟨b8, 0, none⟩)))]) (Kc := [⟨kb, 59, [some .nilIface], true⟩]) (Bc := []) [0] [] [Byt A n c bs] ([⟨b8, 87, [some (.slice (cutA A c 0) (5 - 0) (c - 0)), some (.slice (cutA A c 5) (n - 5) (c - 5)), some (.slice (cutA A c 0) (3 - 0) (c - 0)), some (.int .u16 ((bN bs 3 2 : Nat) : Int))], true⟩, ⟨kb, 59, [some (.iface 84 (.pointer (some ⟨b8, 0, none⟩)))], true⟩]) ([Byt A n c bs]) (by decide) rfl (fun w => me_57_AddLayer _ w) rfl ca_77 (fun _ h => h) rfl rfl rfl rfl (fun w h => addLayer w kb 84 b8  h) rfl rfl rfl rfl fun hf3 he4 => ?_)
  refine send ?_
  refine eseq ?_
  refine HT.seq ?_
  refine HT.plain ?_
  refine sq (St.closed _ _ _ _) (q_assign rfl) rfl ?_
  refine send ?_
  refine eseq ?_
  refine HT.ret ?_
  exact fun a ha w' hw => fin_ ha (res1 ha Tryz.results20 rfl) ⟨b8, rfl, (hw.wk [(1, []), (0, [])] rfl), fr0⟩

theorem ns6z (w : World) (A : Option Addr) (n : Nat) (c : Nat) (bs : List UInt8) (hn : n ≤ 400) (ha : 5 ≤ n) (hb : bN bs 3 2 = 34525) (hst : St w [] [] [Byt A n c bs] w) : Calls Tryz.prog 9 #[(.string ⟨#[115, 110, 97, 112]⟩), (.slice A n c)] w (CP1 w [] [Byt A n c bs] (fun b8 => (.tuple #[(.iface 84 (.pointer (some ⟨b8, 0, none⟩))), .nilIface])) (fun b8 => [⟨b8, 87, [some (.slice (cutA A c 0) (5 - 0) (c - 0)), some (.slice (cutA A c 5) (n - 5) (c - 5)), some (.slice (cutA A c 0) (3 - 0) (c - 0)), some (.int .u16 ((bN bs 3 2 : Nat) : Int))], true⟩]) (fun b8 => [])) := by
  have hnc00 : n ≤ c := (hst.fact (j := 0) rfl).2.1
  refine enter (vs := [(.string ⟨#[115, 110, 97, 112]⟩), (.slice A n c)]) Tryz.func9 rfl rfl rfl hst ?_
  refine HT.seq ?_
  refine HT.plain ?_
  refine sq (St.closed _ _ _ _) (q_assign rfl) rfl ?_
  refine sq (St.closed _ _ _ _) (q_assign rfl) rfl ?_
  refine send ?_
  refine eseq ?_
  refine HT.seq ?_
  refine HT.plain ?_
  refine sq (St.closed _ _ _ _) (q_build (vs := []) (v := (.agg #[.nilIface])) rfl (fun _ => by kernel_rfl)) rfl ?_
  refine sl_ (l_box (by decide) rfl fun b9 => ?_)
  refine sq (St.closed _ _ _ _) (q_assign rfl) rfl ?_
  refine send ?_
  refine eseq ?_
  refine HT.seq ?_
  refine HT.plain ?_
  refine sl_ (l_callX1 (vs := [(.string ⟨#[110, 111, 32, 107, 105, 110, 100]⟩)]) (Kc := []) (Bc := []) [] [] [Byt A n c bs] (fun b5 => [⟨b9, 59, [some .nilIface], true⟩, ⟨b5, 65, [some (.string (⟨#[110, 111, 32, 107, 105, 110, 100]⟩))], true⟩]) (fun b5 => [Byt A n c bs]) (by decide) rfl ca_16 (fun _ h => h) rfl rfl rfl rfl (fun w h => errNew w (⟨#[110, 111, 32, 107, 105, 110, 100]⟩)  h) (fun _ => rfl) (fun _ => rfl) (fun _ => rfl) (fun _ => rfl) fun b5 hf1 he2 => ?_)
  refine sq (St.closed _ _ _ _) (q_assign rfl) rfl ?_
  refine send ?_
  refine eseq ?_
  refine HT.seq ?_
  refine HT.seq ?_
  refine HT.plain ?_
  refine sq (St.closed _ _ _ _) (q_move rfl) rfl ?_
  refine send ?_
  refine eseq ?_
  refine HT.block ?_
  refine HT.seq ?_
  refine HT.plain ?_
  refine sq (St.closed _ _ _ _) (q_eqs rfl rfl (r := false) (by kernel_rfl)) rfl ?_
  refine sq (St.closed _ _ _ _) (q_assign rfl) rfl ?_
  refine send ?_
  refine eseq ?_
  refine HT.no rfl ?_
  refine HT.seq ?_
  refine HT.plain ?_
  refine sq (St.closed _ _ _ _) (q_eqs rfl rfl (r := false) (by kernel_rfl)) rfl ?_
  refine sq (St.closed _ _ _ _) (q_assign rfl) rfl ?_
  refine send ?_
  refine eseq ?_
  refine HT.no rfl ?_
  refine HT.seq ?_
  refine HT.plain ?_
  refine sq (St.closed _ _ _ _) (q_eqs rfl rfl (r := false) (by kernel_rfl)) rfl ?_
  refine sq (St.closed _ _ _ _) (q_assign rfl) rfl ?_
  refine send ?_
  refine eseq ?_
  refine HT.no rfl ?_
  refine HT.seq ?_
  refine HT.plain ?_
  refine sq (St.closed _ _ _ _) (q_eqs rfl rfl (r := true) (by kernel_rfl)) rfl ?_
  refine sq (St.closed _ _ _ _) (q_assign rfl) rfl ?_
  refine send ?_
  refine eseq ?_
  refine HT.yes rfl ?_
  refine HT.plain ?_
  refine sq (St.closed _ _ _ _) (q_move rfl) rfl ?_
  refine sq (St.closed _ _ _ _) (q_move rfl) rfl ?_
  refine sq (St.closed _ _ _ _) (q_iface rfl Tryz.underlying57 (fun _ h => nomatch h)) rfl ?_
  refine sl_ (l_callX1 (vs := [(.slice A n c), (.iface 57 (.pointer (some ⟨b9, 0, none⟩)))]) (Kc := [⟨b9, 59, [some .nilIface], true⟩]) (Bc := [Byt A n c bs]) [0] [0] [Byt A n c bs] (fun b8 => [⟨b5, 65, [some (.string (⟨#[110, 111, 32, 107, 105, 110, 100]⟩))], true⟩, ⟨b9, 59, [some (.iface 84 (.pointer (some ⟨b8, 0, none⟩)))], true⟩, ⟨b8, 87, [some (.slice (cutA A c 0) (5 - 0) (c - 0)), some (.slice (cutA A c 5) (n - 5) (c - 5)), some (.slice (cutA A c 0) (3 - 0) (c - 0)), some (.int .u16 ((bN bs 3 2 : Nat) : Int))], true⟩]) (fun b8 => [Byt A n c bs]) (by decide) rfl ca_20 (fun _ h => h) rfl rfl rfl rfl (fun w h => ns6d w A n c bs b9 (by omega) (by omega) (by omega) h) (fun _ => rfl) (fun _ => rfl) (fun _ => rfl) (fun _ => rfl) fun b8 hf3 he4 => ?_)
  refine sq (St.closed _ _ _ _) (q_assign rfl) rfl ?_
  refine send ?_
  refine ein ?_
  refine eseq ?_
  refine HT.seq ?_
  refine HT.seq ?_
  refine HT.plain ?_
  refine sq (St.closed _ _ _ _) (q_move rfl) rfl ?_
  refine sq (St.closed _ _ _ _) (q_notNil rfl rfl Tryz.underlying50) rfl ?_
  refine send ?_
  refine eseq ?_
  refine HT.no rfl ?_
  refine HT.skip ?_
  refine eseq ?_
  refine HT.seq ?_
  refine HT.plain ?_
  refine sq (St.closed _ _ _ _) (q_move rfl) rfl ?_
  refine sq (St.closed _ _ _ _) (q_nil rfl) rfl ?_
  refine sq (St.closed _ _ _ _) (q_field (b := b9) (off := 0) rfl fo_59_0) rfl ?_
  refine sq (St.closed _ _ _ _) (q_load (b := b9) (off := 0) (j := 1) rfl nagg_29 (fun _ h => h) rfl rfl rfl) rfl ?_
  refine sq (St.closed _ _ _ _) (q_assign rfl) rfl ?_
  refine sq (St.closed _ _ _ _) (q_assign rfl) rfl ?_
  refine send ?_
  refine eseq ?_
  refine HT.ret ?_
  exact fun a ha w' hw => fin_ ha (res2 ha Tryz.results9 rfl rfl) ⟨b8, rfl, (hw.wk [(2, [])] rfl), fr0⟩

theorem ns6e (w : World) (A : Option Addr) (n : Nat) (c : Nat) (bs : List UInt8) (hn : n ≤ 400) (ha : 5 ≤ n) (hb : bN bs 3 2 = 34525) (hst : St w [] [] [Byt A n c bs] w) : Calls Tryz.prog 6 #[(.string ⟨#[115, 110, 97, 112]⟩), (.slice A n c)] w (CP3 w [] [Byt A n c bs] (fun b8 A5 c5 => (.tuple #[(.iface 84 (.pointer (some ⟨b8, 0, none⟩))), (.bool true)])) (fun b8 A5 c5 => [⟨b8, 87, [some (.slice (cutA A5 c5 0) (5 - 0) (c5 - 0)), some (.slice (cutA A5 c5 5) (n - 5) (c5 - 5)), some (.slice (cutA A5 c5 0) (3 - 0) (c5 - 0)), some (.int .u16 ((bN bs 3 2 : Nat) : Int))], true⟩]) (fun b8 A5 c5 => [Byt A5 n c5 bs])) := by
  have hnc00 : n ≤ c := (hst.fact (j := 0) rfl).2.1
  refine enter (vs := [(.string ⟨#[115, 110, 97, 112]⟩), (.slice A n c)]) Tryz.func6 rfl rfl rfl hst ?_
  refine HT.seq ?_
  refine HT.plain ?_
  refine sq (St.closed _ _ _ _) (q_assign rfl) rfl ?_
  refine sq (St.closed _ _ _ _) (q_assign rfl) rfl ?_
  refine send ?_
  refine eseq ?_
  refine HT.seq ?_
  refine HT.seq ?_
  refine HT.plain ?_
  refine sq (St.closed _ _ _ _) (q_move rfl) rfl ?_
  refine sq (St.closed _ _ _ _) (q_len (len := n) rfl Tryz.underlying22) rfl ?_
  refine sq (St.closed _ _ _ _) (q_F (q_gt (p := n) (q := 2000) rfl rfl) (by omega)) rfl ?_
  refine send ?_
  refine eseq ?_
  refine HT.no rfl ?_
  refine HT.skip ?_
  refine eseq ?_
  refine HT.seq ?_
  refine HT.plain ?_
  refine sq (St.closed _ _ _ _) (q_move rfl) rfl ?_
  refine sq (St.closed _ _ _ _) (q_assign rfl) rfl ?_
  refine send ?_
  refine eseq ?_
  refine HT.seq ?_
  refine HT.seq ?_
  refine HT.plain ?_
  refine sq (St.closed _ _ _ _) (q_move rfl) rfl ?_
  refine sq (St.closed _ _ _ _) (q_eqs rfl rfl (r := false) (by kernel_rfl)) rfl ?_
  refine sq (St.closed _ _ _ _) (q_move rfl) rfl ?_
  refine sgq (St.closed _ _ _ _) rfl (q_move rfl) rfl ?_
  refine sgq (St.closed _ _ _ _) rfl (q_eqs rfl rfl (r := false) (by kernel_rfl)) rfl ?_
  refine sq (St.closed _ _ _ _) (q_pick rfl (fun h => nomatch h) (fun _ => rfl)) rfl ?_
  refine send ?_
  refine eseq ?_
  refine HT.no rfl ?_
  refine HT.seq ?_
  refine HT.plain ?_
  refine sq (St.closed _ _ _ _) (q_move rfl) rfl ?_
  refine sq (St.closed _ _ _ _) (q_eqs rfl rfl (r := false) (by kernel_rfl)) rfl ?_
  refine send ?_
  refine eseq ?_
  refine HT.no rfl ?_
  refine HT.skip ?_
  refine eseq ?_
  refine HT.seq ?_
  refine HT.seq ?_
  refine HT.plain ?_
  refine sq (St.closed _ _ _ _) (q_move rfl) rfl ?_
  refine sq (St.closed _ _ _ _) (q_move rfl) rfl ?_
  refine sq (St.closed _ _ _ _) (q_call (vs := [(.string ⟨#[115, 110, 97, 112]⟩), (.slice A n c)]) (v := (.bool true)) rfl ca_8 (fun w h => ns6c w A n c bs (by omega) (by omega) (by omega) (St.enter (sp := []) (Kc := []) (bi := [0]) h rfl rfl rfl))) rfl ?_
  refine sq (St.closed _ _ _ _) (q_not rfl) rfl ?_
  refine send ?_
  refine eseq ?_
  refine HT.no rfl ?_
  refine HT.skip ?_
  refine eseq ?_
  refine HT.seq ?_
  refine HT.plain ?_
  refine sq (St.closed _ _ _ _) (q_move rfl) rfl ?_
  refine sq (St.closed _ _ _ _) (q_move rfl) rfl ?_
  refine sl_ (l_callX2 (vs := [(.slice A n c)]) (Kc := []) (Bc := [Byt A n c bs]) [] [0] [Byt A n c bs] (fun A5 c5 => []) (fun A5 c5 => [Byt A n c bs, Byt A5 n c5 bs]) (by decide) rfl ca_10 (fun _ h => h) rfl rfl rfl rfl (fun w h => Clone w A n c bs (by omega) h) (fun _ _ => rfl) (fun _ _ => rfl) (fun _ _ => rfl) (fun _ _ => rfl) fun A5 c5 hf1 he2 => ?_)
  have hnc3 : n ≤ c5 := by obtain ⟨w, h⟩ := he2; exact (h _ List.mem_cons_self).2.1
  refine sl_ (l_callX1 (vs := [(.string ⟨#[115, 110, 97, 112]⟩), (.slice A5 n c5)]) (Kc := []) (Bc := [Byt A5 n c5 bs]) [] [1] [Byt A n c bs, Byt A5 n c5 bs] (fun b8 => [⟨b8, 87, [some (.slice (cutA A5 c5 0) (5 - 0) (c5 - 0)), some (.slice (cutA A5 c5 5) (n - 5) (c5 - 5)), some (.slice (cutA A5 c5 0) (3 - 0) (c5 - 0)), some (.int .u16 ((bN bs 3 2 : Nat) : Int))], true⟩]) (fun b8 => [Byt A n c bs, Byt A5 n c5 bs]) (by decide) rfl ca_9 (fun _ h => h) rfl rfl rfl rfl (fun w h => ns6z w A5 n c5 bs (by omega) (by omega) (by omega) h) (fun _ => rfl) (fun _ => rfl) (fun _ => rfl) (fun _ => rfl) fun b8 hf4 he5 => ?_)
  refine sq (St.closed _ _ _ _) (q_move rfl) rfl ?_
  refine sq (St.closed _ _ _ _) (q_extract (vs := [(.iface 84 (.pointer (some ⟨b8, 0, none⟩))), .nilIface]) (i := 0) rfl rfl) rfl ?_
  refine sq (St.closed _ _ _ _) (q_extract (vs := [(.iface 84 (.pointer (some ⟨b8, 0, none⟩))), .nilIface]) (i := 1) rfl rfl) rfl ?_
  refine sq (St.closed _ _ _ _) (q_assign rfl) rfl ?_
  refine sq (St.closed _ _ _ _) (q_assign rfl) rfl ?_
  refine send ?_
  refine eseq ?_
  refine HT.seq ?_
  refine HT.seq ?_
  refine HT.plain ?_
  refine sq (St.closed _ _ _ _) (q_move rfl) rfl ?_
  refine sq (St.closed _ _ _ _) (q_notNil rfl rfl Tryz.underlying50) rfl ?_
  refine sq (St.closed _ _ _ _) (q_move rfl) rfl ?_
  refine sgq (St.closed _ _ _ _) rfl (q_move rfl) rfl ?_
  refine sgq (St.closed _ _ _ _) rfl (q_isNil' rfl rfl Tryz.underlying29) rfl ?_
  refine sq (St.closed _ _ _ _) (q_pick rfl (fun h => nomatch h) (fun _ => rfl)) rfl ?_
  refine send ?_
  refine eseq ?_
  refine HT.no rfl ?_
  refine HT.skip ?_
  refine eseq ?_
  refine HT.seq ?_
  refine HT.seq ?_
  refine HT.plain ?_
  refine sq (St.closed _ _ _ _) (q_move rfl) rfl ?_
  refine sq (St.closed _ _ _ _) (q_isnt (T := 84) (z := (.pointer none)) rfl Tryz.underlying53 (fun _ h => nomatch h) (by decide) zero_53) rfl ?_
  refine sq (St.closed _ _ _ _) (q_move rfl) rfl ?_
  refine sq (St.closed _ _ _ _) (q_extract (vs := [(.pointer none), (.bool false)]) (i := 0) rfl rfl) rfl ?_
  refine sq (St.closed _ _ _ _) (q_extract (vs := [(.pointer none), (.bool false)]) (i := 1) rfl rfl) rfl ?_
  refine sq (St.closed _ _ _ _) (q_assign rfl) rfl ?_
  refine sq (St.closed _ _ _ _) (q_assign rfl) rfl ?_
  refine send ?_
  refine eseq ?_
  refine HT.seq ?_
  refine HT.plain ?_
  refine sq (St.closed _ _ _ _) (q_move rfl) rfl ?_
  refine sq (St.closed _ _ _ _) (q_move rfl) rfl ?_
  refine sq (St.closed _ _ _ _) (q_eqs rfl rfl (r := false) (by kernel_rfl)) rfl ?_
  refine sq (St.closed _ _ _ _) (q_neb rfl rfl Tryz.underlying4) rfl ?_
  refine sq (St.closed _ _ _ _) (q_move rfl) rfl ?_
  refine sskip rfl rfl ?_
  refine sskip rfl rfl ?_
  refine sq (St.closed _ _ _ _) (q_pick rfl (fun h => nomatch h) (fun _ => rfl)) rfl ?_
  refine send ?_
  refine eseq ?_
  refine HT.no rfl ?_
  refine HT.skip ?_
  refine eseq ?_
  refine HT.seq ?_
  refine HT.plain ?_
  refine sq (St.closed _ _ _ _) (q_move rfl) rfl ?_
  refine sq (St.closed _ _ _ _) (q_assign rfl) rfl ?_
  refine sq (St.closed _ _ _ _) (q_assign rfl) rfl ?_
  refine send ?_
  refine eseq ?_
  refine HT.ret ?_
  exact fun a ha w' hw => fin_ ha (res2 ha Tryz.results6 rfl rfl) ⟨b8, A5, c5, rfl, hw, (fr1 (hf1 _ List.mem_cons_self) fr0)⟩

theorem ns6t (w : World) (bs : List UInt8) (hb : bN bs 3 2 = 34525) (hst : St w [] [] [] w) : Calls Tryz.prog 90 #[(.int .u16 ((bN bs 3 2 : Nat) : Int))] w (fun e w' => e = .returned (.int .i64 ((21 : Nat) : Int)) ∧ Pres [] w w') := by
  refine enter (vs := [(.int .u16 ((bN bs 3 2 : Nat) : Int))]) Tryz.func90 rfl rfl rfl hst ?_
  refine HT.seq ?_
  refine HT.plain ?_
  refine sq (St.closed _ _ _ _) (q_assign rfl) rfl ?_
  refine send ?_
  refine eseq ?_
  refine HT.seq ?_
  refine HT.seq ?_
  refine HT.plain ?_
  refine sq (St.closed _ _ _ _) (q_move rfl) rfl ?_
  refine send ?_
  refine eseq ?_
  refine HT.block ?_
  refine HT.seq ?_
  refine HT.plain ?_
  refine sq (St.closed _ _ _ _) (q_F (q_eq (p := bN bs 3 2) (q := 0) rfl rfl) (by have := bN_lt bs 3 2 65536 rfl; omega)) rfl ?_
  refine sq (St.closed _ _ _ _) (q_assign rfl) rfl ?_
  refine send ?_
  refine eseq ?_
  refine HT.no rfl ?_
  refine HT.seq ?_
  refine HT.plain ?_
  refine sq (St.closed _ _ _ _) (q_F (q_eq (p := bN bs 3 2) (q := 2048) rfl rfl) (by have := bN_lt bs 3 2 65536 rfl; omega)) rfl ?_
  refine sq (St.closed _ _ _ _) (q_assign rfl) rfl ?_
  refine send ?_
  refine eseq ?_
  refine HT.no rfl ?_
  refine HT.seq ?_
  refine HT.plain ?_
  refine sq (St.closed _ _ _ _) (q_T (q_eq (p := bN bs 3 2) (q := 34525) rfl rfl) (by have := bN_lt bs 3 2 65536 rfl; omega)) rfl ?_
  refine sq (St.closed _ _ _ _) (q_assign rfl) rfl ?_
  refine send ?_
  refine eseq ?_
  refine HT.yes rfl ?_
  refine HT.seq ?_
  refine HT.plain ?_
  refine sq (St.closed _ _ _ _) (q_assign rfl) rfl ?_
  refine send ?_
  refine eseq ?_
  refine HT.ret ?_
  refine rt_in ?_
  refine rt_then ?_
  exact fun a ha w' hw => fin_ ha (res1 ha Tryz.results90 rfl) ⟨rfl, hw.pres⟩

theorem ns6T (w : World) (bs : List UInt8) (b8 : Nat) (hb : bN bs 3 2 = 34525) (hst : St w [] [⟨b8, 87, [none, none, none, some (.int .u16 ((bN bs 3 2 : Nat) : Int))], false⟩] [] w) : Calls Tryz.prog 89 #[(.pointer (some ⟨b8, 0, none⟩))] w (fun e w' => e = .returned (.int .i64 ((21 : Nat) : Int)) ∧ Pres [] w w') := by
  refine enter (vs := [(.pointer (some ⟨b8, 0, none⟩))]) Tryz.func89 rfl rfl rfl hst ?_
  refine HT.seq ?_
  refine HT.plain ?_
  refine sq (St.closed _ _ _ _) (q_assign rfl) rfl ?_
  refine send ?_
  refine eseq ?_
  refine HT.seq ?_
  refine HT.plain ?_
  refine sq (St.closed _ _ _ _) (q_move rfl) rfl ?_
  refine sq (St.closed _ _ _ _) (q_nil rfl) rfl ?_
  refine sq (St.closed _ _ _ _) (q_field (b := b8) (off := 0) rfl fo_87_2) rfl ?_
  refine sq (St.closed _ _ _ _) (q_load (b := b8) (off := 3) (j := 0) rfl nagg_85 (fun _ h => h) rfl rfl rfl) rfl ?_
  refine sq (St.closed _ _ _ _) (q_call (vs := [(.int .u16 ((bN bs 3 2 : Nat) : Int))]) (v := (.int .i64 ((21 : Nat) : Int))) rfl ca_90 (fun w h => ns6t w bs (by have := bN_lt bs 3 2 65536 rfl; omega) (St.enter (sp := []) (Kc := []) (bi := []) h rfl rfl rfl))) rfl ?_
  refine sq (St.closed _ _ _ _) (q_assign rfl) rfl ?_
  refine send ?_
  refine eseq ?_
  refine HT.ret ?_
  exact fun a ha w' hw => fin_ ha (res1 ha Tryz.results89 rfl) ⟨rfl, hw.pres⟩

theorem ns6N (w : World) (A : Option Addr) (n : Nat) (c : Nat) (bs : List UInt8) (hn : n ≤ 400) (ha : 5 ≤ n) (hb : bN bs 3 2 = 34525) (hst : St w [] [] [Byt A n c bs] w) : Calls Tryz.prog 5 #[(.string ⟨#[115, 110, 97, 112]⟩), (.slice A n c)] w (fun e w' => e = .returned (.tuple #[(.int .u64 ((21 : Nat) : Int)), (.bool true)]) ∧ Pres [] w w') := by
  have hnc00 : n ≤ c := (hst.fact (j := 0) rfl).2.1
  refine enter (vs := [(.string ⟨#[115, 110, 97, 112]⟩), (.slice A n c)]) Tryz.func5 rfl rfl rfl hst ?_
  refine HT.seq ?_
  refine HT.plain ?_
  refine sq (St.closed _ _ _ _) (q_assign rfl) rfl ?_
  refine sq (St.closed _ _ _ _) (q_assign rfl) rfl ?_
  refine send ?_
  refine eseq ?_
  refine HT.seq ?_
  refine HT.plain ?_
  refine sq (St.closed _ _ _ _) (q_move rfl) rfl ?_
  refine sq (St.closed _ _ _ _) (q_move rfl) rfl ?_
  refine sl_ (l_callX3 (vs := [(.string ⟨#[115, 110, 97, 112]⟩), (.slice A n c)]) (Kc := []) (Bc := [Byt A n c bs]) [] [0] [Byt A n c bs] (fun b8 A5 c5 => [⟨b8, 87, [some (.slice (cutA A5 c5 0) (5 - 0) (c5 - 0)), some (.slice (cutA A5 c5 5) (n - 5) (c5 - 5)), some (.slice (cutA A5 c5 0) (3 - 0) (c5 - 0)), some (.int .u16 ((bN bs 3 2 : Nat) : Int))], true⟩]) (fun b8 A5 c5 => [Byt A n c bs, Byt A5 n c5 bs]) (by decide) rfl ca_6 (fun _ h => h) rfl rfl rfl rfl (fun w h => ns6e w A n c bs (by omega) (by omega) (by omega) h) (fun _ _ _ => rfl) (fun _ _ _ => rfl) (fun _ _ _ => rfl) (fun _ _ _ => rfl) fun b8 A5 c5 hf1 he2 => ?_)
  have hnc3 : n ≤ c5 := by obtain ⟨w, h⟩ := he2; exact (h _ List.mem_cons_self).2.1
  refine sq (St.closed _ _ _ _) (q_move rfl) rfl ?_
  refine sq (St.closed _ _ _ _) (q_extract (vs := [(.iface 84 (.pointer (some ⟨b8, 0, none⟩))), (.bool true)]) (i := 0) rfl rfl) rfl ?_
  refine sq (St.closed _ _ _ _) (q_extract (vs := [(.iface 84 (.pointer (some ⟨b8, 0, none⟩))), (.bool true)]) (i := 1) rfl rfl) rfl ?_
  refine sq (St.closed _ _ _ _) (q_assign rfl) rfl ?_
  refine sq (St.closed _ _ _ _) (q_assign rfl) rfl ?_
  refine send ?_
  refine eseq ?_
  refine HT.seq ?_
  refine HT.seq ?_
  refine HT.plain ?_
  refine sq (St.closed _ _ _ _) (q_move rfl) rfl ?_
  refine sq (St.closed _ _ _ _) (q_not rfl) rfl ?_
  refine send ?_
  refine eseq ?_
  refine HT.no rfl ?_
  refine HT.skip ?_
  refine eseq ?_
  refine HT.seq ?_
  refine HT.seq ?_
  refine HT.plain ?_
  refine sq (St.closed _ _ _ _) (q_move rfl) rfl ?_
  refine send ?_
  refine eseq ?_
  refine HT.block ?_
  refine HT.seq ?_
  refine HT.plain ?_
  refine sq (St.closed _ _ _ _) (q_isnt (T := 84) (z := (.pointer none)) rfl Tryz.underlying32 (fun _ h => nomatch h) (by decide) zero_32) rfl ?_
  refine sq (St.closed _ _ _ _) (q_extract (vs := [(.pointer none), (.bool false)]) (i := 1) rfl rfl) rfl ?_
  refine sq (St.closed _ _ _ _) (q_extract (vs := [(.pointer none), (.bool false)]) (i := 0) rfl rfl) rfl ?_
  refine send ?_
  refine eseq ?_
  refine HT.no rfl ?_
  refine HT.seq ?_
  refine HT.plain ?_
  refine sq (St.closed _ _ _ _) (q_isnt (T := 84) (z := (.pointer none)) rfl Tryz.underlying38 (fun _ h => nomatch h) (by decide) zero_38) rfl ?_
  refine sq (St.closed _ _ _ _) (q_extract (vs := [(.pointer none), (.bool false)]) (i := 1) rfl rfl) rfl ?_
  refine sq (St.closed _ _ _ _) (q_extract (vs := [(.pointer none), (.bool false)]) (i := 0) rfl rfl) rfl ?_
  refine send ?_
  refine eseq ?_
  refine HT.no rfl ?_
  refine HT.seq ?_
  refine HT.plain ?_
  refine sq (St.closed _ _ _ _) (q_assertI (u := (.iface 84 (.pointer (some ⟨b8, 0, none⟩)))) (v := (.tuple #[(.iface 84 (.pointer (some ⟨b8, 0, none⟩))), (.bool true)])) rfl (fun w => by kernel_rfl)) rfl ?_
  refine sq (St.closed _ _ _ _) (q_extract (vs := [(.iface 84 (.pointer (some ⟨b8, 0, none⟩))), (.bool true)]) (i := 1) rfl rfl) rfl ?_
  refine sq (St.closed _ _ _ _) (q_extract (vs := [(.iface 84 (.pointer (some ⟨b8, 0, none⟩))), (.bool true)]) (i := 0) rfl rfl) rfl ?_
  refine send ?_
  refine eseq ?_
  refine HT.yes rfl ?_
  refine HT.seq ?_
  refine HT.plain ?_
  refine sq (St.closed _ _ _ _) (q_assign rfl) rfl ?_
  refine send ?_
  refine eseq ?_
  refine HT.seq ?_
  refine HT.plain ?_
  refine sq (St.closed _ _ _ _) (q_move rfl) rfl ?_
  refine sq (St.closed _ _ _ _) (q_invoke (vs := []) (v := (.int .i64 ((21 : Nat) : Int))) rfl (fun w => me_84_NextLayerType _ w) rfl ca_89 (fun w h => ns6T w bs b8 (by omega) ((h.ro (j := 0) rfl).wk [(0, [0, 1, 2])] rfl))) rfl ?_
  refine sq (St.closed _ _ _ _) (q_convn (p := 21) rfl Tryz.underlying39 Tryz.underlying24 (by decide)) rfl ?_
  refine sq (St.closed _ _ _ _) (q_assign rfl) rfl ?_
  refine sq (St.closed _ _ _ _) (q_assign rfl) rfl ?_
  refine send ?_
  refine eseq ?_
  refine HT.ret ?_
  refine rt_in ?_
  refine rt_then ?_
  exact fun a ha w' hw => fin_ ha (res2 ha Tryz.results5 rfl rfl) ⟨rfl, hw.pres⟩
end Go.Proofs.YtmdomhbakpkgiaaGreat.Zed
