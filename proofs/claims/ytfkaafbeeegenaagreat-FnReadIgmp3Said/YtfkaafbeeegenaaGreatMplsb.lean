/- mpls: the package, case 1 -/
import Derived.Test.YtfkaafbeeegenaaGreatMpls0
import Derived.KernelRfl
namespace Go.Proofs.YtfkaafbeeegenaaGreat.Zed
set_option linter.unusedVariables false
set_option linter.unusedSimpArgs false
set_option maxRecDepth 100000
set_option maxHeartbeats 4000000


theorem mpls_c1 (w : World) (A : Option Addr) (n : Nat) (c : Nat) (bs : List UInt8) (hn : n ≤ 400) (ha : 4 ≤ n) (hst : St w [] [] [Byt A n c bs] w) : Calls Tryz.prog 57 #[(.string ⟨#[109, 112, 108, 115]⟩), (.slice A n c)] w (fun e w' => e = .returned (.bool true) ∧ Pres [] w w') := by
  have hnc00 : n ≤ c := (hst.fact (j := 0) rfl).2.1
  refine enter (vs := [(.string ⟨#[109, 112, 108, 115]⟩), (.slice A n c)]) Tryz.func57 rfl rfl rfl hst ?_
  refine HT.seq ?_
  refine HT.plain ?_
  refine sq (St.closed _ _ _ _) (q_assign rfl) rfl ?_
  refine send ?_
  refine eseq ?_
  refine HT.seq ?_
  refine HT.seq ?_
  refine HT.plain ?_
  refine sq (St.closed _ _ _ _) (q_move rfl) rfl ?_
  refine send ?_
  refine eseq ?_
  refine HT.block ?_
  refine HT.seq ?_
  refine HT.plain ?_
  refine sq (St.closed _ _ _ _) (q_eqs rfl rfl (r := false) (by kernel_rfl)) rfl ?_
  refine sq (St.closed _ _ _ _) (q_assign rfl) rfl ?_
  refine send ?_
  refine eseq ?_
  refine HT.no rfl ?_
  refine HT.seq ?_
  refine HT.plain ?_
  refine sq (St.closed _ _ _ _) (q_eqs rfl rfl (r := false) (by kernel_rfl)) rfl ?_
  refine sq (St.closed _ _ _ _) (q_assign rfl) rfl ?_
  refine send ?_
  refine eseq ?_
  refine HT.no rfl ?_
  refine HT.seq ?_
  refine HT.plain ?_
  refine sq (St.closed _ _ _ _) (q_eqs rfl rfl (r := false) (by kernel_rfl)) rfl ?_
  refine sq (St.closed _ _ _ _) (q_assign rfl) rfl ?_
  refine send ?_
  refine eseq ?_
  refine HT.no rfl ?_
  refine HT.seq ?_
  refine HT.plain ?_
  refine sq (St.closed _ _ _ _) (q_eqs rfl rfl (r := true) (by kernel_rfl)) rfl ?_
  refine sq (St.closed _ _ _ _) (q_assign rfl) rfl ?_
  refine send ?_
  refine eseq ?_
  refine HT.yes rfl ?_
  refine HT.seq ?_
  refine HT.plain ?_
  refine sq (St.closed _ _ _ _) (q_move rfl) rfl ?_
  refine sq (St.closed _ _ _ _) (q_len (len := n) rfl Tryz.underlying22) rfl ?_
  refine sq (St.closed _ _ _ _) (q_T (q_ge (p := n) (q := 4) rfl rfl) (by omega)) rfl ?_
  refine sq (St.closed _ _ _ _) (q_assign rfl) rfl ?_
  refine send ?_
  refine eseq ?_
  refine HT.ret ?_
  refine rt_in ?_
  refine rt_then ?_
  exact fun a ha w' hw => fin_ ha (res1 ha Tryz.results57 rfl) ⟨rfl, hw.pres⟩

theorem mpls_d1 (w : World) (A : Option Addr) (n : Nat) (c : Nat) (bs : List UInt8) (kb : Nat) (hn : n ≤ 400) (ha : 4 ≤ n) (hst : St w [kb] [⟨kb, 201, [some .nilIface], true⟩] [Byt A n c bs] w) : Calls Tryz.prog 78 #[(.slice A n c), (.iface 199 (.pointer (some ⟨kb, 0, none⟩)))] w (CP1 w [kb] [Byt A n c bs] (fun b28 => .nilIface) (fun b28 => [⟨kb, 201, [some (.iface 110 (.pointer (some ⟨b28, 0, none⟩)))], true⟩, ⟨b28, 113, [some (.slice (cutA A c 0) (4 - 0) (c - 0)), some (.slice (cutA A c 4) (n - 4) (c - 4)), some (.int .u32 (((bN bs 0 4) / 4096 : Nat) : Int)), some (.int .u8 (((((bN bs 0 4) / 512) % 256) &&& 7 : Nat) : Int)), some (.bool (decide ((bN bs 0 4) &&& 256 ≠ 0))), some (.int .u8 (((bN bs 0 4) % 256 : Nat) : Int))], true⟩]) (fun b28 => [])) := by
  have hnc00 : n ≤ c := (hst.fact (j := 0) rfl).2.1
  refine enter (vs := [(.slice A n c), (.iface 199 (.pointer (some ⟨kb, 0, none⟩)))]) Tryz.func78 rfl rfl rfl hst ?_
  refine HT.seq ?_
  refine HT.plain ?_
  refine sq (St.closed _ _ _ _) (q_assign rfl) rfl ?_
  refine send ?_
  refine eseq ?_
  refine HT.seq ?_
  refine HT.drawnS mixed (St.closed _ _ _ _) ?_
  refine dtake (f := 0) [0, 1, 2, 3, 4] (by kernel_rfl) (St.closed _ _ _ _) (fun _ h => h) (by kernel_rfl) ?_
  refine dq rfl (q_loadEmpty rfl aggs_210) ?_
  refine dq rfl (q_move rfl) ?_
  refine dq rfl (q_slice (lo := 0) (hi := 4) rfl Tryz.underlying22 nagg_5 (.inl ⟨rfl, rfl⟩) (.inr ⟨_, _, rfl, rfl⟩) (by omega) (by omega)) ?_
  refine dq rfl (q_call (vs := [(.agg #[]), (.slice (cutA A c 0) (4 - 0) (c - 0))]) (v := (.int .u32 ((bN bs 0 4 : Nat) : Int))) rfl ca_97 (fun w h => U32 w A n c bs (lo := 0) (hi := 4) (h.fact (j := 0) rfl) (by omega) (by omega))) ?_
  refine dq rfl (q_assign rfl) ?_
  refine QL.nil ?_
  refine dend (by kernel_rfl) ?_
  refine eseq ?_
  refine HT.seq ?_
  refine HT.drawnS mixed (St.closed _ _ _ _) ?_
  refine dtake (f := 2) [0, 1, 2, 3, 4, 5, 6, 7, 8, 9, 10, 11, 12, 13, 14, 15, 16] (by kernel_rfl) (St.closed _ _ _ _) (fun _ h => h) (by kernel_rfl) ?_
  refine dq rfl (q_move rfl) ?_
  refine dq rfl (q_shr (p := bN bs 0 4) (e := 12) (N := 4096) rfl rfl (by decide) rfl) ?_
  refine dq rfl (q_move rfl) ?_
  refine dq rfl (q_shr (p := bN bs 0 4) (e := 9) (N := 512) rfl rfl (by decide) rfl) ?_
  refine dq rfl (q_convw (p := (bN bs 0 4) / 512) rfl Tryz.underlying111 Tryz.underlying5 rfl) ?_
  refine dq rfl (q_and (p := ((bN bs 0 4) / 512) % 256) (q := 7) rfl rfl rfl (show ((bN bs 0 4) / 512) % 256 < 256 by have := bN_lt bs 0 4 4294967296 rfl; omega) (by decide)) ?_
  refine dq rfl (q_move rfl) ?_
  refine dq rfl (q_and (p := bN bs 0 4) (q := 256) rfl rfl rfl (show bN bs 0 4 < 4294967296 by have := bN_lt bs 0 4 4294967296 rfl; omega) (by decide)) ?_
  refine dq rfl (q_ne (p := (bN bs 0 4) &&& 256) (q := 0) rfl rfl) ?_
  refine dq rfl (q_move rfl) ?_
  refine dq rfl (q_convw (p := bN bs 0 4) rfl Tryz.underlying111 Tryz.underlying5 rfl) ?_
  refine dq rfl (q_move rfl) ?_
  refine dq rfl (q_slice (lo := 0) (hi := 4) rfl Tryz.underlying22 nagg_5 (.inl ⟨rfl, rfl⟩) (.inr ⟨_, _, rfl, rfl⟩) (by omega) (by omega)) ?_
  refine dq rfl (q_move rfl) ?_
  refine dq rfl (q_slice (lo := 4) (hi := n) rfl Tryz.underlying22 nagg_5 (.inr ⟨_, _, rfl, rfl⟩) (.inl ⟨rfl, rfl⟩) (by omega) (by omega)) ?_
  refine dq rfl (q_build (vs := [(0, (.slice (cutA A c 0) (4 - 0) (c - 0))), (1, (.slice (cutA A c 4) (n - 4) (c - 4)))]) (v := (.agg #[(.slice (cutA A c 0) (4 - 0) (c - 0)), (.slice (cutA A c 4) (n - 4) (c - 4))])) rfl (fun _ => by kernel_rfl)) ?_
  refine dq rfl (q_build (vs := [(1, (.int .u32 (((bN bs 0 4) / 4096 : Nat) : Int))), (2, (.int .u8 (((((bN bs 0 4) / 512) % 256) &&& 7 : Nat) : Int))), (3, (.bool (decide ((bN bs 0 4) &&& 256 ≠ 0)))), (4, (.int .u8 (((bN bs 0 4) % 256 : Nat) : Int))), (0, (.agg #[(.slice (cutA A c 0) (4 - 0) (c - 0)), (.slice (cutA A c 4) (n - 4) (c - 4))]))]) (v := (.agg #[(.slice (cutA A c 0) (4 - 0) (c - 0)), (.slice (cutA A c 4) (n - 4) (c - 4)), (.int .u32 (((bN bs 0 4) / 4096 : Nat) : Int)), (.int .u8 (((((bN bs 0 4) / 512) % 256) &&& 7 : Nat) : Int)), (.bool (decide ((bN bs 0 4) &&& 256 ≠ 0))), (.int .u8 (((bN bs 0 4) % 256 : Nat) : Int))])) rfl (fun _ => by kernel_rfl)) ?_
  refine QL.nil ?_
  refine RG.step1 17 (by kernel_rfl) ?_
  refine dop rfl (l_box (by decide) rfl fun b28 => ⟨(fun _ h => (h.wk [(0, [])] rfl)), ?_⟩)
  refine dtake (f := 0) [18] (by kernel_rfl) (St.closed _ _ _ _) (fun _ h => (h.wk [(0, [])] rfl)) (by kernel_rfl) ?_
  refine dq rfl (q_assign rfl) ?_
  refine QL.nil ?_
  refine dend (by kernel_rfl) ?_
  refine eseq ?_
  refine HT.seq ?_
  refine HT.plain ?_
  refine sq (St.closed _ _ _ _) (q_move rfl) rfl ?_
  refine sq (St.closed _ _ _ _) (q_move rfl) rfl ?_
  refine sq (St.closed _ _ _ _) (q_iface rfl Tryz.underlying110 (fun _ h => nomatch h)) rfl ?_
  refine sl_ (l_invX0 (vs := [(.iface 110 (.pointer (some ⟨b28, 0, none⟩)))]) (Kc := [⟨kb, 201, [some .nilIface], true⟩]) (Bc := []) [0] [] [Byt A n c bs] ([⟨b28, 113, [some (.slice (cutA A c 0) (4 - 0) (c - 0)), some (.slice (cutA A c 4) (n - 4) (c - 4)), some (.int .u32 (((bN bs 0 4) / 4096 : Nat) : Int)), some (.int .u8 (((((bN bs 0 4) / 512) % 256) &&& 7 : Nat) : Int)), some (.bool (decide ((bN bs 0 4) &&& 256 ≠ 0))), some (.int .u8 (((bN bs 0 4) % 256 : Nat) : Int))], true⟩, ⟨kb, 201, [some (.iface 110 (.pointer (some ⟨b28, 0, none⟩)))], true⟩]) ([Byt A n c bs]) (by decide) rfl (fun w => me_199_AddLayer _ w) rfl ca_166 (fun _ h => h) rfl rfl rfl rfl (fun w h => addLayer w kb 110 b28  h) rfl rfl rfl rfl fun hf1 he2 => ?_)
  refine send ?_
  refine eseq ?_
  refine HT.seq ?_
  refine HT.plain ?_
  refine sq (St.closed _ _ _ _) (q_assign rfl) rfl ?_
  refine send ?_
  refine eseq ?_
  refine HT.ret ?_
  exact fun a ha w' hw => fin_ ha (res1 ha Tryz.results78 rfl) ⟨b28, rfl, (hw.wk [(1, []), (0, [])] rfl), fr0⟩

theorem mpls_z1 (w : World) (A : Option Addr) (n : Nat) (c : Nat) (bs : List UInt8) (hn : n ≤ 400) (ha : 4 ≤ n) (hst : St w [] [] [Byt A n c bs] w) : Calls Tryz.prog 58 #[(.string ⟨#[109, 112, 108, 115]⟩), (.slice A n c)] w (CP1 w [] [Byt A n c bs] (fun b28 => (.tuple #[(.iface 110 (.pointer (some ⟨b28, 0, none⟩))), .nilIface])) (fun b28 => [⟨b28, 113, [some (.slice (cutA A c 0) (4 - 0) (c - 0)), some (.slice (cutA A c 4) (n - 4) (c - 4)), some (.int .u32 (((bN bs 0 4) / 4096 : Nat) : Int)), some (.int .u8 (((((bN bs 0 4) / 512) % 256) &&& 7 : Nat) : Int)), some (.bool (decide ((bN bs 0 4) &&& 256 ≠ 0))), some (.int .u8 (((bN bs 0 4) % 256 : Nat) : Int))], true⟩]) (fun b28 => [])) := by
  have hnc00 : n ≤ c := (hst.fact (j := 0) rfl).2.1
  refine enter (vs := [(.string ⟨#[109, 112, 108, 115]⟩), (.slice A n c)]) Tryz.func58 rfl rfl rfl hst ?_
  refine HT.seq ?_
  refine HT.plain ?_
  refine sq (St.closed _ _ _ _) (q_assign rfl) rfl ?_
  refine sq (St.closed _ _ _ _) (q_assign rfl) rfl ?_
  refine send ?_
  refine eseq ?_
  refine HT.seq ?_
  refine HT.plain ?_
  refine sq (St.closed _ _ _ _) (q_build (vs := []) (v := (.agg #[.nilIface])) rfl (fun _ => by kernel_rfl)) rfl ?_
  refine sl_ (l_box (by decide) rfl fun b9 => ?_)
  refine sq (St.closed _ _ _ _) (q_assign rfl) rfl ?_
  refine send ?_
  refine eseq ?_
  refine HT.seq ?_
  refine HT.plain ?_
  refine sl_ (l_callX1 (vs := [(.string ⟨#[110, 111, 32, 107, 105, 110, 100]⟩)]) (Kc := []) (Bc := []) [] [] [Byt A n c bs] (fun b5 => [⟨b9, 201, [some .nilIface], true⟩, ⟨b5, 206, [some (.string (⟨#[110, 111, 32, 107, 105, 110, 100]⟩))], true⟩]) (fun b5 => [Byt A n c bs]) (by decide) rfl ca_67 (fun _ h => h) rfl rfl rfl rfl (fun w h => errNew w (⟨#[110, 111, 32, 107, 105, 110, 100]⟩)  h) (fun _ => rfl) (fun _ => rfl) (fun _ => rfl) (fun _ => rfl) fun b5 hf1 he2 => ?_)
  refine sq (St.closed _ _ _ _) (q_assign rfl) rfl ?_
  refine send ?_
  refine eseq ?_
  refine HT.seq ?_
  refine HT.seq ?_
  refine HT.plain ?_
  refine sq (St.closed _ _ _ _) (q_move rfl) rfl ?_
  refine send ?_
  refine eseq ?_
  refine HT.block ?_
  refine HT.seq ?_
  refine HT.plain ?_
  refine sq (St.closed _ _ _ _) (q_eqs rfl rfl (r := false) (by kernel_rfl)) rfl ?_
  refine sq (St.closed _ _ _ _) (q_assign rfl) rfl ?_
  refine send ?_
  refine eseq ?_
  refine HT.no rfl ?_
  refine HT.seq ?_
  refine HT.plain ?_
  refine sq (St.closed _ _ _ _) (q_eqs rfl rfl (r := false) (by kernel_rfl)) rfl ?_
  refine sq (St.closed _ _ _ _) (q_assign rfl) rfl ?_
  refine send ?_
  refine eseq ?_
  refine HT.no rfl ?_
  refine HT.seq ?_
  refine HT.plain ?_
  refine sq (St.closed _ _ _ _) (q_eqs rfl rfl (r := false) (by kernel_rfl)) rfl ?_
  refine sq (St.closed _ _ _ _) (q_assign rfl) rfl ?_
  refine send ?_
  refine eseq ?_
  refine HT.no rfl ?_
  refine HT.seq ?_
  refine HT.plain ?_
  refine sq (St.closed _ _ _ _) (q_eqs rfl rfl (r := false) (by kernel_rfl)) rfl ?_
  refine sq (St.closed _ _ _ _) (q_assign rfl) rfl ?_
  refine send ?_
  refine eseq ?_
  refine HT.no rfl ?_
  refine HT.seq ?_
  refine HT.plain ?_
  refine sq (St.closed _ _ _ _) (q_eqs rfl rfl (r := false) (by kernel_rfl)) rfl ?_
  refine sq (St.closed _ _ _ _) (q_assign rfl) rfl ?_
  refine send ?_
  refine eseq ?_
  refine HT.no rfl ?_
  refine HT.seq ?_
  refine HT.plain ?_
  refine sq (St.closed _ _ _ _) (q_eqs rfl rfl (r := false) (by kernel_rfl)) rfl ?_
  refine sq (St.closed _ _ _ _) (q_assign rfl) rfl ?_
  refine send ?_
  refine eseq ?_
  refine HT.no rfl ?_
  refine HT.seq ?_
  refine HT.plain ?_
  refine sq (St.closed _ _ _ _) (q_eqs rfl rfl (r := false) (by kernel_rfl)) rfl ?_
  refine sq (St.closed _ _ _ _) (q_assign rfl) rfl ?_
  refine send ?_
  refine eseq ?_
  refine HT.no rfl ?_
  refine HT.seq ?_
  refine HT.plain ?_
  refine sq (St.closed _ _ _ _) (q_eqs rfl rfl (r := false) (by kernel_rfl)) rfl ?_
  refine sq (St.closed _ _ _ _) (q_assign rfl) rfl ?_
  refine send ?_
  refine eseq ?_
  refine HT.no rfl ?_
  refine HT.seq ?_
  refine HT.plain ?_
  refine sq (St.closed _ _ _ _) (q_eqs rfl rfl (r := false) (by kernel_rfl)) rfl ?_
  refine sq (St.closed _ _ _ _) (q_assign rfl) rfl ?_
  refine send ?_
  refine eseq ?_
  refine HT.no rfl ?_
  refine HT.seq ?_
  refine HT.plain ?_
  refine sq (St.closed _ _ _ _) (q_eqs rfl rfl (r := false) (by kernel_rfl)) rfl ?_
  refine sq (St.closed _ _ _ _) (q_assign rfl) rfl ?_
  refine send ?_
  refine eseq ?_
  refine HT.no rfl ?_
  refine HT.seq ?_
  refine HT.plain ?_
  refine sq (St.closed _ _ _ _) (q_eqs rfl rfl (r := true) (by kernel_rfl)) rfl ?_
  refine sq (St.closed _ _ _ _) (q_assign rfl) rfl ?_
  refine send ?_
  refine eseq ?_
  refine HT.yes rfl ?_
  refine HT.plain ?_
  refine sq (St.closed _ _ _ _) (q_move rfl) rfl ?_
  refine sq (St.closed _ _ _ _) (q_move rfl) rfl ?_
  refine sq (St.closed _ _ _ _) (q_iface rfl Tryz.underlying199 (fun _ h => nomatch h)) rfl ?_
  refine sl_ (l_callX1 (vs := [(.slice A n c), (.iface 199 (.pointer (some ⟨b9, 0, none⟩)))]) (Kc := [⟨b9, 201, [some .nilIface], true⟩]) (Bc := [Byt A n c bs]) [0] [0] [Byt A n c bs] (fun b28 => [⟨b5, 206, [some (.string (⟨#[110, 111, 32, 107, 105, 110, 100]⟩))], true⟩, ⟨b9, 201, [some (.iface 110 (.pointer (some ⟨b28, 0, none⟩)))], true⟩, ⟨b28, 113, [some (.slice (cutA A c 0) (4 - 0) (c - 0)), some (.slice (cutA A c 4) (n - 4) (c - 4)), some (.int .u32 (((bN bs 0 4) / 4096 : Nat) : Int)), some (.int .u8 (((((bN bs 0 4) / 512) % 256) &&& 7 : Nat) : Int)), some (.bool (decide ((bN bs 0 4) &&& 256 ≠ 0))), some (.int .u8 (((bN bs 0 4) % 256 : Nat) : Int))], true⟩]) (fun b28 => [Byt A n c bs]) (by decide) rfl ca_78 (fun _ h => h) rfl rfl rfl rfl (fun w h => mpls_d1 w A n c bs b9 (by omega) (by omega) h) (fun _ => rfl) (fun _ => rfl) (fun _ => rfl) (fun _ => rfl) fun b28 hf3 he4 => ?_)
  refine sq (St.closed _ _ _ _) (q_assign rfl) rfl ?_
  refine send ?_
  refine ein ?_
  refine eseq ?_
  refine HT.seq ?_
  refine HT.seq ?_
  refine HT.plain ?_
  refine sq (St.closed _ _ _ _) (q_move rfl) rfl ?_
  refine sq (St.closed _ _ _ _) (q_notNil rfl rfl Tryz.underlying59) rfl ?_
  refine send ?_
  refine eseq ?_
  refine HT.no rfl ?_
  refine HT.skip ?_
  refine eseq ?_
  refine HT.seq ?_
  refine HT.plain ?_
  refine sq (St.closed _ _ _ _) (q_move rfl) rfl ?_
  refine sq (St.closed _ _ _ _) (q_nil rfl) rfl ?_
  refine sq (St.closed _ _ _ _) (q_field (b := b9) (off := 0) rfl fo_201_0) rfl ?_
  refine sq (St.closed _ _ _ _) (q_load (b := b9) (off := 0) (j := 1) rfl nagg_43 (fun _ h => h) rfl rfl rfl) rfl ?_
  refine sq (St.closed _ _ _ _) (q_assign rfl) rfl ?_
  refine sq (St.closed _ _ _ _) (q_assign rfl) rfl ?_
  refine send ?_
  refine eseq ?_
  refine HT.ret ?_
  exact fun a ha w' hw => fin_ ha (res2 ha Tryz.results58 rfl rfl) ⟨b28, rfl, (hw.wk [(2, [])] rfl), fr0⟩

theorem mpls_e1 (w : World) (A : Option Addr) (n : Nat) (c : Nat) (bs : List UInt8) (hn : n ≤ 400) (ha : 4 ≤ n) (hst : St w [] [] [Byt A n c bs] w) : Calls Tryz.prog 46 #[(.string ⟨#[109, 112, 108, 115]⟩), (.slice A n c)] w (CP3 w [] [Byt A n c bs] (fun b28 A5 c5 => (.tuple #[(.iface 110 (.pointer (some ⟨b28, 0, none⟩))), (.bool true)])) (fun b28 A5 c5 => [⟨b28, 113, [some (.slice (cutA A5 c5 0) (4 - 0) (c5 - 0)), some (.slice (cutA A5 c5 4) (n - 4) (c5 - 4)), some (.int .u32 (((bN bs 0 4) / 4096 : Nat) : Int)), some (.int .u8 (((((bN bs 0 4) / 512) % 256) &&& 7 : Nat) : Int)), some (.bool (decide ((bN bs 0 4) &&& 256 ≠ 0))), some (.int .u8 (((bN bs 0 4) % 256 : Nat) : Int))], true⟩]) (fun b28 A5 c5 => [Byt A5 n c5 bs])) := by
  have hnc00 : n ≤ c := (hst.fact (j := 0) rfl).2.1
  refine enter (vs := [(.string ⟨#[109, 112, 108, 115]⟩), (.slice A n c)]) Tryz.func46 rfl rfl rfl hst ?_
  refine HT.seq ?_
  refine HT.plain ?_
  refine sq (St.closed _ _ _ _) (q_assign rfl) rfl ?_
  refine sq (St.closed _ _ _ _) (q_assign rfl) rfl ?_
  refine send ?_
  refine eseq ?_
  refine HT.seq ?_
  refine HT.seq ?_
  refine HT.plain ?_
  refine sq (St.closed _ _ _ _) (q_move rfl) rfl ?_
  refine sq (St.closed _ _ _ _) (q_len (len := n) rfl Tryz.underlying22) rfl ?_
  refine sq (St.closed _ _ _ _) (q_F (q_gt (p := n) (q := 2000) rfl rfl) (by omega)) rfl ?_
  refine send ?_
  refine eseq ?_
  refine HT.no rfl ?_
  refine HT.skip ?_
  refine eseq ?_
  refine HT.seq ?_
  refine HT.plain ?_
  refine sq (St.closed _ _ _ _) (q_move rfl) rfl ?_
  refine sq (St.closed _ _ _ _) (q_assign rfl) rfl ?_
  refine send ?_
  refine eseq ?_
  refine HT.seq ?_
  refine HT.seq ?_
  refine HT.plain ?_
  refine sq (St.closed _ _ _ _) (q_move rfl) rfl ?_
  refine sq (St.closed _ _ _ _) (q_eqs rfl rfl (r := false) (by kernel_rfl)) rfl ?_
  refine sq (St.closed _ _ _ _) (q_move rfl) rfl ?_
  refine sgq (St.closed _ _ _ _) rfl (q_move rfl) rfl ?_
  refine sgq (St.closed _ _ _ _) rfl (q_eqs rfl rfl (r := false) (by kernel_rfl)) rfl ?_
  refine sq (St.closed _ _ _ _) (q_pick rfl (fun h => nomatch h) (fun _ => rfl)) rfl ?_
  refine send ?_
  refine eseq ?_
  refine HT.no rfl ?_
  refine HT.seq ?_
  refine HT.plain ?_
  refine sq (St.closed _ _ _ _) (q_move rfl) rfl ?_
  refine sq (St.closed _ _ _ _) (q_eqs rfl rfl (r := false) (by kernel_rfl)) rfl ?_
  refine send ?_
  refine eseq ?_
  refine HT.no rfl ?_
  refine HT.skip ?_
  refine eseq ?_
  refine HT.seq ?_
  refine HT.seq ?_
  refine HT.plain ?_
  refine sq (St.closed _ _ _ _) (q_move rfl) rfl ?_
  refine sq (St.closed _ _ _ _) (q_move rfl) rfl ?_
  refine sq (St.closed _ _ _ _) (q_call (vs := [(.string ⟨#[109, 112, 108, 115]⟩), (.slice A n c)]) (v := (.bool true)) rfl ca_57 (fun w h => mpls_c1 w A n c bs (by omega) (by omega) (St.enter (sp := []) (Kc := []) (bi := [0]) h rfl rfl rfl))) rfl ?_
  refine sq (St.closed _ _ _ _) (q_not rfl) rfl ?_
  refine send ?_
  refine eseq ?_
  refine HT.no rfl ?_
  refine HT.skip ?_
  refine eseq ?_
  refine HT.seq ?_
  refine HT.plain ?_
  refine sq (St.closed _ _ _ _) (q_move rfl) rfl ?_
  refine sq (St.closed _ _ _ _) (q_move rfl) rfl ?_
  refine sl_ (l_callX2 (vs := [(.slice A n c)]) (Kc := []) (Bc := [Byt A n c bs]) [] [0] [Byt A n c bs] (fun A5 c5 => []) (fun A5 c5 => [Byt A n c bs, Byt A5 n c5 bs]) (by decide) rfl ca_59 (fun _ h => h) rfl rfl rfl rfl (fun w h => Clone w A n c bs (by omega) h) (fun _ _ => rfl) (fun _ _ => rfl) (fun _ _ => rfl) (fun _ _ => rfl) fun A5 c5 hf1 he2 => ?_)
  have hnc3 : n ≤ c5 := by obtain ⟨w, h⟩ := he2; exact (h _ List.mem_cons_self).2.1
  refine sl_ (l_callX1 (vs := [(.string ⟨#[109, 112, 108, 115]⟩), (.slice A5 n c5)]) (Kc := []) (Bc := [Byt A5 n c5 bs]) [] [1] [Byt A n c bs, Byt A5 n c5 bs] (fun b28 => [⟨b28, 113, [some (.slice (cutA A5 c5 0) (4 - 0) (c5 - 0)), some (.slice (cutA A5 c5 4) (n - 4) (c5 - 4)), some (.int .u32 (((bN bs 0 4) / 4096 : Nat) : Int)), some (.int .u8 (((((bN bs 0 4) / 512) % 256) &&& 7 : Nat) : Int)), some (.bool (decide ((bN bs 0 4) &&& 256 ≠ 0))), some (.int .u8 (((bN bs 0 4) % 256 : Nat) : Int))], true⟩]) (fun b28 => [Byt A n c bs, Byt A5 n c5 bs]) (by decide) rfl ca_58 (fun _ h => h) rfl rfl rfl rfl (fun w h => mpls_z1 w A5 n c5 bs (by omega) (by omega) h) (fun _ => rfl) (fun _ => rfl) (fun _ => rfl) (fun _ => rfl) fun b28 hf4 he5 => ?_)
  refine sq (St.closed _ _ _ _) (q_move rfl) rfl ?_
  refine sq (St.closed _ _ _ _) (q_extract (vs := [(.iface 110 (.pointer (some ⟨b28, 0, none⟩))), .nilIface]) (i := 0) rfl rfl) rfl ?_
  refine sq (St.closed _ _ _ _) (q_extract (vs := [(.iface 110 (.pointer (some ⟨b28, 0, none⟩))), .nilIface]) (i := 1) rfl rfl) rfl ?_
  refine sq (St.closed _ _ _ _) (q_assign rfl) rfl ?_
  refine sq (St.closed _ _ _ _) (q_assign rfl) rfl ?_
  refine send ?_
  refine eseq ?_
  refine HT.seq ?_
  refine HT.seq ?_
  refine HT.plain ?_
  refine sq (St.closed _ _ _ _) (q_move rfl) rfl ?_
  refine sq (St.closed _ _ _ _) (q_notNil rfl rfl Tryz.underlying59) rfl ?_
  refine sq (St.closed _ _ _ _) (q_move rfl) rfl ?_
  refine sgq (St.closed _ _ _ _) rfl (q_move rfl) rfl ?_
  refine sgq (St.closed _ _ _ _) rfl (q_isNil' rfl rfl Tryz.underlying43) rfl ?_
  refine sq (St.closed _ _ _ _) (q_pick rfl (fun h => nomatch h) (fun _ => rfl)) rfl ?_
  refine send ?_
  refine eseq ?_
  refine HT.no rfl ?_
  refine HT.skip ?_
  refine eseq ?_
  refine HT.seq ?_
  refine HT.seq ?_
  refine HT.plain ?_
  refine sq (St.closed _ _ _ _) (q_move rfl) rfl ?_
  refine sq (St.closed _ _ _ _) (q_isnt (T := 110) (z := (.pointer none)) rfl Tryz.underlying63 (fun _ h => nomatch h) (by decide) zero_63) rfl ?_
  refine sq (St.closed _ _ _ _) (q_move rfl) rfl ?_
  refine sq (St.closed _ _ _ _) (q_extract (vs := [(.pointer none), (.bool false)]) (i := 0) rfl rfl) rfl ?_
  refine sq (St.closed _ _ _ _) (q_extract (vs := [(.pointer none), (.bool false)]) (i := 1) rfl rfl) rfl ?_
  refine sq (St.closed _ _ _ _) (q_assign rfl) rfl ?_
  refine sq (St.closed _ _ _ _) (q_assign rfl) rfl ?_
  refine send ?_
  refine eseq ?_
  refine HT.seq ?_
  refine HT.plain ?_
  refine sq (St.closed _ _ _ _) (q_move rfl) rfl ?_
  refine sq (St.closed _ _ _ _) (q_move rfl) rfl ?_
  refine sq (St.closed _ _ _ _) (q_eqs rfl rfl (r := false) (by kernel_rfl)) rfl ?_
  refine sq (St.closed _ _ _ _) (q_neb rfl rfl Tryz.underlying4) rfl ?_
  refine sq (St.closed _ _ _ _) (q_move rfl) rfl ?_
  refine sskip rfl rfl ?_
  refine sskip rfl rfl ?_
  refine sq (St.closed _ _ _ _) (q_pick rfl (fun h => nomatch h) (fun _ => rfl)) rfl ?_
  refine send ?_
  refine eseq ?_
  refine HT.no rfl ?_
  refine HT.skip ?_
  refine eseq ?_
  refine HT.seq ?_
  refine HT.plain ?_
  refine sq (St.closed _ _ _ _) (q_move rfl) rfl ?_
  refine sq (St.closed _ _ _ _) (q_assign rfl) rfl ?_
  refine sq (St.closed _ _ _ _) (q_assign rfl) rfl ?_
  refine send ?_
  refine eseq ?_
  refine HT.ret ?_
  exact fun a ha w' hw => fin_ ha (res2 ha Tryz.results46 rfl rfl) ⟨b28, A5, c5, rfl, hw, (fr1 (hf1 _ List.mem_cons_self) fr0)⟩

theorem mpls_t1 (w : World) (A5 : Option Addr) (n : Nat) (c5 : Nat) (bs : List UInt8) (b28 : Nat) (hn : n ≤ 400) (ha : 4 ≤ n) (hst : St w [] [⟨b28, 113, [some (.slice (cutA A5 c5 0) (4 - 0) (c5 - 0)), some (.slice (cutA A5 c5 4) (n - 4) (c5 - 4)), some (.int .u32 (((bN bs 0 4) / 4096 : Nat) : Int)), some (.int .u8 (((((bN bs 0 4) / 512) % 256) &&& 7 : Nat) : Int)), some (.bool (decide ((bN bs 0 4) &&& 256 ≠ 0))), some (.int .u8 (((bN bs 0 4) % 256 : Nat) : Int))], false⟩] [Byt A5 n c5 bs] w) : Calls Tryz.prog 47 #[(.iface 110 (.pointer (some ⟨b28, 0, none⟩))), (.slice (cutA A5 c5 4) (n - 4) (c5 - 4))] w (IP w (Byt A5 n c5 bs) (some (some ⟨[(bN bs 0 4) / 4096, ((bN bs 0 4) / 512) &&& 7, ((bN bs 0 4) / 256) &&& 1, (bN bs 0 4) &&& 255], [], [], sl bs 4 n⟩))) := by
  have hnc00 : n ≤ c5 := (hst.fact (j := 0) rfl).2.1
  refine enter (vs := [(.iface 110 (.pointer (some ⟨b28, 0, none⟩))), (.slice (cutA A5 c5 4) (n - 4) (c5 - 4))]) Tryz.func47 rfl rfl rfl hst ?_
  refine HT.seq ?_
  refine HT.plain ?_
  refine sl_ (l_alloc (by decide) zero_29 fun b4 => ?_)
  refine sq (St.closed _ _ _ _) (q_assign rfl) rfl ?_
  refine send ?_
  refine eseq ?_
  refine HT.seq ?_
  refine HT.plain ?_
  refine sq (St.closed _ _ _ _) (q_move rfl) rfl ?_
  refine sl_ (l_callX2 (vs := [(.slice (cutA A5 c5 4) (n - 4) (c5 - 4))]) (Kc := []) (Bc := [Byt (cutA A5 c5 4) (n - 4) (c5 - 4) (sl bs 4 n)]) [] [1] [Byt A5 n c5 bs, Byt (cutA A5 c5 4) (n - 4) (c5 - 4) (sl bs 4 n)] (fun A5_1 c5_1 => [⟨b28, 113, [some (.slice (cutA A5 c5 0) (4 - 0) (c5 - 0)), some (.slice (cutA A5 c5 4) (n - 4) (c5 - 4)), some (.int .u32 (((bN bs 0 4) / 4096 : Nat) : Int)), some (.int .u8 (((((bN bs 0 4) / 512) % 256) &&& 7 : Nat) : Int)), some (.bool (decide ((bN bs 0 4) &&& 256 ≠ 0))), some (.int .u8 (((bN bs 0 4) % 256 : Nat) : Int))], false⟩, ⟨b4, 29, [some (.slice none 0 0), some (.slice none 0 0), some (.slice none 0 0), some (.slice none 0 0)], true⟩]) (fun A5_1 c5_1 => [Byt A5 n c5 bs, Byt A5_1 (n - 4) c5_1 (sl bs 4 n)]) (by decide) rfl ca_60 (fun _ h => (h.cut (j := 0) (lo := 4) (hi := n) rfl (by omega) (by omega))) rfl rfl rfl rfl (fun w h => clone w (cutA A5 c5 4) (n - 4) (c5 - 4) (sl bs 4 n) (by omega) h) (fun _ _ => rfl) (fun _ _ => rfl) (fun _ _ => rfl) (fun _ _ => rfl) fun A5_1 c5_1 hf1 he2 => ?_)
  have hnc3 : (n - 4) ≤ c5_1 := by obtain ⟨w, h⟩ := he2; exact (h _ List.mem_cons_self).2.1
  refine sq (St.closed _ _ _ _) (q_build (vs := [(3, (.slice A5_1 (n - 4) c5_1))]) (v := (.agg #[(.slice none 0 0), (.slice none 0 0), (.slice none 0 0), (.slice A5_1 (n - 4) c5_1)])) rfl (fun _ => by kernel_rfl)) rfl ?_
  refine sl_ (l_box (by decide) rfl fun b50 => ?_)
  refine sq (St.closed _ _ _ _) (q_assign rfl) rfl ?_
  refine send ?_
  refine eseq ?_
  refine HT.seq ?_
  refine HT.seq ?_
  refine HT.plain ?_
  refine sq (St.closed _ _ _ _) (q_move rfl) rfl ?_
  refine send ?_
  refine eseq ?_
  refine HT.block ?_
  refine HT.seq ?_
  refine HT.plain ?_
  refine sq (St.closed _ _ _ _) (q_isnt (T := 110) (z := (.pointer none)) rfl Tryz.underlying66 (fun _ h => nomatch h) (by decide) zero_66) rfl ?_
  refine sq (St.closed _ _ _ _) (q_extract (vs := [(.pointer none), (.bool false)]) (i := 1) rfl rfl) rfl ?_
  refine sq (St.closed _ _ _ _) (q_extract (vs := [(.pointer none), (.bool false)]) (i := 0) rfl rfl) rfl ?_
  refine send ?_
  refine eseq ?_
  refine HT.no rfl ?_
  refine HT.seq ?_
  refine HT.plain ?_
  refine sq (St.closed _ _ _ _) (q_isnt (T := 110) (z := (.pointer none)) rfl Tryz.underlying73 (fun _ h => nomatch h) (by decide) zero_73) rfl ?_
  refine sq (St.closed _ _ _ _) (q_extract (vs := [(.pointer none), (.bool false)]) (i := 1) rfl rfl) rfl ?_
  refine sq (St.closed _ _ _ _) (q_extract (vs := [(.pointer none), (.bool false)]) (i := 0) rfl rfl) rfl ?_
  refine send ?_
  refine eseq ?_
  refine HT.no rfl ?_
  refine HT.seq ?_
  refine HT.plain ?_
  refine sq (St.closed _ _ _ _) (q_isnt (T := 110) (z := (.pointer none)) rfl Tryz.underlying78 (fun _ h => nomatch h) (by decide) zero_78) rfl ?_
  refine sq (St.closed _ _ _ _) (q_extract (vs := [(.pointer none), (.bool false)]) (i := 1) rfl rfl) rfl ?_
  refine sq (St.closed _ _ _ _) (q_extract (vs := [(.pointer none), (.bool false)]) (i := 0) rfl rfl) rfl ?_
  refine send ?_
  refine eseq ?_
  refine HT.no rfl ?_
  refine HT.seq ?_
  refine HT.plain ?_
  refine sq (St.closed _ _ _ _) (q_isnt (T := 110) (z := (.pointer none)) rfl Tryz.underlying81 (fun _ h => nomatch h) (by decide) zero_81) rfl ?_
  refine sq (St.closed _ _ _ _) (q_extract (vs := [(.pointer none), (.bool false)]) (i := 1) rfl rfl) rfl ?_
  refine sq (St.closed _ _ _ _) (q_extract (vs := [(.pointer none), (.bool false)]) (i := 0) rfl rfl) rfl ?_
  refine send ?_
  refine eseq ?_
  refine HT.no rfl ?_
  refine HT.seq ?_
  refine HT.plain ?_
  refine sq (St.closed _ _ _ _) (q_isnt (T := 110) (z := (.pointer none)) rfl Tryz.underlying85 (fun _ h => nomatch h) (by decide) zero_85) rfl ?_
  refine sq (St.closed _ _ _ _) (q_extract (vs := [(.pointer none), (.bool false)]) (i := 1) rfl rfl) rfl ?_
  refine sq (St.closed _ _ _ _) (q_extract (vs := [(.pointer none), (.bool false)]) (i := 0) rfl rfl) rfl ?_
  refine send ?_
  refine eseq ?_
  refine HT.no rfl ?_
  refine HT.seq ?_
  refine HT.plain ?_
  refine sq (St.closed _ _ _ _) (q_isnt (T := 110) (z := (.pointer none)) rfl Tryz.underlying89 (fun _ h => nomatch h) (by decide) zero_89) rfl ?_
  refine sq (St.closed _ _ _ _) (q_extract (vs := [(.pointer none), (.bool false)]) (i := 1) rfl rfl) rfl ?_
  refine sq (St.closed _ _ _ _) (q_extract (vs := [(.pointer none), (.bool false)]) (i := 0) rfl rfl) rfl ?_
  refine send ?_
  refine eseq ?_
  refine HT.no rfl ?_
  refine HT.seq ?_
  refine HT.plain ?_
  refine sq (St.closed _ _ _ _) (q_isnt (T := 110) (z := (.pointer none)) rfl Tryz.underlying94 (fun _ h => nomatch h) (by decide) zero_94) rfl ?_
  refine sq (St.closed _ _ _ _) (q_extract (vs := [(.pointer none), (.bool false)]) (i := 1) rfl rfl) rfl ?_
  refine sq (St.closed _ _ _ _) (q_extract (vs := [(.pointer none), (.bool false)]) (i := 0) rfl rfl) rfl ?_
  refine send ?_
  refine eseq ?_
  refine HT.no rfl ?_
  refine HT.seq ?_
  refine HT.plain ?_
  refine sq (St.closed _ _ _ _) (q_isnt (T := 110) (z := (.pointer none)) rfl Tryz.underlying95 (fun _ h => nomatch h) (by decide) zero_95) rfl ?_
  refine sq (St.closed _ _ _ _) (q_extract (vs := [(.pointer none), (.bool false)]) (i := 1) rfl rfl) rfl ?_
  refine sq (St.closed _ _ _ _) (q_extract (vs := [(.pointer none), (.bool false)]) (i := 0) rfl rfl) rfl ?_
  refine send ?_
  refine eseq ?_
  refine HT.no rfl ?_
  refine HT.seq ?_
  refine HT.plain ?_
  refine sq (St.closed _ _ _ _) (q_isnt (T := 110) (z := (.pointer none)) rfl Tryz.underlying99 (fun _ h => nomatch h) (by decide) zero_99) rfl ?_
  refine sq (St.closed _ _ _ _) (q_extract (vs := [(.pointer none), (.bool false)]) (i := 1) rfl rfl) rfl ?_
  refine sq (St.closed _ _ _ _) (q_extract (vs := [(.pointer none), (.bool false)]) (i := 0) rfl rfl) rfl ?_
  refine send ?_
  refine eseq ?_
  refine HT.no rfl ?_
  refine HT.seq ?_
  refine HT.plain ?_
  refine sq (St.closed _ _ _ _) (q_isnt (T := 110) (z := (.pointer none)) rfl Tryz.underlying105 (fun _ h => nomatch h) (by decide) zero_105) rfl ?_
  refine sq (St.closed _ _ _ _) (q_extract (vs := [(.pointer none), (.bool false)]) (i := 1) rfl rfl) rfl ?_
  refine sq (St.closed _ _ _ _) (q_extract (vs := [(.pointer none), (.bool false)]) (i := 0) rfl rfl) rfl ?_
  refine send ?_
  refine eseq ?_
  refine HT.no rfl ?_
  refine HT.seq ?_
  refine HT.plain ?_
  refine sq (St.closed _ _ _ _) (q_is rfl Tryz.underlying110 (fun _ h => nomatch h)) rfl ?_
  refine sq (St.closed _ _ _ _) (q_extract (vs := [(.pointer (some ⟨b28, 0, none⟩)), (.bool true)]) (i := 1) rfl rfl) rfl ?_
  refine sq (St.closed _ _ _ _) (q_extract (vs := [(.pointer (some ⟨b28, 0, none⟩)), (.bool true)]) (i := 0) rfl rfl) rfl ?_
  refine send ?_
  refine eseq ?_
  refine HT.yes rfl ?_
  refine HT.seq ?_
  refine HT.plain ?_
  refine sq (St.closed _ _ _ _) (q_assign rfl) rfl ?_
  refine send ?_
  refine eseq ?_
  refine HT.drawn mixed (St.closed _ _ _ _) (St w [] [⟨b28, 113, [some (.slice (cutA A5 c5 0) (4 - 0) (c5 - 0)), some (.slice (cutA A5 c5 4) (n - 4) (c5 - 4)), some (.int .u32 (((bN bs 0 4) / 4096 : Nat) : Int)), some (.int .u8 (((((bN bs 0 4) / 512) % 256) &&& 7 : Nat) : Int)), some (.bool (decide ((bN bs 0 4) &&& 256 ≠ 0))), some (.int .u8 (((bN bs 0 4) % 256 : Nat) : Int))], false⟩, ⟨b4, 29, [some (.slice none 0 0), some (.slice none 0 0), some (.slice none 0 0), some (.slice none 0 0)], true⟩, ⟨b50, 29, [none, some (.slice none 0 0), some (.slice none 0 0), some (.slice A5_1 (n - 4) c5_1)], true⟩] [Byt A5 n c5 bs, Byt A5_1 (n - 4) c5_1 (sl bs 4 n)]) ?_
  refine dtake (f := 4) [0, 1, 2, 3, 4, 5, 6, 7, 8, 9, 10, 11, 12, 13, 14, 15, 16, 17, 18, 19, 20] (by kernel_rfl) (St.closed _ _ _ _) (fun _ h => (h.wk [(0, []), (1, []), (2, [0])] rfl)) (by kernel_rfl) ?_
  refine dq rfl (q_move rfl) ?_
  refine dq rfl (q_move rfl) ?_
  refine dq rfl (q_nil rfl) ?_
  refine dq rfl (q_field (b := b28) (off := 0) rfl fo_113_1) ?_
  refine dq rfl (q_load (b := b28) (off := 2) (j := 0) rfl nagg_111 (fun _ h => h) rfl rfl rfl) ?_
  refine dq rfl (q_convn (p := (bN bs 0 4) / 4096) rfl Tryz.underlying111 Tryz.underlying39 (show (bN bs 0 4) / 4096 < 18446744073709551616 by have := bN_lt bs 0 4 4294967296 rfl; omega)) ?_
  refine dq rfl (q_move rfl) ?_
  refine dq rfl (q_nil rfl) ?_
  refine dq rfl (q_field (b := b28) (off := 0) rfl fo_113_2) ?_
  refine dq rfl (q_load (b := b28) (off := 3) (j := 0) rfl nagg_5 (fun _ h => h) rfl rfl rfl) ?_
  refine dq rfl (q_convn (p := (((bN bs 0 4) / 512) % 256) &&& 7) rfl Tryz.underlying5 Tryz.underlying39 (show (((bN bs 0 4) / 512) % 256) &&& 7 < 18446744073709551616 by have := bN_lt bs 0 4 4294967296 rfl; have := zm7 (((bN bs 0 4) / 512) % 256); have := Nat.and_le_left (n := ((bN bs 0 4) / 512) % 256) (m := 7); have := Nat.and_le_right (n := ((bN bs 0 4) / 512) % 256) (m := 7); omega)) ?_
  refine dq rfl (q_move rfl) ?_
  refine dq rfl (q_nil rfl) ?_
  refine dq rfl (q_field (b := b28) (off := 0) rfl fo_113_3) ?_
  refine dq rfl (q_load (b := b28) (off := 4) (j := 0) rfl nagg_4 (fun _ h => h) rfl rfl rfl) ?_
  refine dq rfl (q_call (vs := [(.bool (decide ((bN bs 0 4) &&& 256 ≠ 0)))]) (v := (.int .u64 ((bitN (decide ((bN bs 0 4) &&& 256 ≠ 0)) : Nat) : Int))) rfl ca_61 (fun w h => bitC w (decide ((bN bs 0 4) &&& 256 ≠ 0))  (St.enter (sp := []) (Kc := []) (bi := []) h rfl rfl rfl))) ?_
  refine dq rfl (q_move rfl) ?_
  refine dq rfl (q_nil rfl) ?_
  refine dq rfl (q_field (b := b28) (off := 0) rfl fo_113_4) ?_
  refine dq rfl (q_load (b := b28) (off := 5) (j := 0) rfl nagg_5 (fun _ h => h) rfl rfl rfl) ?_
  refine dq rfl (q_convn (p := (bN bs 0 4) % 256) rfl Tryz.underlying5 Tryz.underlying39 (show (bN bs 0 4) % 256 < 18446744073709551616 by have := bN_lt bs 0 4 4294967296 rfl; omega)) ?_
  refine QL.nil ?_
  refine RG.step1 21 (by kernel_rfl) ?_
  refine dop rfl (l_buildSlice (e := 39) (vs := [(0, (.int .u64 (((bN bs 0 4) / 4096 : Nat) : Int))), (1, (.int .u64 (((((bN bs 0 4) / 512) % 256) &&& 7 : Nat) : Int))), (2, (.int .u64 ((bitN (decide ((bN bs 0 4) &&& 256 ≠ 0)) : Nat) : Int))), (3, (.int .u64 (((bN bs 0 4) % 256 : Nat) : Int)))]) (cs := [(.int .u64 (((bN bs 0 4) / 4096 : Nat) : Int)), (.int .u64 (((((bN bs 0 4) / 512) % 256) &&& 7 : Nat) : Int)), (.int .u64 ((bitN (decide ((bN bs 0 4) &&& 256 ≠ 0)) : Nat) : Int)), (.int .u64 (((bN bs 0 4) % 256 : Nat) : Int))]) (by decide) rfl (fun _ => by kernel_rfl) fun b402 => ⟨(fun _ h => (h.wk [(0, []), (1, []), (2, [0])] rfl)), ?_⟩)
  refine dtake (f := 1) [22, 23] (by kernel_rfl) (St.closed _ _ _ _) (fun _ h => (h.wk [(0, []), (1, []), (2, [0])] rfl)) (by kernel_rfl) ?_
  refine dq rfl (q_nil rfl) ?_
  refine dq rfl (q_field (b := b50) (off := 0) rfl fo_29_0) ?_
  refine QL.nil ?_
  refine RG.step1 24 (by kernel_rfl) ?_
  refine dop rfl (l_store (b := b50) (off := 0) (j := 2) rfl rfl nagg_25 rfl rfl rfl rfl (dlt rfl) ⟨(fun _ h => (h.wk [(0, []), (1, []), (2, [0])] rfl)), ?_⟩)
  refine dend (by kernel_rfl) ?_
  refine ein ?_
  refine eseq ?_
  refine HT.seq ?_
  refine HT.plain ?_
  refine sq (St.closed _ _ _ _) (q_move rfl) rfl ?_
  refine sq (St.closed _ _ _ _) (q_nil rfl) rfl ?_
  refine sq (St.closed _ _ _ _) (q_loadAgg (b := b50) (off := 0) (j := 2) (vs := [(.slice (some ⟨b402, 0, none⟩) 4 4), (.slice none 0 0), (.slice none 0 0), (.slice A5_1 (n - 4) c5_1)]) rfl aggs_29 (fun _ h => h) rfl rfl rfl) rfl ?_
  refine sl_ (l_storeAgg (b := b4) (off := 0) (j := 1) (vs := [(.slice (some ⟨b402, 0, none⟩) 4 4), (.slice none 0 0), (.slice none 0 0), (.slice A5_1 (n - 4) c5_1)]) rfl rfl aggs_29 (by simp [Value.one1]) rfl rfl rfl (Nat.le_of_ble_eq_true rfl) ?_)
  refine sq (St.closed _ _ _ _) (q_assign rfl) rfl ?_
  refine send ?_
  refine eseq ?_
  refine HT.ret ?_
  exact fun a ha w' hw => fin_ ha (resc2 ha Tryz.results47 rfl (ld_ aggs_29 hw (j := 1) rfl rfl (vs := [(.slice (some ⟨b402, 0, none⟩) 4 4), (.slice none 0 0), (.slice none 0 0), (.slice A5_1 (n - 4) c5_1)]) rfl) rfl) ⟨⟨⟨some ⟨b402, 0, none⟩, 4, 4, [(bN bs 0 4) / 4096, (((bN bs 0 4) / 512) % 256) &&& 7, bitN (decide ((bN bs 0 4) &&& 256 ≠ 0)), (bN bs 0 4) % 256]⟩, none, 0, 0, [], none, 0, 0, [], ⟨A5_1, (n - 4), c5_1, (sl bs 4 n)⟩⟩, rfl, hw.pres, Own.lay (all1 (Own.cel hw (j := 3) (sz := 1) (r := []) rfl rfl rfl rfl (Nat.le_refl _)) (all1 (Own.nilCel 1) (all1 (Own.nilCel 2) (all1 (Own.byt hw (j := 1) rfl (fun b h => .inl ((hf1 _ List.mem_cons_self) b h))) all0)))), (LD_eq (lc rfl (lc (show (((bN bs 0 4) / 512) % 256) &&& 7 = ((bN bs 0 4) / 512) &&& 7 from by ((have := nb_lt bs 0; have := nb_lt bs 1; have := nb_lt bs 2; have := nb_lt bs 3; (try simp only [zd224, zd240, zd192, zd24, zd56, zd65520, zd4, zd8, zd48, zd112]) <;> (try simp only [zt1, zt2, zt4, zt8, zt16, zt32, zt64, zt128, zt256, zt512, zt1024, zt2048, zt4096, zt8192]) <;> (try simp only [zm1, zm3, zm7, zm15, zm31, zm63, zm127, zm255, zm1023, zm4095, zm1048575, zb1, zb2, zb4, zb8, zb16, zb32, zb64, zb128, zb256, zb512, zb1024, zb2048, zb4096, zb8192, lN, bN, Nat.zero_mul, Nat.zero_add, Nat.add_zero, Nat.reduceAdd, Nat.reduceDiv, Nat.reduceMul]) <;> omega))) (lc (show bitN (decide ((bN bs 0 4) &&& 256 ≠ 0)) = ((bN bs 0 4) / 256) &&& 1 from by ((have := nb_lt bs 0; have := nb_lt bs 1; have := nb_lt bs 2; have := nb_lt bs 3; (try simp only [zd224, zd240, zd192, zd24, zd56, zd65520, zd4, zd8, zd48, zd112]) <;> (try simp only [zt1, zt2, zt4, zt8, zt16, zt32, zt64, zt128, zt256, zt512, zt1024, zt2048, zt4096, zt8192]) <;> (try simp only [zm1, zm3, zm7, zm15, zm31, zm63, zm127, zm255, zm1023, zm4095, zm1048575, zb1, zb2, zb4, zb8, zb16, zb32, zb64, zb128, zb256, zb512, zb1024, zb2048, zb4096, zb8192, lN, bN, Nat.zero_mul, Nat.zero_add, Nat.add_zero, Nat.reduceAdd, Nat.reduceDiv, Nat.reduceMul]) <;> omega))) (lc (show (bN bs 0 4) % 256 = (bN bs 0 4) &&& 255 from by ((have := nb_lt bs 0; have := nb_lt bs 1; have := nb_lt bs 2; have := nb_lt bs 3; (try simp only [zd224, zd240, zd192, zd24, zd56, zd65520, zd4, zd8, zd48, zd112]) <;> (try simp only [zt1, zt2, zt4, zt8, zt16, zt32, zt64, zt128, zt256, zt512, zt1024, zt2048, zt4096, zt8192]) <;> (try simp only [zm1, zm3, zm7, zm15, zm31, zm63, zm127, zm255, zm1023, zm4095, zm1048575, zb1, zb2, zb4, zb8, zb16, zb32, zb64, zb128, zb256, zb512, zb1024, zb2048, zb4096, zb8192, lN, bN, Nat.zero_mul, Nat.zero_add, Nat.add_zero, Nat.reduceAdd, Nat.reduceDiv, Nat.reduceMul]) <;> omega))) rfl)))) rfl rfl (show (sl bs 4 n) = sl bs 4 n from by first | rfl | (exact sl_nil (by omega)) | (congr 1 <;> omega) | (rw [sl_sl (by omega)]; congr 1 <;> omega)))⟩

theorem mpls_I1 (w : World) (A : Option Addr) (n : Nat) (c : Nat) (bs : List UInt8) (hn : n ≤ 400) (ha : 4 ≤ n) (hst : St w [] [] [Byt A n c bs] w) : Calls Tryz.prog 27 #[(.string ⟨#[109, 112, 108, 115]⟩), (.slice A n c)] w (IP w (Byt A n c bs) (some (some ⟨[(bN bs 0 4) / 4096, ((bN bs 0 4) / 512) &&& 7, ((bN bs 0 4) / 256) &&& 1, (bN bs 0 4) &&& 255], [], [], sl bs 4 n⟩))) := by
  have hnc00 : n ≤ c := (hst.fact (j := 0) rfl).2.1
  refine enter (vs := [(.string ⟨#[109, 112, 108, 115]⟩), (.slice A n c)]) Tryz.func27 rfl rfl rfl hst ?_
  refine HT.seq ?_
  refine HT.plain ?_
  refine sl_ (l_alloc (by decide) zero_29 fun b4 => ?_)
  refine sq (St.closed _ _ _ _) (q_assign rfl) rfl ?_
  refine send ?_
  refine eseq ?_
  refine HT.seq ?_
  refine HT.plain ?_
  refine sq (St.closed _ _ _ _) (q_move rfl) rfl ?_
  refine sq (St.closed _ _ _ _) (q_move rfl) rfl ?_
  refine sl_ (l_callX3 (vs := [(.string ⟨#[109, 112, 108, 115]⟩), (.slice A n c)]) (Kc := []) (Bc := [Byt A n c bs]) [] [0] [Byt A n c bs] (fun b28 A5 c5 => [⟨b4, 29, [some (.slice none 0 0), some (.slice none 0 0), some (.slice none 0 0), some (.slice none 0 0)], true⟩, ⟨b28, 113, [some (.slice (cutA A5 c5 0) (4 - 0) (c5 - 0)), some (.slice (cutA A5 c5 4) (n - 4) (c5 - 4)), some (.int .u32 (((bN bs 0 4) / 4096 : Nat) : Int)), some (.int .u8 (((((bN bs 0 4) / 512) % 256) &&& 7 : Nat) : Int)), some (.bool (decide ((bN bs 0 4) &&& 256 ≠ 0))), some (.int .u8 (((bN bs 0 4) % 256 : Nat) : Int))], true⟩]) (fun b28 A5 c5 => [Byt A n c bs, Byt A5 n c5 bs]) (by decide) rfl ca_46 (fun _ h => h) rfl rfl rfl rfl (fun w h => mpls_e1 w A n c bs (by omega) (by omega) h) (fun _ _ _ => rfl) (fun _ _ _ => rfl) (fun _ _ _ => rfl) (fun _ _ _ => rfl) fun b28 A5 c5 hf1 he2 => ?_)
  have hnc3 : n ≤ c5 := by obtain ⟨w, h⟩ := he2; exact (h _ List.mem_cons_self).2.1
  refine sq (St.closed _ _ _ _) (q_move rfl) rfl ?_
  refine sq (St.closed _ _ _ _) (q_extract (vs := [(.iface 110 (.pointer (some ⟨b28, 0, none⟩))), (.bool true)]) (i := 0) rfl rfl) rfl ?_
  refine sq (St.closed _ _ _ _) (q_extract (vs := [(.iface 110 (.pointer (some ⟨b28, 0, none⟩))), (.bool true)]) (i := 1) rfl rfl) rfl ?_
  refine sq (St.closed _ _ _ _) (q_assign rfl) rfl ?_
  refine sq (St.closed _ _ _ _) (q_assign rfl) rfl ?_
  refine send ?_
  refine eseq ?_
  refine HT.seq ?_
  refine HT.seq ?_
  refine HT.plain ?_
  refine sq (St.closed _ _ _ _) (q_move rfl) rfl ?_
  refine sq (St.closed _ _ _ _) (q_not rfl) rfl ?_
  refine send ?_
  refine eseq ?_
  refine HT.no rfl ?_
  refine HT.skip ?_
  refine eseq ?_
  refine HT.seq ?_
  refine HT.plain ?_
  refine sq (St.closed _ _ _ _) (q_move rfl) rfl ?_
  refine sq (St.closed _ _ _ _) (q_move rfl) rfl ?_
  refine sq (St.closed _ _ _ _) (q_invoke (vs := []) (v := (.slice (cutA A5 c5 4) (n - 4) (c5 - 4))) rfl (fun w => me_110_LayerPayload _ w) rfl ca_120 (fun w h => layPay0 w b28 113 _ _ _ (h.ro (j := 1) rfl))) rfl ?_
  refine sl_ (l_callLay (vs := [(.iface 110 (.pointer (some ⟨b28, 0, none⟩))), (.slice (cutA A5 c5 4) (n - 4) (c5 - 4))]) (tup := fun L => .tuple #[L.val, .bool true]) 1 (by decide) rfl ca_47 rfl (fun w h => mpls_t1 w A5 n c5 bs b28 (by omega) (by omega) (h.ro2 (j := 1) rfl (bi := [1]) rfl)) fun L20 hfr hda hoL => ?_)
  refine sq (St.closed _ _ _ _) (q_extract (vs := [(.agg #[(L20.nums.val), (.slice L20.dA L20.dn L20.dc), (.slice L20.pA L20.pn L20.pc), (L20.pay.val)]), (.bool true)]) (i := 0) rfl rfl) rfl ?_
  refine sq (St.closed _ _ _ _) (q_extract (vs := [(.agg #[(L20.nums.val), (.slice L20.dA L20.dn L20.dc), (.slice L20.pA L20.pn L20.pc), (L20.pay.val)]), (.bool true)]) (i := 1) rfl rfl) rfl ?_
  refine sl_ (l_storeAgg (b := b4) (off := 0) (j := 0) (vs := [(L20.nums.val), (.slice L20.dA L20.dn L20.dc), (.slice L20.pA L20.pn L20.pc), (L20.pay.val)]) rfl rfl aggs_29 (by simp [Value.one1]) rfl rfl rfl (Nat.le_of_ble_eq_true rfl) ?_)
  refine sq (St.closed _ _ _ _) (q_assign rfl) rfl ?_
  refine send ?_
  refine eseq ?_
  refine HT.ret ?_
  exact fun a ha w' hw => fin_ ha (resc2 ha Tryz.results27 rfl (ld_ aggs_29 hw (j := 0) rfl rfl (vs := [(L20.nums.val), (.slice L20.dA L20.dn L20.dc), (.slice L20.pA L20.pn L20.pc), (L20.pay.val)]) rfl) rfl) ⟨L20, rfl, hw.pres, ⟨hw.fact (j := 2) rfl, fun i hi => (hfr i hi).elim .inl (fun h => .inl ((hf1 _ List.mem_cons_self) i h))⟩, hda⟩
end Go.Proofs.YtfkaafbeeegenaaGreat.Zed
