/- linuxsll: the package, case 2 -/
import Derived.Test.YtfkaafbeeegenaaGreatLinuxsll0
import Derived.KernelRfl
namespace Go.Proofs.YtfkaafbeeegenaaGreat.Zed
set_option linter.unusedVariables false
set_option linter.unusedSimpArgs false
set_option maxRecDepth 100000
set_option maxHeartbeats 4000000


theorem linuxsll_c2 (w : World) (A : Option Addr) (n : Nat) (c : Nat) (bs : List UInt8) (hn : n ≤ 400) (ha : 16 ≤ n) (hb : bN bs 4 2 ≤ 8) (hst : St w [] [] [Byt A n c bs] w) : Calls Tryz.prog 57 #[(.string ⟨#[108, 105, 110, 117, 120, 115, 108, 108]⟩), (.slice A n c)] w (fun e w' => e = .returned (.bool true) ∧ Pres [] w w') := by
  have hnc00 : n ≤ c := (hst.fact (j := 0) rfl).2.1
  refine enter (vs := [(.string ⟨#[108, 105, 110, 117, 120, 115, 108, 108]⟩), (.slice A n c)]) Tryz.func57 rfl rfl rfl hst ?_
  refine HT.seq ?_
  refine HT.plain ?_
  refine sq (St.closed _ _ _ _) (q_assign rfl) rfl ?_
  refine send ?_
  refine eseq ?_
  refine HT.seq ?_
  refine HT.seq ?_
  refine HT.plain ?_
  refine sq (St.closed _ _ _ _) (q_move rfl) rfl ?_
  refine send ?_
  refine eseq ?_
  refine HT.block ?_
  refine HT.seq ?_
  refine HT.plain ?_
  refine sq (St.closed _ _ _ _) (q_eqs rfl rfl (r := false) (by kernel_rfl)) rfl ?_
  refine sq (St.closed _ _ _ _) (q_assign rfl) rfl ?_
  refine send ?_
  refine eseq ?_
  refine HT.no rfl ?_
  refine HT.seq ?_
  refine HT.plain ?_
  refine sq (St.closed _ _ _ _) (q_eqs rfl rfl (r := false) (by kernel_rfl)) rfl ?_
  refine sq (St.closed _ _ _ _) (q_assign rfl) rfl ?_
  refine send ?_
  refine eseq ?_
  refine HT.no rfl ?_
  refine HT.seq ?_
  refine HT.plain ?_
  refine sq (St.closed _ _ _ _) (q_eqs rfl rfl (r := true) (by kernel_rfl)) rfl ?_
  refine sq (St.closed _ _ _ _) (q_assign rfl) rfl ?_
  refine send ?_
  refine eseq ?_
  refine HT.yes rfl ?_
  refine HT.seq ?_
  refine HT.plain ?_
  refine sq (St.closed _ _ _ _) (q_move rfl) rfl ?_
  refine sq (St.closed _ _ _ _) (q_len (len := n) rfl Tryz.underlying22) rfl ?_
  refine sq (St.closed _ _ _ _) (q_F (q_lt (p := n) (q := 16) rfl rfl) (by omega)) rfl ?_
  refine sq (St.closed _ _ _ _) (q_move rfl) rfl ?_
  refine sgq (St.closed _ _ _ _) rfl (q_move rfl) rfl ?_
  refine sgq (St.closed _ _ _ _) rfl (q_call (vs := [(.slice A n c), (.int .i64 ((4 : Nat) : Int))]) (v := (.int .i64 ((bN bs 4 2 : Nat) : Int))) rfl ca_62 (fun w h => numberC w A n c bs 4 (by omega) (by omega) (St.enter (sp := []) (Kc := []) (bi := [0]) h rfl rfl rfl))) rfl ?_
  refine sgq (St.closed _ _ _ _) rfl (q_move rfl) rfl ?_
  refine sgq (St.closed _ _ _ _) rfl (q_len (len := n) rfl Tryz.underlying22) rfl ?_
  refine sgq (St.closed _ _ _ _) rfl (q_sub (p := n) (q := 6) rfl rfl (by omega) (show n < 9223372036854775808 by omega)) rfl ?_
  refine sgq (St.closed _ _ _ _) rfl (q_T (q_le (p := bN bs 4 2) (q := n - 6) rfl rfl) (by have := bN_lt bs 4 2 65536 rfl; omega)) rfl ?_
  refine sq (St.closed _ _ _ _) (q_pick rfl (fun h => nomatch h) (fun _ => rfl)) rfl ?_
  refine sq (St.closed _ _ _ _) (q_assign rfl) rfl ?_
  refine send ?_
  refine eseq ?_
  refine HT.ret ?_
  refine rt_in ?_
  refine rt_then ?_
  exact fun a ha w' hw => fin_ ha (res1 ha Tryz.results57 rfl) ⟨rfl, hw.pres⟩

theorem linuxsll_m1_2 (w : World) (A : Option Addr) (n : Nat) (c : Nat) (bs : List UInt8) (rb : Nat) (kb : Nat) (hn : n ≤ 400) (ha : 16 ≤ n) (hb : bN bs 4 2 ≤ 8) (hst : St w [rb] [⟨rb, 93, [some (.slice none 0 0), some (.slice none 0 0), some (.int .u16 ((0 : Nat) : Int)), some (.int .u16 ((0 : Nat) : Int)), some (.slice none 0 0), some (.int .u16 ((0 : Nat) : Int)), some (.int .u16 ((0 : Nat) : Int))], true⟩] [Byt A n c bs] w) : Calls Tryz.prog 95 #[(.pointer (some ⟨rb, 0, none⟩)), (.slice A n c), (.iface 199 (.pointer (some ⟨kb, 0, none⟩)))] w (CP0 w [rb] [Byt A n c bs] (.nilIface) ([⟨rb, 93, [some (.slice (cutA A c 0) (16 - 0) (c - 0)), some (.slice (cutA A c 16) (n - 16) (c - 16)), some (.int .u16 ((bN bs 0 2 : Nat) : Int)), some (.int .u16 ((bN bs 4 2 : Nat) : Int)), some (.slice (cutA A c 6) ((((bN bs 4 2) + 6) % 65536) - 6) (c - 6)), some (.int .u16 ((bN bs 14 2 : Nat) : Int)), some (.int .u16 ((bN bs 2 2 : Nat) : Int))], true⟩]) ([])) := by
  have hnc00 : n ≤ c := (hst.fact (j := 0) rfl).2.1
  refine enter (vs := [(.pointer (some ⟨rb, 0, none⟩)), (.slice A n c), (.iface 199 (.pointer (some ⟨kb, 0, none⟩)))]) Tryz.func95 rfl rfl rfl hst ?_
  refine HT.seq ?_
  refine HT.plain ?_
  refine sq (St.closed _ _ _ _) (q_assign rfl) rfl ?_
  refine send ?_
  refine eseq ?_
  refine HT.seq ?_
  refine HT.seq ?_
  refine HT.plain ?_
  refine sq (St.closed _ _ _ _) (q_move rfl) rfl ?_
  refine sq (St.closed _ _ _ _) (q_len (len := n) rfl Tryz.underlying22) rfl ?_
  refine sq (St.closed _ _ _ _) (q_F (q_lt (p := n) (q := 16) rfl rfl) (by omega)) rfl ?_
  refine send ?_
  refine eseq ?_
  refine HT.no rfl ?_
  refine HT.skip ?_
  refine eseq ?_
  refine HT.seq ?_
  refine HT.drawn mixed (St.closed _ _ _ _) (St w [rb] [⟨rb, 93, [some (.slice none 0 0), some (.slice none 0 0), none, some (.int .u16 ((0 : Nat) : Int)), some (.slice none 0 0), some (.int .u16 ((0 : Nat) : Int)), some (.int .u16 ((0 : Nat) : Int))], true⟩] [Byt A n c bs]) ?_
  refine dtake (f := 1) [0, 1, 2, 3, 4, 5, 6] (by kernel_rfl) (St.closed _ _ _ _) (fun _ h => (h.wk [(0, [2])] rfl)) (by kernel_rfl) ?_
  refine dq rfl (q_move rfl) ?_
  refine dq rfl (q_loadEmpty rfl aggs_210) ?_
  refine dq rfl (q_move rfl) ?_
  refine dq rfl (q_slice (lo := 0) (hi := 2) rfl Tryz.underlying22 nagg_5 (.inr ⟨_, _, rfl, rfl⟩) (.inr ⟨_, _, rfl, rfl⟩) (by omega) (by omega)) ?_
  refine dq rfl (q_call (vs := [(.agg #[]), (.slice (cutA A c 0) (2 - 0) (c - 0))]) (v := (.int .u16 ((bN bs 0 2 : Nat) : Int))) rfl ca_91 (fun w h => U16 w A n c bs (lo := 0) (hi := 2) (h.fact (j := 0) rfl) (by omega) (by omega))) ?_
  refine dq rfl (q_nil rfl) ?_
  refine dq rfl (q_field (b := rb) (off := 0) rfl fo_93_1) ?_
  refine QL.nil ?_
  refine RG.step1 7 (by kernel_rfl) ?_
  refine dop rfl (l_store (b := rb) (off := 2) (j := 0) rfl rfl nagg_90 rfl rfl rfl rfl (dlt rfl) ⟨(fun _ h => (h.wk [(0, [2])] rfl)), ?_⟩)
  refine dend (by kernel_rfl) ?_
  refine eseq ?_
  refine HT.seq ?_
  refine HT.drawn mixed (St.closed _ _ _ _) (St w [rb] [⟨rb, 93, [some (.slice none 0 0), some (.slice none 0 0), some (.int .u16 ((bN bs 0 2 : Nat) : Int)), some (.int .u16 ((0 : Nat) : Int)), some (.slice none 0 0), some (.int .u16 ((0 : Nat) : Int)), none], true⟩] [Byt A n c bs]) ?_
  refine dtake (f := 1) [0, 1, 2, 3, 4, 5, 6] (by kernel_rfl) (St.closed _ _ _ _) (fun _ h => (h.wk [(0, [6])] rfl)) (by kernel_rfl) ?_
  refine dq rfl (q_move rfl) ?_
  refine dq rfl (q_loadEmpty rfl aggs_210) ?_
  refine dq rfl (q_move rfl) ?_
  refine dq rfl (q_slice (lo := 2) (hi := 4) rfl Tryz.underlying22 nagg_5 (.inr ⟨_, _, rfl, rfl⟩) (.inr ⟨_, _, rfl, rfl⟩) (by omega) (by omega)) ?_
  refine dq rfl (q_call (vs := [(.agg #[]), (.slice (cutA A c 2) (4 - 2) (c - 2))]) (v := (.int .u16 ((bN bs 2 2 : Nat) : Int))) rfl ca_91 (fun w h => U16 w A n c bs (lo := 2) (hi := 4) (h.fact (j := 0) rfl) (by omega) (by omega))) ?_
  refine dq rfl (q_nil rfl) ?_
  refine dq rfl (q_field (b := rb) (off := 0) rfl fo_93_5) ?_
  refine QL.nil ?_
  refine RG.step1 7 (by kernel_rfl) ?_
  refine dop rfl (l_store (b := rb) (off := 6) (j := 0) rfl rfl nagg_70 rfl rfl rfl rfl (dlt rfl) ⟨(fun _ h => (h.wk [(0, [6])] rfl)), ?_⟩)
  refine dend (by kernel_rfl) ?_
  refine eseq ?_
  refine HT.seq ?_
  refine HT.drawn mixed (St.closed _ _ _ _) (St w [rb] [⟨rb, 93, [some (.slice none 0 0), some (.slice none 0 0), some (.int .u16 ((bN bs 0 2 : Nat) : Int)), none, some (.slice none 0 0), some (.int .u16 ((0 : Nat) : Int)), some (.int .u16 ((bN bs 2 2 : Nat) : Int))], true⟩] [Byt A n c bs]) ?_
  refine dtake (f := 1) [0, 1, 2, 3, 4, 5, 6] (by kernel_rfl) (St.closed _ _ _ _) (fun _ h => (h.wk [(0, [3])] rfl)) (by kernel_rfl) ?_
  refine dq rfl (q_move rfl) ?_
  refine dq rfl (q_loadEmpty rfl aggs_210) ?_
  refine dq rfl (q_move rfl) ?_
  refine dq rfl (q_slice (lo := 4) (hi := 6) rfl Tryz.underlying22 nagg_5 (.inr ⟨_, _, rfl, rfl⟩) (.inr ⟨_, _, rfl, rfl⟩) (by omega) (by omega)) ?_
  refine dq rfl (q_call (vs := [(.agg #[]), (.slice (cutA A c 4) (6 - 4) (c - 4))]) (v := (.int .u16 ((bN bs 4 2 : Nat) : Int))) rfl ca_91 (fun w h => U16 w A n c bs (lo := 4) (hi := 6) (h.fact (j := 0) rfl) (by omega) (by omega))) ?_
  refine dq rfl (q_nil rfl) ?_
  refine dq rfl (q_field (b := rb) (off := 0) rfl fo_93_2) ?_
  refine QL.nil ?_
  refine RG.step1 7 (by kernel_rfl) ?_
  refine dop rfl (l_store (b := rb) (off := 3) (j := 0) rfl rfl nagg_70 rfl rfl rfl rfl (dlt rfl) ⟨(fun _ h => (h.wk [(0, [3])] rfl)), ?_⟩)
  refine dend (by kernel_rfl) ?_
  refine eseq ?_
  refine HT.seq ?_
  refine HT.plain ?_
  refine sq (St.closed _ _ _ _) (q_move rfl) rfl ?_
  refine sq (St.closed _ _ _ _) (q_move rfl) rfl ?_
  refine sq (St.closed _ _ _ _) (q_move rfl) rfl ?_
  refine sq (St.closed _ _ _ _) (q_nil rfl) rfl ?_
  refine sq (St.closed _ _ _ _) (q_field (b := rb) (off := 0) rfl fo_93_2) rfl ?_
  refine sq (St.closed _ _ _ _) (q_load (b := rb) (off := 3) (j := 0) rfl nagg_70 (fun _ h => h) rfl rfl rfl) rfl ?_
  refine sq (St.closed _ _ _ _) (q_addw (p := bN bs 4 2) (q := 6) rfl rfl rfl) rfl ?_
  refine sq (St.closed _ _ _ _) (q_slice (lo := 6) (hi := ((bN bs 4 2) + 6) % 65536) rfl Tryz.underlying22 nagg_5 (.inr ⟨_, _, rfl, rfl⟩) (.inr ⟨_, _, rfl, rfl⟩) (by have := bN_lt bs 4 2 65536 rfl; omega) (by have := bN_lt bs 4 2 65536 rfl; omega)) rfl ?_
  refine sq (St.closed _ _ _ _) (q_nil rfl) rfl ?_
  refine sq (St.closed _ _ _ _) (q_field (b := rb) (off := 0) rfl fo_93_3) rfl ?_
  refine sl_ (l_store (b := rb) (off := 4) (j := 0) rfl rfl nagg_91 rfl rfl rfl rfl (dlt rfl) ?_)
  refine send ?_
  refine eseq ?_
  refine HT.seq ?_
  refine HT.drawn mixed (St.closed _ _ _ _) (St w [rb] [⟨rb, 93, [some (.slice none 0 0), some (.slice none 0 0), some (.int .u16 ((bN bs 0 2 : Nat) : Int)), some (.int .u16 ((bN bs 4 2 : Nat) : Int)), some (.slice (cutA A c 6) ((((bN bs 4 2) + 6) % 65536) - 6) (c - 6)), none, some (.int .u16 ((bN bs 2 2 : Nat) : Int))], true⟩] [Byt A n c bs]) ?_
  refine dtake (f := 1) [0, 1, 2, 3, 4, 5, 6] (by kernel_rfl) (St.closed _ _ _ _) (fun _ h => (h.wk [(0, [5])] rfl)) (by kernel_rfl) ?_
  refine dq rfl (q_move rfl) ?_
  refine dq rfl (q_loadEmpty rfl aggs_210) ?_
  refine dq rfl (q_move rfl) ?_
  refine dq rfl (q_slice (lo := 14) (hi := 16) rfl Tryz.underlying22 nagg_5 (.inr ⟨_, _, rfl, rfl⟩) (.inr ⟨_, _, rfl, rfl⟩) (by omega) (by omega)) ?_
  refine dq rfl (q_call (vs := [(.agg #[]), (.slice (cutA A c 14) (16 - 14) (c - 14))]) (v := (.int .u16 ((bN bs 14 2 : Nat) : Int))) rfl ca_91 (fun w h => U16 w A n c bs (lo := 14) (hi := 16) (h.fact (j := 0) rfl) (by omega) (by omega))) ?_
  refine dq rfl (q_nil rfl) ?_
  refine dq rfl (q_field (b := rb) (off := 0) rfl fo_93_4) ?_
  refine QL.nil ?_
  refine RG.step1 7 (by kernel_rfl) ?_
  refine dop rfl (l_store (b := rb) (off := 5) (j := 0) rfl rfl nagg_82 rfl rfl rfl rfl (dlt rfl) ⟨(fun _ h => (h.wk [(0, [5])] rfl)), ?_⟩)
  refine dend (by kernel_rfl) ?_
  refine eseq ?_
  refine HT.seq ?_
  refine HT.drawn mixed (St.closed _ _ _ _) (St w [rb] [⟨rb, 93, [none, none, some (.int .u16 ((bN bs 0 2 : Nat) : Int)), some (.int .u16 ((bN bs 4 2 : Nat) : Int)), some (.slice (cutA A c 6) ((((bN bs 4 2) + 6) % 65536) - 6) (c - 6)), some (.int .u16 ((bN bs 14 2 : Nat) : Int)), some (.int .u16 ((bN bs 2 2 : Nat) : Int))], true⟩] [Byt A n c bs]) ?_
  refine dtake (f := 1) [0, 1, 2, 3, 4, 5, 6, 7] (by kernel_rfl) (St.closed _ _ _ _) (fun _ h => (h.wk [(0, [0, 1])] rfl)) (by kernel_rfl) ?_
  refine dq rfl (q_move rfl) ?_
  refine dq rfl (q_move rfl) ?_
  refine dq rfl (q_slice (lo := 0) (hi := 16) rfl Tryz.underlying22 nagg_5 (.inl ⟨rfl, rfl⟩) (.inr ⟨_, _, rfl, rfl⟩) (by omega) (by omega)) ?_
  refine dq rfl (q_move rfl) ?_
  refine dq rfl (q_slice (lo := 16) (hi := n) rfl Tryz.underlying22 nagg_5 (.inr ⟨_, _, rfl, rfl⟩) (.inl ⟨rfl, rfl⟩) (by omega) (by omega)) ?_
  refine dq rfl (q_build (vs := [(0, (.slice (cutA A c 0) (16 - 0) (c - 0))), (1, (.slice (cutA A c 16) (n - 16) (c - 16)))]) (v := (.agg #[(.slice (cutA A c 0) (16 - 0) (c - 0)), (.slice (cutA A c 16) (n - 16) (c - 16))])) rfl (fun _ => by kernel_rfl)) ?_
  refine dq rfl (q_nil rfl) ?_
  refine dq rfl (q_field (b := rb) (off := 0) rfl fo_93_0) ?_
  refine QL.nil ?_
  refine RG.step1 8 (by kernel_rfl) ?_
  refine dop rfl (l_storeAgg (b := rb) (off := 0) (j := 0) (vs := [(.slice (cutA A c 0) (16 - 0) (c - 0)), (.slice (cutA A c 16) (n - 16) (c - 16))]) rfl rfl aggs_68 (by simp [Value.one1]) rfl rfl rfl (Nat.le_of_ble_eq_true rfl) ⟨(fun _ h => (h.wk [(0, [0, 1])] rfl)), ?_⟩)
  refine dend (by kernel_rfl) ?_
  refine eseq ?_
  refine HT.seq ?_
  refine HT.plain ?_
  refine sq (St.closed _ _ _ _) (q_assign rfl) rfl ?_
  refine send ?_
  refine eseq ?_
  refine HT.ret ?_
  exact fun a ha w' hw => fin_ ha (res1 ha Tryz.results95 rfl) ⟨rfl, hw, fr0⟩

theorem linuxsll_d2 (w : World) (A : Option Addr) (n : Nat) (c : Nat) (bs : List UInt8) (kb : Nat) (hn : n ≤ 400) (ha : 16 ≤ n) (hb : bN bs 4 2 ≤ 8) (hst : St w [kb] [⟨kb, 201, [some .nilIface], true⟩] [Byt A n c bs] w) : Calls Tryz.prog 73 #[(.slice A n c), (.iface 199 (.pointer (some ⟨kb, 0, none⟩)))] w (CP1 w [kb] [Byt A n c bs] (fun b8 => .nilIface) (fun b8 => [⟨kb, 201, [some (.iface 89 (.pointer (some ⟨b8, 0, none⟩)))], true⟩, ⟨b8, 93, [some (.slice (cutA A c 0) (16 - 0) (c - 0)), some (.slice (cutA A c 16) (n - 16) (c - 16)), some (.int .u16 ((bN bs 0 2 : Nat) : Int)), some (.int .u16 ((bN bs 4 2 : Nat) : Int)), some (.slice (cutA A c 6) ((((bN bs 4 2) + 6) % 65536) - 6) (c - 6)), some (.int .u16 ((bN bs 14 2 : Nat) : Int)), some (.int .u16 ((bN bs 2 2 : Nat) : Int))], true⟩]) (fun b8 => [])) := by
  have hnc00 : n ≤ c := (hst.fact (j := 0) rfl).2.1
  refine enter (vs := [(.slice A n c), (.iface 199 (.pointer (some ⟨kb, 0, none⟩)))]) Tryz.func73 rfl rfl rfl hst ?_
  refine HT.seq ?_
  refine HT.plain ?_
  refine sq (St.closed _ _ _ _) (q_assign rfl) rfl ?_
  refine send ?_
  refine eseq ?_
  refine HT.seq ?_
  refine HT.plain ?_
  refine sq (St.closed _ _ _ _) (q_build (vs := []) (v := (.agg #[(.slice none 0 0), (.slice none 0 0), (.int .u16 ((0 : Nat) : Int)), (.int .u16 ((0 : Nat) : Int)), (.slice none 0 0), (.int .u16 ((0 : Nat) : Int)), (.int .u16 ((0 : Nat) : Int))])) rfl (fun _ => by kernel_rfl)) rfl ?_
  refine sl_ (l_box (by decide) rfl fun b8 => ?_)
  refine sq (St.closed _ _ _ _) (q_assign rfl) rfl ?_
  refine send ?_
  refine eseq ?_
  refine HT.seq ?_
  refine HT.seq ?_
  refine HT.plain ?_
  refine sq (St.closed _ _ _ _) (q_move rfl) rfl ?_
  refine sq (St.closed _ _ _ _) (q_move rfl) rfl ?_
  refine sq (St.closed _ _ _ _) (q_move rfl) rfl ?_
  refine sl_ (l_callX0 (vs := [(.pointer (some ⟨b8, 0, none⟩)), (.slice A n c), (.iface 199 (.pointer (some ⟨kb, 0, none⟩)))]) (Kc := [⟨b8, 93, [some (.slice none 0 0), some (.slice none 0 0), some (.int .u16 ((0 : Nat) : Int)), some (.int .u16 ((0 : Nat) : Int)), some (.slice none 0 0), some (.int .u16 ((0 : Nat) : Int)), some (.int .u16 ((0 : Nat) : Int))], true⟩]) (Bc := [Byt A n c bs]) [1] [0] [Byt A n c bs] ([⟨kb, 201, [some .nilIface], true⟩, ⟨b8, 93, [some (.slice (cutA A c 0) (16 - 0) (c - 0)), some (.slice (cutA A c 16) (n - 16) (c - 16)), some (.int .u16 ((bN bs 0 2 : Nat) : Int)), some (.int .u16 ((bN bs 4 2 : Nat) : Int)), some (.slice (cutA A c 6) ((((bN bs 4 2) + 6) % 65536) - 6) (c - 6)), some (.int .u16 ((bN bs 14 2 : Nat) : Int)), some (.int .u16 ((bN bs 2 2 : Nat) : Int))], true⟩]) ([Byt A n c bs]) (by decide) rfl ca_95 (fun _ h => h) rfl rfl rfl rfl (fun w h => linuxsll_m1_2 w A n c bs b8 kb (by omega) (by omega) (by omega) h) rfl rfl rfl rfl fun hf1 he2 => ?_)
  refine sq (St.closed _ _ _ _) (q_assign rfl) rfl ?_
  refine send ?_
  refine eseq ?_
  refine HT.seq ?_
  refine HT.plain ?_
  refine sq (St.closed _ _ _ _) (q_move rfl) rfl ?_
  refine sq (St.closed _ _ _ _) (q_notNil rfl rfl Tryz.underlying59) rfl ?_
  refine send ?_
  refine eseq ?_
  refine HT.no rfl ?_
  refine HT.skip ?_
  refine eseq ?_
  refine HT.seq ?_
  refine HT.plain ?_
  refine sq (St.closed _ _ _ _) (q_move rfl) rfl ?_
  refine sq (St.closed _ _ _ _) (q_move rfl) rfl ?_
  refine sq (St.closed _ _ _ _) (q_iface rfl Tryz.underlying89 (fun _ h => nomatch h)) rfl ?_
  refine sl_ (l_invX0 (vs := [(.iface 89 (.pointer (some ⟨b8, 0, none⟩)))]) (Kc := [⟨kb, 201, [some .nilIface], true⟩]) (Bc := []) [0] [] [Byt A n c bs] ([⟨b8, 93, [some (.slice (cutA A c 0) (16 - 0) (c - 0)), some (.slice (cutA A c 16) (n - 16) (c - 16)), some (.int .u16 ((bN bs 0 2 : Nat) : Int)), some (.int .u16 ((bN bs 4 2 : Nat) : Int)), some (.slice (cutA A c 6) ((((bN bs 4 2) + 6) % 65536) - 6) (c - 6)), some (.int .u16 ((bN bs 14 2 : Nat) : Int)), some (.int .u16 ((bN bs 2 2 : Nat) : Int))], true⟩, ⟨kb, 201, [some (.iface 89 (.pointer (some ⟨b8, 0, none⟩)))], true⟩]) ([Byt A n c bs]) (by decide) rfl (fun w => me_199_AddLayer _ w) rfl ca_166 (fun _ h => h) rfl rfl rfl rfl (fun w h => addLayer w kb 89 b8  h) rfl rfl rfl rfl fun hf3 he4 => ?_)
  refine send ?_
  refine eseq ?_
  refine HT.seq ?_
  refine HT.plain ?_
  refine sq (St.closed _ _ _ _) (q_assign rfl) rfl ?_
  refine send ?_
  refine eseq ?_
  refine HT.ret ?_
  exact fun a ha w' hw => fin_ ha (res1 ha Tryz.results73 rfl) ⟨b8, rfl, (hw.wk [(1, []), (0, [])] rfl), fr0⟩

theorem linuxsll_z2 (w : World) (A : Option Addr) (n : Nat) (c : Nat) (bs : List UInt8) (hn : n ≤ 400) (ha : 16 ≤ n) (hb : bN bs 4 2 ≤ 8) (hst : St w [] [] [Byt A n c bs] w) : Calls Tryz.prog 58 #[(.string ⟨#[108, 105, 110, 117, 120, 115, 108, 108]⟩), (.slice A n c)] w (CP1 w [] [Byt A n c bs] (fun b8 => (.tuple #[(.iface 89 (.pointer (some ⟨b8, 0, none⟩))), .nilIface])) (fun b8 => [⟨b8, 93, [some (.slice (cutA A c 0) (16 - 0) (c - 0)), some (.slice (cutA A c 16) (n - 16) (c - 16)), some (.int .u16 ((bN bs 0 2 : Nat) : Int)), some (.int .u16 ((bN bs 4 2 : Nat) : Int)), some (.slice (cutA A c 6) ((((bN bs 4 2) + 6) % 65536) - 6) (c - 6)), some (.int .u16 ((bN bs 14 2 : Nat) : Int)), some (.int .u16 ((bN bs 2 2 : Nat) : Int))], true⟩]) (fun b8 => [])) := by
  have hnc00 : n ≤ c := (hst.fact (j := 0) rfl).2.1
  refine enter (vs := [(.string ⟨#[108, 105, 110, 117, 120, 115, 108, 108]⟩), (.slice A n c)]) Tryz.func58 rfl rfl rfl hst ?_
  refine HT.seq ?_
  refine HT.plain ?_
  refine sq (St.closed _ _ _ _) (q_assign rfl) rfl ?_
  refine sq (St.closed _ _ _ _) (q_assign rfl) rfl ?_
  refine send ?_
  refine eseq ?_
  refine HT.seq ?_
  refine HT.plain ?_
  refine sq (St.closed _ _ _ _) (q_build (vs := []) (v := (.agg #[.nilIface])) rfl (fun _ => by kernel_rfl)) rfl ?_
  refine sl_ (l_box (by decide) rfl fun b9 => ?_)
  refine sq (St.closed _ _ _ _) (q_assign rfl) rfl ?_
  refine send ?_
  refine eseq ?_
  refine HT.seq ?_
  refine HT.plain ?_
  refine sl_ (l_callX1 (vs := [(.string ⟨#[110, 111, 32, 107, 105, 110, 100]⟩)]) (Kc := []) (Bc := []) [] [] [Byt A n c bs] (fun b5 => [⟨b9, 201, [some .nilIface], true⟩, ⟨b5, 206, [some (.string (⟨#[110, 111, 32, 107, 105, 110, 100]⟩))], true⟩]) (fun b5 => [Byt A n c bs]) (by decide) rfl ca_67 (fun _ h => h) rfl rfl rfl rfl (fun w h => errNew w (⟨#[110, 111, 32, 107, 105, 110, 100]⟩)  h) (fun _ => rfl) (fun _ => rfl) (fun _ => rfl) (fun _ => rfl) fun b5 hf1 he2 => ?_)
  refine sq (St.closed _ _ _ _) (q_assign rfl) rfl ?_
  refine send ?_
  refine eseq ?_
  refine HT.seq ?_
  refine HT.seq ?_
  refine HT.plain ?_
  refine sq (St.closed _ _ _ _) (q_move rfl) rfl ?_
  refine send ?_
  refine eseq ?_
  refine HT.block ?_
  refine HT.seq ?_
  refine HT.plain ?_
  refine sq (St.closed _ _ _ _) (q_eqs rfl rfl (r := false) (by kernel_rfl)) rfl ?_
  refine sq (St.closed _ _ _ _) (q_assign rfl) rfl ?_
  refine send ?_
  refine eseq ?_
  refine HT.no rfl ?_
  refine HT.seq ?_
  refine HT.plain ?_
  refine sq (St.closed _ _ _ _) (q_eqs rfl rfl (r := false) (by kernel_rfl)) rfl ?_
  refine sq (St.closed _ _ _ _) (q_assign rfl) rfl ?_
  refine send ?_
  refine eseq ?_
  refine HT.no rfl ?_
  refine HT.seq ?_
  refine HT.plain ?_
  refine sq (St.closed _ _ _ _) (q_eqs rfl rfl (r := false) (by kernel_rfl)) rfl ?_
  refine sq (St.closed _ _ _ _) (q_assign rfl) rfl ?_
  refine send ?_
  refine eseq ?_
  refine HT.no rfl ?_
  refine HT.seq ?_
  refine HT.plain ?_
  refine sq (St.closed _ _ _ _) (q_eqs rfl rfl (r := false) (by kernel_rfl)) rfl ?_
  refine sq (St.closed _ _ _ _) (q_assign rfl) rfl ?_
  refine send ?_
  refine eseq ?_
  refine HT.no rfl ?_
  refine HT.seq ?_
  refine HT.plain ?_
  refine sq (St.closed _ _ _ _) (q_eqs rfl rfl (r := false) (by kernel_rfl)) rfl ?_
  refine sq (St.closed _ _ _ _) (q_assign rfl) rfl ?_
  refine send ?_
  refine eseq ?_
  refine HT.no rfl ?_
  refine HT.seq ?_
  refine HT.plain ?_
  refine sq (St.closed _ _ _ _) (q_eqs rfl rfl (r := true) (by kernel_rfl)) rfl ?_
  refine sq (St.closed _ _ _ _) (q_assign rfl) rfl ?_
  refine send ?_
  refine eseq ?_
  refine HT.yes rfl ?_
  refine HT.plain ?_
  refine sq (St.closed _ _ _ _) (q_move rfl) rfl ?_
  refine sq (St.closed _ _ _ _) (q_move rfl) rfl ?_
  refine sq (St.closed _ _ _ _) (q_iface rfl Tryz.underlying199 (fun _ h => nomatch h)) rfl ?_
  refine sl_ (l_callX1 (vs := [(.slice A n c), (.iface 199 (.pointer (some ⟨b9, 0, none⟩)))]) (Kc := [⟨b9, 201, [some .nilIface], true⟩]) (Bc := [Byt A n c bs]) [0] [0] [Byt A n c bs] (fun b8 => [⟨b5, 206, [some (.string (⟨#[110, 111, 32, 107, 105, 110, 100]⟩))], true⟩, ⟨b9, 201, [some (.iface 89 (.pointer (some ⟨b8, 0, none⟩)))], true⟩, ⟨b8, 93, [some (.slice (cutA A c 0) (16 - 0) (c - 0)), some (.slice (cutA A c 16) (n - 16) (c - 16)), some (.int .u16 ((bN bs 0 2 : Nat) : Int)), some (.int .u16 ((bN bs 4 2 : Nat) : Int)), some (.slice (cutA A c 6) ((((bN bs 4 2) + 6) % 65536) - 6) (c - 6)), some (.int .u16 ((bN bs 14 2 : Nat) : Int)), some (.int .u16 ((bN bs 2 2 : Nat) : Int))], true⟩]) (fun b8 => [Byt A n c bs]) (by decide) rfl ca_73 (fun _ h => h) rfl rfl rfl rfl (fun w h => linuxsll_d2 w A n c bs b9 (by omega) (by omega) (by omega) h) (fun _ => rfl) (fun _ => rfl) (fun _ => rfl) (fun _ => rfl) fun b8 hf3 he4 => ?_)
  refine sq (St.closed _ _ _ _) (q_assign rfl) rfl ?_
  refine send ?_
  refine ein ?_
  refine eseq ?_
  refine HT.seq ?_
  refine HT.seq ?_
  refine HT.plain ?_
  refine sq (St.closed _ _ _ _) (q_move rfl) rfl ?_
  refine sq (St.closed _ _ _ _) (q_notNil rfl rfl Tryz.underlying59) rfl ?_
  refine send ?_
  refine eseq ?_
  refine HT.no rfl ?_
  refine HT.skip ?_
  refine eseq ?_
  refine HT.seq ?_
  refine HT.plain ?_
  refine sq (St.closed _ _ _ _) (q_move rfl) rfl ?_
  refine sq (St.closed _ _ _ _) (q_nil rfl) rfl ?_
  refine sq (St.closed _ _ _ _) (q_field (b := b9) (off := 0) rfl fo_201_0) rfl ?_
  refine sq (St.closed _ _ _ _) (q_load (b := b9) (off := 0) (j := 1) rfl nagg_43 (fun _ h => h) rfl rfl rfl) rfl ?_
  refine sq (St.closed _ _ _ _) (q_assign rfl) rfl ?_
  refine sq (St.closed _ _ _ _) (q_assign rfl) rfl ?_
  refine send ?_
  refine eseq ?_
  refine HT.ret ?_
  exact fun a ha w' hw => fin_ ha (res2 ha Tryz.results58 rfl rfl) ⟨b8, rfl, (hw.wk [(2, [])] rfl), fr0⟩

theorem linuxsll_e2 (w : World) (A : Option Addr) (n : Nat) (c : Nat) (bs : List UInt8) (hn : n ≤ 400) (ha : 16 ≤ n) (hb : bN bs 4 2 ≤ 8) (hst : St w [] [] [Byt A n c bs] w) : Calls Tryz.prog 46 #[(.string ⟨#[108, 105, 110, 117, 120, 115, 108, 108]⟩), (.slice A n c)] w (CP3 w [] [Byt A n c bs] (fun b8 A5 c5 => (.tuple #[(.iface 89 (.pointer (some ⟨b8, 0, none⟩))), (.bool true)])) (fun b8 A5 c5 => [⟨b8, 93, [some (.slice (cutA A5 c5 0) (16 - 0) (c5 - 0)), some (.slice (cutA A5 c5 16) (n - 16) (c5 - 16)), some (.int .u16 ((bN bs 0 2 : Nat) : Int)), some (.int .u16 ((bN bs 4 2 : Nat) : Int)), some (.slice (cutA A5 c5 6) ((((bN bs 4 2) + 6) % 65536) - 6) (c5 - 6)), some (.int .u16 ((bN bs 14 2 : Nat) : Int)), some (.int .u16 ((bN bs 2 2 : Nat) : Int))], true⟩]) (fun b8 A5 c5 => [Byt A5 n c5 bs])) := by
  have hnc00 : n ≤ c := (hst.fact (j := 0) rfl).2.1
  refine enter (vs := [(.string ⟨#[108, 105, 110, 117, 120, 115, 108, 108]⟩), (.slice A n c)]) Tryz.func46 rfl rfl rfl hst ?_
  refine HT.seq ?_
  refine HT.plain ?_
  refine sq (St.closed _ _ _ _) (q_assign rfl) rfl ?_
  refine sq (St.closed _ _ _ _) (q_assign rfl) rfl ?_
  refine send ?_
  refine eseq ?_
  refine HT.seq ?_
  refine HT.seq ?_
  refine HT.plain ?_
  refine sq (St.closed _ _ _ _) (q_move rfl) rfl ?_
  refine sq (St.closed _ _ _ _) (q_len (len := n) rfl Tryz.underlying22) rfl ?_
  refine sq (St.closed _ _ _ _) (q_F (q_gt (p := n) (q := 2000) rfl rfl) (by omega)) rfl ?_
  refine send ?_
  refine eseq ?_
  refine HT.no rfl ?_
  refine HT.skip ?_
  refine eseq ?_
  refine HT.seq ?_
  refine HT.plain ?_
  refine sq (St.closed _ _ _ _) (q_move rfl) rfl ?_
  refine sq (St.closed _ _ _ _) (q_assign rfl) rfl ?_
  refine send ?_
  refine eseq ?_
  refine HT.seq ?_
  refine HT.seq ?_
  refine HT.plain ?_
  refine sq (St.closed _ _ _ _) (q_move rfl) rfl ?_
  refine sq (St.closed _ _ _ _) (q_eqs rfl rfl (r := false) (by kernel_rfl)) rfl ?_
  refine sq (St.closed _ _ _ _) (q_move rfl) rfl ?_
  refine sgq (St.closed _ _ _ _) rfl (q_move rfl) rfl ?_
  refine sgq (St.closed _ _ _ _) rfl (q_eqs rfl rfl (r := false) (by kernel_rfl)) rfl ?_
  refine sq (St.closed _ _ _ _) (q_pick rfl (fun h => nomatch h) (fun _ => rfl)) rfl ?_
  refine send ?_
  refine eseq ?_
  refine HT.no rfl ?_
  refine HT.seq ?_
  refine HT.plain ?_
  refine sq (St.closed _ _ _ _) (q_move rfl) rfl ?_
  refine sq (St.closed _ _ _ _) (q_eqs rfl rfl (r := false) (by kernel_rfl)) rfl ?_
  refine send ?_
  refine eseq ?_
  refine HT.no rfl ?_
  refine HT.skip ?_
  refine eseq ?_
  refine HT.seq ?_
  refine HT.seq ?_
  refine HT.plain ?_
  refine sq (St.closed _ _ _ _) (q_move rfl) rfl ?_
  refine sq (St.closed _ _ _ _) (q_move rfl) rfl ?_
  refine sq (St.closed _ _ _ _) (q_call (vs := [(.string ⟨#[108, 105, 110, 117, 120, 115, 108, 108]⟩), (.slice A n c)]) (v := (.bool true)) rfl ca_57 (fun w h => linuxsll_c2 w A n c bs (by omega) (by omega) (by omega) (St.enter (sp := []) (Kc := []) (bi := [0]) h rfl rfl rfl))) rfl ?_
  refine sq (St.closed _ _ _ _) (q_not rfl) rfl ?_
  refine send ?_
  refine eseq ?_
  refine HT.no rfl ?_
  refine HT.skip ?_
  refine eseq ?_
  refine HT.seq ?_
  refine HT.plain ?_
  refine sq (St.closed _ _ _ _) (q_move rfl) rfl ?_
  refine sq (St.closed _ _ _ _) (q_move rfl) rfl ?_
  refine sl_ (l_callX2 (vs := [(.slice A n c)]) (Kc := []) (Bc := [Byt A n c bs]) [] [0] [Byt A n c bs] (fun A5 c5 => []) (fun A5 c5 => [Byt A n c bs, Byt A5 n c5 bs]) (by decide) rfl ca_59 (fun _ h => h) rfl rfl rfl rfl (fun w h => Clone w A n c bs (by omega) h) (fun _ _ => rfl) (fun _ _ => rfl) (fun _ _ => rfl) (fun _ _ => rfl) fun A5 c5 hf1 he2 => ?_)
  have hnc3 : n ≤ c5 := by obtain ⟨w, h⟩ := he2; exact (h _ List.mem_cons_self).2.1
  refine sl_ (l_callX1 (vs := [(.string ⟨#[108, 105, 110, 117, 120, 115, 108, 108]⟩), (.slice A5 n c5)]) (Kc := []) (Bc := [Byt A5 n c5 bs]) [] [1] [Byt A n c bs, Byt A5 n c5 bs] (fun b8 => [⟨b8, 93, [some (.slice (cutA A5 c5 0) (16 - 0) (c5 - 0)), some (.slice (cutA A5 c5 16) (n - 16) (c5 - 16)), some (.int .u16 ((bN bs 0 2 : Nat) : Int)), some (.int .u16 ((bN bs 4 2 : Nat) : Int)), some (.slice (cutA A5 c5 6) ((((bN bs 4 2) + 6) % 65536) - 6) (c5 - 6)), some (.int .u16 ((bN bs 14 2 : Nat) : Int)), some (.int .u16 ((bN bs 2 2 : Nat) : Int))], true⟩]) (fun b8 => [Byt A n c bs, Byt A5 n c5 bs]) (by decide) rfl ca_58 (fun _ h => h) rfl rfl rfl rfl (fun w h => linuxsll_z2 w A5 n c5 bs (by omega) (by omega) (by omega) h) (fun _ => rfl) (fun _ => rfl) (fun _ => rfl) (fun _ => rfl) fun b8 hf4 he5 => ?_)
  refine sq (St.closed _ _ _ _) (q_move rfl) rfl ?_
  refine sq (St.closed _ _ _ _) (q_extract (vs := [(.iface 89 (.pointer (some ⟨b8, 0, none⟩))), .nilIface]) (i := 0) rfl rfl) rfl ?_
  refine sq (St.closed _ _ _ _) (q_extract (vs := [(.iface 89 (.pointer (some ⟨b8, 0, none⟩))), .nilIface]) (i := 1) rfl rfl) rfl ?_
  refine sq (St.closed _ _ _ _) (q_assign rfl) rfl ?_
  refine sq (St.closed _ _ _ _) (q_assign rfl) rfl ?_
  refine send ?_
  refine eseq ?_
  refine HT.seq ?_
  refine HT.seq ?_
  refine HT.plain ?_
  refine sq (St.closed _ _ _ _) (q_move rfl) rfl ?_
  refine sq (St.closed _ _ _ _) (q_notNil rfl rfl Tryz.underlying59) rfl ?_
  refine sq (St.closed _ _ _ _) (q_move rfl) rfl ?_
  refine sgq (St.closed _ _ _ _) rfl (q_move rfl) rfl ?_
  refine sgq (St.closed _ _ _ _) rfl (q_isNil' rfl rfl Tryz.underlying43) rfl ?_
  refine sq (St.closed _ _ _ _) (q_pick rfl (fun h => nomatch h) (fun _ => rfl)) rfl ?_
  refine send ?_
  refine eseq ?_
  refine HT.no rfl ?_
  refine HT.skip ?_
  refine eseq ?_
  refine HT.seq ?_
  refine HT.seq ?_
  refine HT.plain ?_
  refine sq (St.closed _ _ _ _) (q_move rfl) rfl ?_
  refine sq (St.closed _ _ _ _) (q_isnt (T := 89) (z := (.pointer none)) rfl Tryz.underlying63 (fun _ h => nomatch h) (by decide) zero_63) rfl ?_
  refine sq (St.closed _ _ _ _) (q_move rfl) rfl ?_
  refine sq (St.closed _ _ _ _) (q_extract (vs := [(.pointer none), (.bool false)]) (i := 0) rfl rfl) rfl ?_
  refine sq (St.closed _ _ _ _) (q_extract (vs := [(.pointer none), (.bool false)]) (i := 1) rfl rfl) rfl ?_
  refine sq (St.closed _ _ _ _) (q_assign rfl) rfl ?_
  refine sq (St.closed _ _ _ _) (q_assign rfl) rfl ?_
  refine send ?_
  refine eseq ?_
  refine HT.seq ?_
  refine HT.plain ?_
  refine sq (St.closed _ _ _ _) (q_move rfl) rfl ?_
  refine sq (St.closed _ _ _ _) (q_move rfl) rfl ?_
  refine sq (St.closed _ _ _ _) (q_eqs rfl rfl (r := false) (by kernel_rfl)) rfl ?_
  refine sq (St.closed _ _ _ _) (q_neb rfl rfl Tryz.underlying4) rfl ?_
  refine sq (St.closed _ _ _ _) (q_move rfl) rfl ?_
  refine sskip rfl rfl ?_
  refine sskip rfl rfl ?_
  refine sq (St.closed _ _ _ _) (q_pick rfl (fun h => nomatch h) (fun _ => rfl)) rfl ?_
  refine send ?_
  refine eseq ?_
  refine HT.no rfl ?_
  refine HT.skip ?_
  refine eseq ?_
  refine HT.seq ?_
  refine HT.plain ?_
  refine sq (St.closed _ _ _ _) (q_move rfl) rfl ?_
  refine sq (St.closed _ _ _ _) (q_assign rfl) rfl ?_
  refine sq (St.closed _ _ _ _) (q_assign rfl) rfl ?_
  refine send ?_
  refine eseq ?_
  refine HT.ret ?_
  exact fun a ha w' hw => fin_ ha (res2 ha Tryz.results46 rfl rfl) ⟨b8, A5, c5, rfl, hw, (fr1 (hf1 _ List.mem_cons_self) fr0)⟩

theorem linuxsll_t2 (w : World) (A5 : Option Addr) (n : Nat) (c5 : Nat) (bs : List UInt8) (b8 : Nat) (hn : n ≤ 400) (ha : 16 ≤ n) (hb : bN bs 4 2 ≤ 8) (hst : St w [] [⟨b8, 93, [some (.slice (cutA A5 c5 0) (16 - 0) (c5 - 0)), some (.slice (cutA A5 c5 16) (n - 16) (c5 - 16)), some (.int .u16 ((bN bs 0 2 : Nat) : Int)), some (.int .u16 ((bN bs 4 2 : Nat) : Int)), some (.slice (cutA A5 c5 6) ((((bN bs 4 2) + 6) % 65536) - 6) (c5 - 6)), some (.int .u16 ((bN bs 14 2 : Nat) : Int)), some (.int .u16 ((bN bs 2 2 : Nat) : Int))], false⟩] [Byt A5 n c5 bs] w) : Calls Tryz.prog 47 #[(.iface 89 (.pointer (some ⟨b8, 0, none⟩))), (.slice (cutA A5 c5 16) (n - 16) (c5 - 16))] w (IP w (Byt A5 n c5 bs) (some (some ⟨[bN bs 0 2, bN bs 4 2, bN bs 14 2, bN bs 2 2], [sl bs 6 (6 + (bN bs 4 2))], [], sl bs 16 n⟩))) := by
  have hnc00 : n ≤ c5 := (hst.fact (j := 0) rfl).2.1
  refine enter (vs := [(.iface 89 (.pointer (some ⟨b8, 0, none⟩))), (.slice (cutA A5 c5 16) (n - 16) (c5 - 16))]) Tryz.func47 rfl rfl rfl hst ?_
  refine HT.seq ?_
  refine HT.plain ?_
  refine sl_ (l_alloc (by decide) zero_29 fun b4 => ?_)
  refine sq (St.closed _ _ _ _) (q_assign rfl) rfl ?_
  refine send ?_
  refine eseq ?_
  refine HT.seq ?_
  refine HT.plain ?_
  refine sq (St.closed _ _ _ _) (q_move rfl) rfl ?_
  refine sl_ (l_callX2 (vs := [(.slice (cutA A5 c5 16) (n - 16) (c5 - 16))]) (Kc := []) (Bc := [Byt (cutA A5 c5 16) (n - 16) (c5 - 16) (sl bs 16 n)]) [] [1] [Byt A5 n c5 bs, Byt (cutA A5 c5 16) (n - 16) (c5 - 16) (sl bs 16 n)] (fun A5_1 c5_1 => [⟨b8, 93, [some (.slice (cutA A5 c5 0) (16 - 0) (c5 - 0)), some (.slice (cutA A5 c5 16) (n - 16) (c5 - 16)), some (.int .u16 ((bN bs 0 2 : Nat) : Int)), some (.int .u16 ((bN bs 4 2 : Nat) : Int)), some (.slice (cutA A5 c5 6) ((((bN bs 4 2) + 6) % 65536) - 6) (c5 - 6)), some (.int .u16 ((bN bs 14 2 : Nat) : Int)), some (.int .u16 ((bN bs 2 2 : Nat) : Int))], false⟩, ⟨b4, 29, [some (.slice none 0 0), some (.slice none 0 0), some (.slice none 0 0), some (.slice none 0 0)], true⟩]) (fun A5_1 c5_1 => [Byt A5 n c5 bs, Byt A5_1 (n - 16) c5_1 (sl bs 16 n)]) (by decide) rfl ca_60 (fun _ h => (h.cut (j := 0) (lo := 16) (hi := n) rfl (by omega) (by omega))) rfl rfl rfl rfl (fun w h => clone w (cutA A5 c5 16) (n - 16) (c5 - 16) (sl bs 16 n) (by omega) h) (fun _ _ => rfl) (fun _ _ => rfl) (fun _ _ => rfl) (fun _ _ => rfl) fun A5_1 c5_1 hf1 he2 => ?_)
  have hnc3 : (n - 16) ≤ c5_1 := by obtain ⟨w, h⟩ := he2; exact (h _ List.mem_cons_self).2.1
  refine sq (St.closed _ _ _ _) (q_build (vs := [(3, (.slice A5_1 (n - 16) c5_1))]) (v := (.agg #[(.slice none 0 0), (.slice none 0 0), (.slice none 0 0), (.slice A5_1 (n - 16) c5_1)])) rfl (fun _ => by kernel_rfl)) rfl ?_
  refine sl_ (l_box (by decide) rfl fun b50 => ?_)
  refine sq (St.closed _ _ _ _) (q_assign rfl) rfl ?_
  refine send ?_
  refine eseq ?_
  refine HT.seq ?_
  refine HT.seq ?_
  refine HT.plain ?_
  refine sq (St.closed _ _ _ _) (q_move rfl) rfl ?_
  refine send ?_
  refine eseq ?_
  refine HT.block ?_
  refine HT.seq ?_
  refine HT.plain ?_
  refine sq (St.closed _ _ _ _) (q_isnt (T := 89) (z := (.pointer none)) rfl Tryz.underlying66 (fun _ h => nomatch h) (by decide) zero_66) rfl ?_
  refine sq (St.closed _ _ _ _) (q_extract (vs := [(.pointer none), (.bool false)]) (i := 1) rfl rfl) rfl ?_
  refine sq (St.closed _ _ _ _) (q_extract (vs := [(.pointer none), (.bool false)]) (i := 0) rfl rfl) rfl ?_
  refine send ?_
  refine eseq ?_
  refine HT.no rfl ?_
  refine HT.seq ?_
  refine HT.plain ?_
  refine sq (St.closed _ _ _ _) (q_isnt (T := 89) (z := (.pointer none)) rfl Tryz.underlying73 (fun _ h => nomatch h) (by decide) zero_73) rfl ?_
  refine sq (St.closed _ _ _ _) (q_extract (vs := [(.pointer none), (.bool false)]) (i := 1) rfl rfl) rfl ?_
  refine sq (St.closed _ _ _ _) (q_extract (vs := [(.pointer none), (.bool false)]) (i := 0) rfl rfl) rfl ?_
  refine send ?_
  refine eseq ?_
  refine HT.no rfl ?_
  refine HT.seq ?_
  refine HT.plain ?_
  refine sq (St.closed _ _ _ _) (q_isnt (T := 89) (z := (.pointer none)) rfl Tryz.underlying78 (fun _ h => nomatch h) (by decide) zero_78) rfl ?_
  refine sq (St.closed _ _ _ _) (q_extract (vs := [(.pointer none), (.bool false)]) (i := 1) rfl rfl) rfl ?_
  refine sq (St.closed _ _ _ _) (q_extract (vs := [(.pointer none), (.bool false)]) (i := 0) rfl rfl) rfl ?_
  refine send ?_
  refine eseq ?_
  refine HT.no rfl ?_
  refine HT.seq ?_
  refine HT.plain ?_
  refine sq (St.closed _ _ _ _) (q_isnt (T := 89) (z := (.pointer none)) rfl Tryz.underlying81 (fun _ h => nomatch h) (by decide) zero_81) rfl ?_
  refine sq (St.closed _ _ _ _) (q_extract (vs := [(.pointer none), (.bool false)]) (i := 1) rfl rfl) rfl ?_
  refine sq (St.closed _ _ _ _) (q_extract (vs := [(.pointer none), (.bool false)]) (i := 0) rfl rfl) rfl ?_
  refine send ?_
  refine eseq ?_
  refine HT.no rfl ?_
  refine HT.seq ?_
  refine HT.plain ?_
  refine sq (St.closed _ _ _ _) (q_isnt (T := 89) (z := (.pointer none)) rfl Tryz.underlying85 (fun _ h => nomatch h) (by decide) zero_85) rfl ?_
  refine sq (St.closed _ _ _ _) (q_extract (vs := [(.pointer none), (.bool false)]) (i := 1) rfl rfl) rfl ?_
  refine sq (St.closed _ _ _ _) (q_extract (vs := [(.pointer none), (.bool false)]) (i := 0) rfl rfl) rfl ?_
  refine send ?_
  refine eseq ?_
  refine HT.no rfl ?_
  refine HT.seq ?_
  refine HT.plain ?_
  refine sq (St.closed _ _ _ _) (q_is rfl Tryz.underlying89 (fun _ h => nomatch h)) rfl ?_
  refine sq (St.closed _ _ _ _) (q_extract (vs := [(.pointer (some ⟨b8, 0, none⟩)), (.bool true)]) (i := 1) rfl rfl) rfl ?_
  refine sq (St.closed _ _ _ _) (q_extract (vs := [(.pointer (some ⟨b8, 0, none⟩)), (.bool true)]) (i := 0) rfl rfl) rfl ?_
  refine send ?_
  refine eseq ?_
  refine HT.yes rfl ?_
  refine HT.seq ?_
  refine HT.plain ?_
  refine sq (St.closed _ _ _ _) (q_assign rfl) rfl ?_
  refine send ?_
  refine eseq ?_
  refine HT.seq ?_
  refine HT.drawn mixed (St.closed _ _ _ _) (St w [] [⟨b8, 93, [some (.slice (cutA A5 c5 0) (16 - 0) (c5 - 0)), some (.slice (cutA A5 c5 16) (n - 16) (c5 - 16)), some (.int .u16 ((bN bs 0 2 : Nat) : Int)), some (.int .u16 ((bN bs 4 2 : Nat) : Int)), some (.slice (cutA A5 c5 6) ((((bN bs 4 2) + 6) % 65536) - 6) (c5 - 6)), some (.int .u16 ((bN bs 14 2 : Nat) : Int)), some (.int .u16 ((bN bs 2 2 : Nat) : Int))], false⟩, ⟨b4, 29, [some (.slice none 0 0), some (.slice none 0 0), some (.slice none 0 0), some (.slice none 0 0)], true⟩, ⟨b50, 29, [none, some (.slice none 0 0), some (.slice none 0 0), some (.slice A5_1 (n - 16) c5_1)], true⟩] [Byt A5 n c5 bs, Byt A5_1 (n - 16) c5_1 (sl bs 16 n)]) ?_
  refine dtake (f := 4) [0, 1, 2, 3, 4, 5, 6, 7, 8, 9, 10, 11, 12, 13, 14, 15, 16, 17, 18, 19, 20] (by kernel_rfl) (St.closed _ _ _ _) (fun _ h => (h.wk [(0, []), (1, []), (2, [0])] rfl)) (by kernel_rfl) ?_
  refine dq rfl (q_move rfl) ?_
  refine dq rfl (q_move rfl) ?_
  refine dq rfl (q_nil rfl) ?_
  refine dq rfl (q_field (b := b8) (off := 0) rfl fo_93_1) ?_
  refine dq rfl (q_load (b := b8) (off := 2) (j := 0) rfl nagg_90 (fun _ h => h) rfl rfl rfl) ?_
  refine dq rfl (q_convn (p := bN bs 0 2) rfl Tryz.underlying90 Tryz.underlying39 (show bN bs 0 2 < 18446744073709551616 by have := bN_lt bs 0 2 65536 rfl; omega)) ?_
  refine dq rfl (q_move rfl) ?_
  refine dq rfl (q_nil rfl) ?_
  refine dq rfl (q_field (b := b8) (off := 0) rfl fo_93_2) ?_
  refine dq rfl (q_load (b := b8) (off := 3) (j := 0) rfl nagg_70 (fun _ h => h) rfl rfl rfl) ?_
  refine dq rfl (q_convn (p := bN bs 4 2) rfl Tryz.underlying70 Tryz.underlying39 (show bN bs 4 2 < 18446744073709551616 by have := bN_lt bs 4 2 65536 rfl; omega)) ?_
  refine dq rfl (q_move rfl) ?_
  refine dq rfl (q_nil rfl) ?_
  refine dq rfl (q_field (b := b8) (off := 0) rfl fo_93_4) ?_
  refine dq rfl (q_load (b := b8) (off := 5) (j := 0) rfl nagg_82 (fun _ h => h) rfl rfl rfl) ?_
  refine dq rfl (q_convn (p := bN bs 14 2) rfl Tryz.underlying82 Tryz.underlying39 (show bN bs 14 2 < 18446744073709551616 by have := bN_lt bs 14 2 65536 rfl; omega)) ?_
  refine dq rfl (q_move rfl) ?_
  refine dq rfl (q_nil rfl) ?_
  refine dq rfl (q_field (b := b8) (off := 0) rfl fo_93_5) ?_
  refine dq rfl (q_load (b := b8) (off := 6) (j := 0) rfl nagg_70 (fun _ h => h) rfl rfl rfl) ?_
  refine dq rfl (q_convn (p := bN bs 2 2) rfl Tryz.underlying70 Tryz.underlying39 (show bN bs 2 2 < 18446744073709551616 by have := bN_lt bs 2 2 65536 rfl; omega)) ?_
  refine QL.nil ?_
  refine RG.step1 21 (by kernel_rfl) ?_
  refine dop rfl (l_buildSlice (e := 39) (vs := [(0, (.int .u64 ((bN bs 0 2 : Nat) : Int))), (1, (.int .u64 ((bN bs 4 2 : Nat) : Int))), (2, (.int .u64 ((bN bs 14 2 : Nat) : Int))), (3, (.int .u64 ((bN bs 2 2 : Nat) : Int)))]) (cs := [(.int .u64 ((bN bs 0 2 : Nat) : Int)), (.int .u64 ((bN bs 4 2 : Nat) : Int)), (.int .u64 ((bN bs 14 2 : Nat) : Int)), (.int .u64 ((bN bs 2 2 : Nat) : Int))]) (by decide) rfl (fun _ => by kernel_rfl) fun b191 => ⟨(fun _ h => (h.wk [(0, []), (1, []), (2, [0])] rfl)), ?_⟩)
  refine dtake (f := 1) [22, 23] (by kernel_rfl) (St.closed _ _ _ _) (fun _ h => (h.wk [(0, []), (1, []), (2, [0])] rfl)) (by kernel_rfl) ?_
  refine dq rfl (q_nil rfl) ?_
  refine dq rfl (q_field (b := b50) (off := 0) rfl fo_29_0) ?_
  refine QL.nil ?_
  refine RG.step1 24 (by kernel_rfl) ?_
  refine dop rfl (l_store (b := b50) (off := 0) (j := 2) rfl rfl nagg_25 rfl rfl rfl rfl (dlt rfl) ⟨(fun _ h => (h.wk [(0, []), (1, []), (2, [0])] rfl)), ?_⟩)
  refine dend (by kernel_rfl) ?_
  refine eseq ?_
  refine HT.plain ?_
  refine sq (St.closed _ _ _ _) (q_move rfl) rfl ?_
  refine sq (St.closed _ _ _ _) (q_move rfl) rfl ?_
  refine sq (St.closed _ _ _ _) (q_nil rfl) rfl ?_
  refine sq (St.closed _ _ _ _) (q_field (b := b8) (off := 0) rfl fo_93_3) rfl ?_
  refine sq (St.closed _ _ _ _) (q_load (b := b8) (off := 4) (j := 0) rfl nagg_91 (fun _ h => h) rfl rfl rfl) rfl ?_
  refine sl_ (l_callX2 (vs := [(.slice (cutA A5 c5 6) ((((bN bs 4 2) + 6) % 65536) - 6) (c5 - 6))]) (Kc := []) (Bc := [Byt (cutA A5 c5 6) ((((bN bs 4 2) + 6) % 65536) - 6) (c5 - 6) (sl bs 6 (((bN bs 4 2) + 6) % 65536))]) [] [2] [Byt A5 n c5 bs, Byt A5_1 (n - 16) c5_1 (sl bs 16 n), Byt (cutA A5 c5 6) ((((bN bs 4 2) + 6) % 65536) - 6) (c5 - 6) (sl bs 6 (((bN bs 4 2) + 6) % 65536))] (fun A5_2 c5_2 => [⟨b8, 93, [some (.slice (cutA A5 c5 0) (16 - 0) (c5 - 0)), some (.slice (cutA A5 c5 16) (n - 16) (c5 - 16)), some (.int .u16 ((bN bs 0 2 : Nat) : Int)), some (.int .u16 ((bN bs 4 2 : Nat) : Int)), some (.slice (cutA A5 c5 6) ((((bN bs 4 2) + 6) % 65536) - 6) (c5 - 6)), some (.int .u16 ((bN bs 14 2 : Nat) : Int)), some (.int .u16 ((bN bs 2 2 : Nat) : Int))], false⟩, ⟨b4, 29, [some (.slice none 0 0), some (.slice none 0 0), some (.slice none 0 0), some (.slice none 0 0)], true⟩, ⟨b50, 29, [some (.slice (some ⟨b191, 0, none⟩) 4 4), some (.slice none 0 0), some (.slice none 0 0), some (.slice A5_1 (n - 16) c5_1)], true⟩, ⟨b191, 39, [some (.int .u64 ((bN bs 0 2 : Nat) : Int)), some (.int .u64 ((bN bs 4 2 : Nat) : Int)), some (.int .u64 ((bN bs 14 2 : Nat) : Int)), some (.int .u64 ((bN bs 2 2 : Nat) : Int))], true⟩]) (fun A5_2 c5_2 => [Byt A5 n c5 bs, Byt A5_1 (n - 16) c5_1 (sl bs 16 n), Byt A5_2 ((((bN bs 4 2) + 6) % 65536) - 6) c5_2 (sl bs 6 (((bN bs 4 2) + 6) % 65536))]) (by decide) rfl ca_60 (fun _ h => (h.cut (j := 0) (lo := 6) (hi := ((bN bs 4 2) + 6) % 65536) rfl (by have := bN_lt bs 4 2 65536 rfl; omega) (by have := bN_lt bs 4 2 65536 rfl; omega))) rfl rfl rfl rfl (fun w h => clone w (cutA A5 c5 6) ((((bN bs 4 2) + 6) % 65536) - 6) (c5 - 6) (sl bs 6 (((bN bs 4 2) + 6) % 65536)) (by have := bN_lt bs 4 2 65536 rfl; omega) h) (fun _ _ => rfl) (fun _ _ => rfl) (fun _ _ => rfl) (fun _ _ => rfl) fun A5_2 c5_2 hf4 he5 => ?_)
  have hnc6 : ((((bN bs 4 2) + 6) % 65536) - 6) ≤ c5_2 := by obtain ⟨w, h⟩ := he5; exact (h _ List.mem_cons_self).2.1
  refine sl_ (l_buildSlice (e := 22) (vs := [(0, (.slice A5_2 ((((bN bs 4 2) + 6) % 65536) - 6) c5_2))]) (cs := [(.slice A5_2 ((((bN bs 4 2) + 6) % 65536) - 6) c5_2)]) (by decide) rfl (fun _ => by kernel_rfl) fun b200 => ?_)
  refine sq (St.closed _ _ _ _) (q_nil rfl) rfl ?_
  refine sq (St.closed _ _ _ _) (q_field (b := b50) (off := 0) rfl fo_29_1) rfl ?_
  refine sl_ (l_store (b := b50) (off := 1) (j := 2) rfl rfl nagg_26 rfl rfl rfl rfl (dlt rfl) ?_)
  refine send ?_
  refine ein ?_
  refine eseq ?_
  refine HT.seq ?_
  refine HT.plain ?_
  refine sq (St.closed _ _ _ _) (q_move rfl) rfl ?_
  refine sq (St.closed _ _ _ _) (q_nil rfl) rfl ?_
  refine sq (St.closed _ _ _ _) (q_loadAgg (b := b50) (off := 0) (j := 2) (vs := [(.slice (some ⟨b191, 0, none⟩) 4 4), (.slice (some ⟨b200, 0, none⟩) 1 1), (.slice none 0 0), (.slice A5_1 (n - 16) c5_1)]) rfl aggs_29 (fun _ h => h) rfl rfl rfl) rfl ?_
  refine sl_ (l_storeAgg (b := b4) (off := 0) (j := 1) (vs := [(.slice (some ⟨b191, 0, none⟩) 4 4), (.slice (some ⟨b200, 0, none⟩) 1 1), (.slice none 0 0), (.slice A5_1 (n - 16) c5_1)]) rfl rfl aggs_29 (by simp [Value.one1]) rfl rfl rfl (Nat.le_of_ble_eq_true rfl) ?_)
  refine sq (St.closed _ _ _ _) (q_assign rfl) rfl ?_
  refine send ?_
  refine eseq ?_
  refine HT.ret ?_
  exact fun a ha w' hw => fin_ ha (resc2 ha Tryz.results47 rfl (ld_ aggs_29 hw (j := 1) rfl rfl (vs := [(.slice (some ⟨b191, 0, none⟩) 4 4), (.slice (some ⟨b200, 0, none⟩) 1 1), (.slice none 0 0), (.slice A5_1 (n - 16) c5_1)]) rfl) rfl) ⟨⟨⟨some ⟨b191, 0, none⟩, 4, 4, [bN bs 0 2, bN bs 4 2, bN bs 14 2, bN bs 2 2]⟩, some ⟨b200, 0, none⟩, 1, 1, [⟨A5_2, ((((bN bs 4 2) + 6) % 65536) - 6), c5_2, (sl bs 6 (((bN bs 4 2) + 6) % 65536))⟩], none, 0, 0, [], ⟨A5_1, (n - 16), c5_1, (sl bs 16 n)⟩⟩, rfl, hw.pres, Own.lay (all1 (Own.cel hw (j := 3) (sz := 1) (r := []) rfl rfl rfl rfl (Nat.le_refl _)) (all1 (Own.cel hw (j := 4) (sz := 1) (r := []) rfl rfl rfl rfl (Nat.le_refl _)) (all1 (Own.nilCel 2) (all1 (Own.byt hw (j := 1) rfl (fun b h => .inl ((hf1 _ List.mem_cons_self) b h))) (all1 (Own.byt hw (j := 2) rfl (fun b h => .inl ((hf4 _ List.mem_cons_self) b h))) all0))))), (LD_eq (lc rfl (lc rfl (lc rfl (lc rfl rfl)))) (lc (show (sl bs 6 (((bN bs 4 2) + 6) % 65536)) = sl bs 6 (6 + (bN bs 4 2)) from by first | rfl | (exact sl_nil (by omega)) | (congr 1 <;> omega) | (rw [sl_sl (by omega)]; congr 1 <;> omega)) rfl) rfl (show (sl bs 16 n) = sl bs 16 n from by first | rfl | (exact sl_nil (by omega)) | (congr 1 <;> omega) | (rw [sl_sl (by omega)]; congr 1 <;> omega)))⟩

theorem linuxsll_I2 (w : World) (A : Option Addr) (n : Nat) (c : Nat) (bs : List UInt8) (hn : n ≤ 400) (ha : 16 ≤ n) (hb : bN bs 4 2 ≤ 8) (hst : St w [] [] [Byt A n c bs] w) : Calls Tryz.prog 27 #[(.string ⟨#[108, 105, 110, 117, 120, 115, 108, 108]⟩), (.slice A n c)] w (IP w (Byt A n c bs) (some (some ⟨[bN bs 0 2, bN bs 4 2, bN bs 14 2, bN bs 2 2], [sl bs 6 (6 + (bN bs 4 2))], [], sl bs 16 n⟩))) := by
  have hnc00 : n ≤ c := (hst.fact (j := 0) rfl).2.1
  refine enter (vs := [(.string ⟨#[108, 105, 110, 117, 120, 115, 108, 108]⟩), (.slice A n c)]) Tryz.func27 rfl rfl rfl hst ?_
  refine HT.seq ?_
  refine HT.plain ?_
  refine sl_ (l_alloc (by decide) zero_29 fun b4 => ?_)
  refine sq (St.closed _ _ _ _) (q_assign rfl) rfl ?_
  refine send ?_
  refine eseq ?_
  refine HT.seq ?_
  refine HT.plain ?_
  refine sq (St.closed _ _ _ _) (q_move rfl) rfl ?_
  refine sq (St.closed _ _ _ _) (q_move rfl) rfl ?_
  refine sl_ (l_callX3 (vs := [(.string ⟨#[108, 105, 110, 117, 120, 115, 108, 108]⟩), (.slice A n c)]) (Kc := []) (Bc := [Byt A n c bs]) [] [0] [Byt A n c bs] (fun b8 A5 c5 => [⟨b4, 29, [some (.slice none 0 0), some (.slice none 0 0), some (.slice none 0 0), some (.slice none 0 0)], true⟩, ⟨b8, 93, [some (.slice (cutA A5 c5 0) (16 - 0) (c5 - 0)), some (.slice (cutA A5 c5 16) (n - 16) (c5 - 16)), some (.int .u16 ((bN bs 0 2 : Nat) : Int)), some (.int .u16 ((bN bs 4 2 : Nat) : Int)), some (.slice (cutA A5 c5 6) ((((bN bs 4 2) + 6) % 65536) - 6) (c5 - 6)), some (.int .u16 ((bN bs 14 2 : Nat) : Int)), some (.int .u16 ((bN bs 2 2 : Nat) : Int))], true⟩]) (fun b8 A5 c5 => [Byt A n c bs, Byt A5 n c5 bs]) (by decide) rfl ca_46 (fun _ h => h) rfl rfl rfl rfl (fun w h => linuxsll_e2 w A n c bs (by omega) (by omega) (by omega) h) (fun _ _ _ => rfl) (fun _ _ _ => rfl) (fun _ _ _ => rfl) (fun _ _ _ => rfl) fun b8 A5 c5 hf1 he2 => ?_)
  have hnc3 : n ≤ c5 := by obtain ⟨w, h⟩ := he2; exact (h _ List.mem_cons_self).2.1
  refine sq (St.closed _ _ _ _) (q_move rfl) rfl ?_
  refine sq (St.closed _ _ _ _) (q_extract (vs := [(.iface 89 (.pointer (some ⟨b8, 0, none⟩))), (.bool true)]) (i := 0) rfl rfl) rfl ?_
  refine sq (St.closed _ _ _ _) (q_extract (vs := [(.iface 89 (.pointer (some ⟨b8, 0, none⟩))), (.bool true)]) (i := 1) rfl rfl) rfl ?_
  refine sq (St.closed _ _ _ _) (q_assign rfl) rfl ?_
  refine sq (St.closed _ _ _ _) (q_assign rfl) rfl ?_
  refine send ?_
  refine eseq ?_
  refine HT.seq ?_
  refine HT.seq ?_
  refine HT.plain ?_
  refine sq (St.closed _ _ _ _) (q_move rfl) rfl ?_
  refine sq (St.closed _ _ _ _) (q_not rfl) rfl ?_
  refine send ?_
  refine eseq ?_
  refine HT.no rfl ?_
  refine HT.skip ?_
  refine eseq ?_
  refine HT.seq ?_
  refine HT.plain ?_
  refine sq (St.closed _ _ _ _) (q_move rfl) rfl ?_
  refine sq (St.closed _ _ _ _) (q_move rfl) rfl ?_
  refine sq (St.closed _ _ _ _) (q_invoke (vs := []) (v := (.slice (cutA A5 c5 16) (n - 16) (c5 - 16))) rfl (fun w => me_89_LayerPayload _ w) rfl ca_120 (fun w h => layPay0 w b8 93 _ _ _ (h.ro (j := 1) rfl))) rfl ?_
  refine sl_ (l_callLay (vs := [(.iface 89 (.pointer (some ⟨b8, 0, none⟩))), (.slice (cutA A5 c5 16) (n - 16) (c5 - 16))]) (tup := fun L => .tuple #[L.val, .bool true]) 1 (by decide) rfl ca_47 rfl (fun w h => linuxsll_t2 w A5 n c5 bs b8 (by omega) (by omega) (by omega) (h.ro2 (j := 1) rfl (bi := [1]) rfl)) fun L20 hfr hda hoL => ?_)
  refine sq (St.closed _ _ _ _) (q_extract (vs := [(.agg #[(L20.nums.val), (.slice L20.dA L20.dn L20.dc), (.slice L20.pA L20.pn L20.pc), (L20.pay.val)]), (.bool true)]) (i := 0) rfl rfl) rfl ?_
  refine sq (St.closed _ _ _ _) (q_extract (vs := [(.agg #[(L20.nums.val), (.slice L20.dA L20.dn L20.dc), (.slice L20.pA L20.pn L20.pc), (L20.pay.val)]), (.bool true)]) (i := 1) rfl rfl) rfl ?_
  refine sl_ (l_storeAgg (b := b4) (off := 0) (j := 0) (vs := [(L20.nums.val), (.slice L20.dA L20.dn L20.dc), (.slice L20.pA L20.pn L20.pc), (L20.pay.val)]) rfl rfl aggs_29 (by simp [Value.one1]) rfl rfl rfl (Nat.le_of_ble_eq_true rfl) ?_)
  refine sq (St.closed _ _ _ _) (q_assign rfl) rfl ?_
  refine send ?_
  refine eseq ?_
  refine HT.ret ?_
  exact fun a ha w' hw => fin_ ha (resc2 ha Tryz.results27 rfl (ld_ aggs_29 hw (j := 0) rfl rfl (vs := [(L20.nums.val), (.slice L20.dA L20.dn L20.dc), (.slice L20.pA L20.pn L20.pc), (L20.pay.val)]) rfl) rfl) ⟨L20, rfl, hw.pres, ⟨hw.fact (j := 2) rfl, fun i hi => (hfr i hi).elim .inl (fun h => .inl ((hf1 _ List.mem_cons_self) i h))⟩, hda⟩
end Go.Proofs.YtfkaafbeeegenaaGreat.Zed
