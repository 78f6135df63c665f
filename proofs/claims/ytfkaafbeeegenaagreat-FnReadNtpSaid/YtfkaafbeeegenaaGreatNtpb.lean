/- ntp: the package, case 1 -/
import Derived.Test.YtfkaafbeeegenaaGreatNtp0
import Derived.KernelRfl
namespace Go.Proofs.YtfkaafbeeegenaaGreat.Zed
set_option linter.unusedVariables false
set_option linter.unusedSimpArgs false
set_option maxRecDepth 100000
set_option maxHeartbeats 4000000


theorem ntp_c1 (w : World) (A : Option Addr) (n : Nat) (c : Nat) (bs : List UInt8) (hn : n ≤ 400) (ha : 48 ≤ n) (hst : St w [] [] [Byt A n c bs] w) : Calls Tryz.prog 57 #[(.string ⟨#[110, 116, 112]⟩), (.slice A n c)] w (fun e w' => e = .returned (.bool true) ∧ Pres [] w w') := by
  have hnc00 : n ≤ c := (hst.fact (j := 0) rfl).2.1
  refine enter (vs := [(.string ⟨#[110, 116, 112]⟩), (.slice A n c)]) Tryz.func57 rfl rfl rfl hst ?_
  refine HT.seq ?_
  refine HT.plain ?_
  refine sq (St.closed _ _ _ _) (q_assign rfl) rfl ?_
  refine send ?_
  refine eseq ?_
  refine HT.seq ?_
  refine HT.seq ?_
  refine HT.plain ?_
  refine sq (St.closed _ _ _ _) (q_move rfl) rfl ?_
  refine send ?_
  refine eseq ?_
  refine HT.block ?_
  refine HT.seq ?_
  refine HT.plain ?_
  refine sq (St.closed _ _ _ _) (q_eqs rfl rfl (r := false) (by kernel_rfl)) rfl ?_
  refine sq (St.closed _ _ _ _) (q_assign rfl) rfl ?_
  refine send ?_
  refine eseq ?_
  refine HT.no rfl ?_
  refine HT.seq ?_
  refine HT.plain ?_
  refine sq (St.closed _ _ _ _) (q_eqs rfl rfl (r := false) (by kernel_rfl)) rfl ?_
  refine sq (St.closed _ _ _ _) (q_assign rfl) rfl ?_
  refine send ?_
  refine eseq ?_
  refine HT.no rfl ?_
  refine HT.seq ?_
  refine HT.plain ?_
  refine sq (St.closed _ _ _ _) (q_eqs rfl rfl (r := false) (by kernel_rfl)) rfl ?_
  refine sq (St.closed _ _ _ _) (q_assign rfl) rfl ?_
  refine send ?_
  refine eseq ?_
  refine HT.no rfl ?_
  refine HT.seq ?_
  refine HT.plain ?_
  refine sq (St.closed _ _ _ _) (q_eqs rfl rfl (r := false) (by kernel_rfl)) rfl ?_
  refine sq (St.closed _ _ _ _) (q_assign rfl) rfl ?_
  refine send ?_
  refine eseq ?_
  refine HT.no rfl ?_
  refine HT.seq ?_
  refine HT.plain ?_
  refine sq (St.closed _ _ _ _) (q_eqs rfl rfl (r := false) (by kernel_rfl)) rfl ?_
  refine sq (St.closed _ _ _ _) (q_assign rfl) rfl ?_
  refine send ?_
  refine eseq ?_
  refine HT.no rfl ?_
  refine HT.seq ?_
  refine HT.seq ?_
  refine HT.plain ?_
  refine sq (St.closed _ _ _ _) (q_eqs rfl rfl (r := false) (by kernel_rfl)) rfl ?_
  refine sq (St.closed _ _ _ _) (q_assign rfl) rfl ?_
  refine send ?_
  refine eseq ?_
  refine HT.no rfl ?_
  refine HT.seq ?_
  refine HT.plain ?_
  refine sq (St.closed _ _ _ _) (q_eqs rfl rfl (r := false) (by kernel_rfl)) rfl ?_
  refine sq (St.closed _ _ _ _) (q_assign rfl) rfl ?_
  refine send ?_
  refine eseq ?_
  refine HT.no rfl ?_
  refine HT.plain ?_
  refine sq (St.closed _ _ _ _) (q_eqs rfl rfl (r := false) (by kernel_rfl)) rfl ?_
  refine sq (St.closed _ _ _ _) (q_assign rfl) rfl ?_
  refine send ?_
  refine eseq ?_
  refine HT.no rfl ?_
  refine HT.seq ?_
  refine HT.plain ?_
  refine sq (St.closed _ _ _ _) (q_eqs rfl rfl (r := false) (by kernel_rfl)) rfl ?_
  refine sq (St.closed _ _ _ _) (q_assign rfl) rfl ?_
  refine send ?_
  refine eseq ?_
  refine HT.no rfl ?_
  refine HT.seq ?_
  refine HT.plain ?_
  refine sq (St.closed _ _ _ _) (q_eqs rfl rfl (r := false) (by kernel_rfl)) rfl ?_
  refine sq (St.closed _ _ _ _) (q_assign rfl) rfl ?_
  refine send ?_
  refine eseq ?_
  refine HT.no rfl ?_
  refine HT.seq ?_
  refine HT.plain ?_
  refine sq (St.closed _ _ _ _) (q_eqs rfl rfl (r := false) (by kernel_rfl)) rfl ?_
  refine sq (St.closed _ _ _ _) (q_assign rfl) rfl ?_
  refine send ?_
  refine eseq ?_
  refine HT.no rfl ?_
  refine HT.seq ?_
  refine HT.plain ?_
  refine sq (St.closed _ _ _ _) (q_eqs rfl rfl (r := false) (by kernel_rfl)) rfl ?_
  refine sq (St.closed _ _ _ _) (q_assign rfl) rfl ?_
  refine send ?_
  refine eseq ?_
  refine HT.no rfl ?_
  refine HT.seq ?_
  refine HT.plain ?_
  refine sq (St.closed _ _ _ _) (q_eqs rfl rfl (r := false) (by kernel_rfl)) rfl ?_
  refine sq (St.closed _ _ _ _) (q_assign rfl) rfl ?_
  refine send ?_
  refine eseq ?_
  refine HT.no rfl ?_
  refine HT.seq ?_
  refine HT.plain ?_
  refine sq (St.closed _ _ _ _) (q_eqs rfl rfl (r := false) (by kernel_rfl)) rfl ?_
  refine sq (St.closed _ _ _ _) (q_assign rfl) rfl ?_
  refine send ?_
  refine eseq ?_
  refine HT.no rfl ?_
  refine HT.skip ?_
  refine ein ?_
  refine eseq ?_
  refine HT.seq ?_
  refine HT.plain ?_
  refine sq (St.closed _ _ _ _) (q_assign rfl) rfl ?_
  refine send ?_
  refine eseq ?_
  refine HT.ret ?_
  exact fun a ha w' hw => fin_ ha (res1 ha Tryz.results57 rfl) ⟨rfl, hw.pres⟩

theorem ntp_m1_1 (w : World) (A : Option Addr) (n : Nat) (c : Nat) (bs : List UInt8) (rb : Nat) (kb : Nat) (hn : n ≤ 400) (ha : 48 ≤ n) (hst : St w [rb] [⟨rb, 164, [some (.slice none 0 0), some (.slice none 0 0), some (.int .u8 ((0 : Nat) : Int)), some (.int .u8 ((0 : Nat) : Int)), some (.int .u8 ((0 : Nat) : Int)), some (.int .u8 ((0 : Nat) : Int)), some (.int .i8 ((0 : Nat) : Int)), some (.int .i8 ((0 : Nat) : Int)), some (.int .u32 ((0 : Nat) : Int)), some (.int .u32 ((0 : Nat) : Int)), some (.int .u32 ((0 : Nat) : Int)), some (.int .u64 ((0 : Nat) : Int)), some (.int .u64 ((0 : Nat) : Int)), some (.int .u64 ((0 : Nat) : Int)), some (.int .u64 ((0 : Nat) : Int)), some (.slice none 0 0)], true⟩] [Byt A n c bs] w) : Calls Tryz.prog 100 #[(.pointer (some ⟨rb, 0, none⟩)), (.slice A n c), (.iface 199 (.pointer (some ⟨kb, 0, none⟩)))] w (CP0 w [rb] [Byt A n c bs] (.nilIface) ([⟨rb, 164, [some (.slice (cutA A c 0) (n - 0) (c - 0)), some (.slice none 0 0), some (.int .u8 ((((nb bs 0) &&& 192) / 64 : Nat) : Int)), some (.int .u8 ((((nb bs 0) &&& 56) / 8 : Nat) : Int)), some (.int .u8 (((nb bs 0) &&& 7 : Nat) : Int)), some (.int .u8 ((nb bs 1 : Nat) : Int)), some (.int .i8 (IntKind.i8.wrap ((nb bs 2 : Nat) : Int))), some (.int .i8 (IntKind.i8.wrap ((nb bs 3 : Nat) : Int))), some (.int .u32 ((bN bs 4 4 : Nat) : Int)), some (.int .u32 ((bN bs 8 4 : Nat) : Int)), some (.int .u32 ((bN bs 12 4 : Nat) : Int)), some (.int .u64 ((bN bs 16 8 : Nat) : Int)), some (.int .u64 ((bN bs 24 8 : Nat) : Int)), some (.int .u64 ((bN bs 32 8 : Nat) : Int)), some (.int .u64 ((bN bs 40 8 : Nat) : Int)), some (.slice (cutA A c 48) (n - 48) (c - 48))], true⟩]) ([])) := by
  have hnc00 : n ≤ c := (hst.fact (j := 0) rfl).2.1
  refine enter (vs := [(.pointer (some ⟨rb, 0, none⟩)), (.slice A n c), (.iface 199 (.pointer (some ⟨kb, 0, none⟩)))]) Tryz.func100 rfl rfl rfl hst ?_
  refine HT.seq ?_
  refine HT.plain ?_
  refine sq (St.closed _ _ _ _) (q_assign rfl) rfl ?_
  refine send ?_
  refine eseq ?_
  refine HT.seq ?_
  refine HT.seq ?_
  refine HT.plain ?_
  refine sq (St.closed _ _ _ _) (q_move rfl) rfl ?_
  refine sq (St.closed _ _ _ _) (q_len (len := n) rfl Tryz.underlying22) rfl ?_
  refine sq (St.closed _ _ _ _) (q_F (q_lt (p := n) (q := 48) rfl rfl) (by omega)) rfl ?_
  refine send ?_
  refine eseq ?_
  refine HT.no rfl ?_
  refine HT.skip ?_
  refine eseq ?_
  refine HT.seq ?_
  refine HT.plain ?_
  refine sq (St.closed _ _ _ _) (q_move rfl) rfl ?_
  refine sq (St.closed _ _ _ _) (q_move rfl) rfl ?_
  refine sq (St.closed _ _ _ _) (q_move rfl) rfl ?_
  refine sq (St.closed _ _ _ _) (q_len (len := n) rfl Tryz.underlying22) rfl ?_
  refine sq (St.closed _ _ _ _) (q_slice (lo := 0) (hi := n) rfl Tryz.underlying22 nagg_5 (.inl ⟨rfl, rfl⟩) (.inr ⟨_, _, rfl, rfl⟩) (by omega) (by omega)) rfl ?_
  refine sq (St.closed _ _ _ _) (q_build (vs := [(0, (.slice (cutA A c 0) (n - 0) (c - 0)))]) (v := (.agg #[(.slice (cutA A c 0) (n - 0) (c - 0)), (.slice none 0 0)])) rfl (fun _ => by kernel_rfl)) rfl ?_
  refine sq (St.closed _ _ _ _) (q_nil rfl) rfl ?_
  refine sq (St.closed _ _ _ _) (q_field (b := rb) (off := 0) rfl fo_164_0) rfl ?_
  refine sl_ (l_storeAgg (b := rb) (off := 0) (j := 0) (vs := [(.slice (cutA A c 0) (n - 0) (c - 0)), (.slice none 0 0)]) rfl rfl aggs_68 (by simp [Value.one1]) rfl rfl rfl (Nat.le_of_ble_eq_true rfl) ?_)
  refine send ?_
  refine eseq ?_
  refine HT.seq ?_
  refine HT.plain ?_
  refine sq (St.closed _ _ _ _) (q_move rfl) rfl ?_
  refine sq (St.closed _ _ _ _) (q_index (i := 0) (j := 0) rfl rfl Tryz.underlying22 nagg_5 (fun _ h => h) rfl (by omega)) rfl ?_
  refine sq (St.closed _ _ _ _) (q_byte (i := 0) (j := 0) rfl nagg_5 (fun _ h => h) rfl (by omega)) rfl ?_
  refine sq (St.closed _ _ _ _) (q_assign rfl) rfl ?_
  refine send ?_
  refine eseq ?_
  refine HT.seq ?_
  refine HT.plain ?_
  refine sq (St.closed _ _ _ _) (q_move rfl) rfl ?_
  refine sq (St.closed _ _ _ _) (q_move rfl) rfl ?_
  refine sq (St.closed _ _ _ _) (q_and (p := nb bs 0) (q := 192) rfl rfl rfl (show nb bs 0 < 256 by have := nb_lt bs 0; omega) (by decide)) rfl ?_
  refine sq (St.closed _ _ _ _) (q_shr (p := (nb bs 0) &&& 192) (e := 6) (N := 64) rfl rfl (by decide) rfl) rfl ?_
  refine sq (St.closed _ _ _ _) (q_nil rfl) rfl ?_
  refine sq (St.closed _ _ _ _) (q_field (b := rb) (off := 0) rfl fo_164_1) rfl ?_
  refine sl_ (l_store (b := rb) (off := 2) (j := 0) rfl rfl nagg_154 rfl rfl rfl rfl (dlt rfl) ?_)
  refine send ?_
  refine eseq ?_
  refine HT.seq ?_
  refine HT.plain ?_
  refine sq (St.closed _ _ _ _) (q_move rfl) rfl ?_
  refine sq (St.closed _ _ _ _) (q_move rfl) rfl ?_
  refine sq (St.closed _ _ _ _) (q_and (p := nb bs 0) (q := 56) rfl rfl rfl (show nb bs 0 < 256 by have := nb_lt bs 0; omega) (by decide)) rfl ?_
  refine sq (St.closed _ _ _ _) (q_shr (p := (nb bs 0) &&& 56) (e := 3) (N := 8) rfl rfl (by decide) rfl) rfl ?_
  refine sq (St.closed _ _ _ _) (q_nil rfl) rfl ?_
  refine sq (St.closed _ _ _ _) (q_field (b := rb) (off := 0) rfl fo_164_2) rfl ?_
  refine sl_ (l_store (b := rb) (off := 3) (j := 0) rfl rfl nagg_155 rfl rfl rfl rfl (dlt rfl) ?_)
  refine send ?_
  refine eseq ?_
  refine HT.seq ?_
  refine HT.plain ?_
  refine sq (St.closed _ _ _ _) (q_move rfl) rfl ?_
  refine sq (St.closed _ _ _ _) (q_move rfl) rfl ?_
  refine sq (St.closed _ _ _ _) (q_and (p := nb bs 0) (q := 7) rfl rfl rfl (show nb bs 0 < 256 by have := nb_lt bs 0; omega) (by decide)) rfl ?_
  refine sq (St.closed _ _ _ _) (q_nil rfl) rfl ?_
  refine sq (St.closed _ _ _ _) (q_field (b := rb) (off := 0) rfl fo_164_3) rfl ?_
  refine sl_ (l_store (b := rb) (off := 4) (j := 0) rfl rfl nagg_156 rfl rfl rfl rfl (dlt rfl) ?_)
  refine send ?_
  refine eseq ?_
  refine HT.seq ?_
  refine HT.plain ?_
  refine sq (St.closed _ _ _ _) (q_move rfl) rfl ?_
  refine sq (St.closed _ _ _ _) (q_move rfl) rfl ?_
  refine sq (St.closed _ _ _ _) (q_index (i := 1) (j := 0) rfl rfl Tryz.underlying22 nagg_5 (fun _ h => h) rfl (by omega)) rfl ?_
  refine sq (St.closed _ _ _ _) (q_byte (i := 1) (j := 0) rfl nagg_5 (fun _ h => h) rfl (by omega)) rfl ?_
  refine sq (St.closed _ _ _ _) (q_nil rfl) rfl ?_
  refine sq (St.closed _ _ _ _) (q_field (b := rb) (off := 0) rfl fo_164_4) rfl ?_
  refine sl_ (l_store (b := rb) (off := 5) (j := 0) rfl rfl nagg_157 rfl rfl rfl rfl (dlt rfl) ?_)
  refine send ?_
  refine eseq ?_
  refine HT.seq ?_
  refine HT.plain ?_
  refine sq (St.closed _ _ _ _) (q_move rfl) rfl ?_
  refine sq (St.closed _ _ _ _) (q_move rfl) rfl ?_
  refine sq (St.closed _ _ _ _) (q_index (i := 2) (j := 0) rfl rfl Tryz.underlying22 nagg_5 (fun _ h => h) rfl (by omega)) rfl ?_
  refine sq (St.closed _ _ _ _) (q_byte (i := 2) (j := 0) rfl nagg_5 (fun _ h => h) rfl (by omega)) rfl ?_
  refine sq (St.closed _ _ _ _) (q_conv rfl Tryz.underlying5 Tryz.underlying159) rfl ?_
  refine sq (St.closed _ _ _ _) (q_nil rfl) rfl ?_
  refine sq (St.closed _ _ _ _) (q_field (b := rb) (off := 0) rfl fo_164_5) rfl ?_
  refine sl_ (l_store (b := rb) (off := 6) (j := 0) rfl rfl nagg_159 rfl rfl rfl rfl (dlt rfl) ?_)
  refine send ?_
  refine eseq ?_
  refine HT.seq ?_
  refine HT.plain ?_
  refine sq (St.closed _ _ _ _) (q_move rfl) rfl ?_
  refine sq (St.closed _ _ _ _) (q_move rfl) rfl ?_
  refine sq (St.closed _ _ _ _) (q_index (i := 3) (j := 0) rfl rfl Tryz.underlying22 nagg_5 (fun _ h => h) rfl (by omega)) rfl ?_
  refine sq (St.closed _ _ _ _) (q_byte (i := 3) (j := 0) rfl nagg_5 (fun _ h => h) rfl (by omega)) rfl ?_
  refine sq (St.closed _ _ _ _) (q_conv rfl Tryz.underlying5 Tryz.underlying159) rfl ?_
  refine sq (St.closed _ _ _ _) (q_nil rfl) rfl ?_
  refine sq (St.closed _ _ _ _) (q_field (b := rb) (off := 0) rfl fo_164_6) rfl ?_
  refine sl_ (l_store (b := rb) (off := 7) (j := 0) rfl rfl nagg_159 rfl rfl rfl rfl (dlt rfl) ?_)
  refine send ?_
  refine eseq ?_
  refine HT.seq ?_
  refine HT.drawn mixed (St.closed _ _ _ _) (St w [rb] [⟨rb, 164, [some (.slice (cutA A c 0) (n - 0) (c - 0)), some (.slice none 0 0), some (.int .u8 ((((nb bs 0) &&& 192) / 64 : Nat) : Int)), some (.int .u8 ((((nb bs 0) &&& 56) / 8 : Nat) : Int)), some (.int .u8 (((nb bs 0) &&& 7 : Nat) : Int)), some (.int .u8 ((nb bs 1 : Nat) : Int)), some (.int .i8 (IntKind.i8.wrap ((nb bs 2 : Nat) : Int))), some (.int .i8 (IntKind.i8.wrap ((nb bs 3 : Nat) : Int))), none, some (.int .u32 ((0 : Nat) : Int)), some (.int .u32 ((0 : Nat) : Int)), some (.int .u64 ((0 : Nat) : Int)), some (.int .u64 ((0 : Nat) : Int)), some (.int .u64 ((0 : Nat) : Int)), some (.int .u64 ((0 : Nat) : Int)), some (.slice none 0 0)], true⟩] [Byt A n c bs]) ?_
  refine dtake (f := 1) [0, 1, 2, 3, 4, 5, 6] (by kernel_rfl) (St.closed _ _ _ _) (fun _ h => (h.wk [(0, [8])] rfl)) (by kernel_rfl) ?_
  refine dq rfl (q_move rfl) ?_
  refine dq rfl (q_loadEmpty rfl aggs_210) ?_
  refine dq rfl (q_move rfl) ?_
  refine dq rfl (q_slice (lo := 4) (hi := 8) rfl Tryz.underlying22 nagg_5 (.inr ⟨_, _, rfl, rfl⟩) (.inr ⟨_, _, rfl, rfl⟩) (by omega) (by omega)) ?_
  refine dq rfl (q_call (vs := [(.agg #[]), (.slice (cutA A c 4) (8 - 4) (c - 4))]) (v := (.int .u32 ((bN bs 4 4 : Nat) : Int))) rfl ca_97 (fun w h => U32 w A n c bs (lo := 4) (hi := 8) (h.fact (j := 0) rfl) (by omega) (by omega))) ?_
  refine dq rfl (q_nil rfl) ?_
  refine dq rfl (q_field (b := rb) (off := 0) rfl fo_164_7) ?_
  refine QL.nil ?_
  refine RG.step1 7 (by kernel_rfl) ?_
  refine dop rfl (l_store (b := rb) (off := 8) (j := 0) rfl rfl nagg_160 rfl rfl rfl rfl (dlt rfl) ⟨(fun _ h => (h.wk [(0, [8])] rfl)), ?_⟩)
  refine dend (by kernel_rfl) ?_
  refine eseq ?_
  refine HT.seq ?_
  refine HT.drawn mixed (St.closed _ _ _ _) (St w [rb] [⟨rb, 164, [some (.slice (cutA A c 0) (n - 0) (c - 0)), some (.slice none 0 0), some (.int .u8 ((((nb bs 0) &&& 192) / 64 : Nat) : Int)), some (.int .u8 ((((nb bs 0) &&& 56) / 8 : Nat) : Int)), some (.int .u8 (((nb bs 0) &&& 7 : Nat) : Int)), some (.int .u8 ((nb bs 1 : Nat) : Int)), some (.int .i8 (IntKind.i8.wrap ((nb bs 2 : Nat) : Int))), some (.int .i8 (IntKind.i8.wrap ((nb bs 3 : Nat) : Int))), some (.int .u32 ((bN bs 4 4 : Nat) : Int)), none, some (.int .u32 ((0 : Nat) : Int)), some (.int .u64 ((0 : Nat) : Int)), some (.int .u64 ((0 : Nat) : Int)), some (.int .u64 ((0 : Nat) : Int)), some (.int .u64 ((0 : Nat) : Int)), some (.slice none 0 0)], true⟩] [Byt A n c bs]) ?_
  refine dtake (f := 1) [0, 1, 2, 3, 4, 5, 6] (by kernel_rfl) (St.closed _ _ _ _) (fun _ h => (h.wk [(0, [9])] rfl)) (by kernel_rfl) ?_
  refine dq rfl (q_move rfl) ?_
  refine dq rfl (q_loadEmpty rfl aggs_210) ?_
  refine dq rfl (q_move rfl) ?_
  refine dq rfl (q_slice (lo := 8) (hi := 12) rfl Tryz.underlying22 nagg_5 (.inr ⟨_, _, rfl, rfl⟩) (.inr ⟨_, _, rfl, rfl⟩) (by omega) (by omega)) ?_
  refine dq rfl (q_call (vs := [(.agg #[]), (.slice (cutA A c 8) (12 - 8) (c - 8))]) (v := (.int .u32 ((bN bs 8 4 : Nat) : Int))) rfl ca_97 (fun w h => U32 w A n c bs (lo := 8) (hi := 12) (h.fact (j := 0) rfl) (by omega) (by omega))) ?_
  refine dq rfl (q_nil rfl) ?_
  refine dq rfl (q_field (b := rb) (off := 0) rfl fo_164_8) ?_
  refine QL.nil ?_
  refine RG.step1 7 (by kernel_rfl) ?_
  refine dop rfl (l_store (b := rb) (off := 9) (j := 0) rfl rfl nagg_160 rfl rfl rfl rfl (dlt rfl) ⟨(fun _ h => (h.wk [(0, [9])] rfl)), ?_⟩)
  refine dend (by kernel_rfl) ?_
  refine eseq ?_
  refine HT.seq ?_
  refine HT.drawn mixed (St.closed _ _ _ _) (St w [rb] [⟨rb, 164, [some (.slice (cutA A c 0) (n - 0) (c - 0)), some (.slice none 0 0), some (.int .u8 ((((nb bs 0) &&& 192) / 64 : Nat) : Int)), some (.int .u8 ((((nb bs 0) &&& 56) / 8 : Nat) : Int)), some (.int .u8 (((nb bs 0) &&& 7 : Nat) : Int)), some (.int .u8 ((nb bs 1 : Nat) : Int)), some (.int .i8 (IntKind.i8.wrap ((nb bs 2 : Nat) : Int))), some (.int .i8 (IntKind.i8.wrap ((nb bs 3 : Nat) : Int))), some (.int .u32 ((bN bs 4 4 : Nat) : Int)), some (.int .u32 ((bN bs 8 4 : Nat) : Int)), none, some (.int .u64 ((0 : Nat) : Int)), some (.int .u64 ((0 : Nat) : Int)), some (.int .u64 ((0 : Nat) : Int)), some (.int .u64 ((0 : Nat) : Int)), some (.slice none 0 0)], true⟩] [Byt A n c bs]) ?_
  refine dtake (f := 1) [0, 1, 2, 3, 4, 5, 6] (by kernel_rfl) (St.closed _ _ _ _) (fun _ h => (h.wk [(0, [10])] rfl)) (by kernel_rfl) ?_
  refine dq rfl (q_move rfl) ?_
  refine dq rfl (q_loadEmpty rfl aggs_210) ?_
  refine dq rfl (q_move rfl) ?_
  refine dq rfl (q_slice (lo := 12) (hi := 16) rfl Tryz.underlying22 nagg_5 (.inr ⟨_, _, rfl, rfl⟩) (.inr ⟨_, _, rfl, rfl⟩) (by omega) (by omega)) ?_
  refine dq rfl (q_call (vs := [(.agg #[]), (.slice (cutA A c 12) (16 - 12) (c - 12))]) (v := (.int .u32 ((bN bs 12 4 : Nat) : Int))) rfl ca_97 (fun w h => U32 w A n c bs (lo := 12) (hi := 16) (h.fact (j := 0) rfl) (by omega) (by omega))) ?_
  refine dq rfl (q_nil rfl) ?_
  refine dq rfl (q_field (b := rb) (off := 0) rfl fo_164_9) ?_
  refine QL.nil ?_
  refine RG.step1 7 (by kernel_rfl) ?_
  refine dop rfl (l_store (b := rb) (off := 10) (j := 0) rfl rfl nagg_161 rfl rfl rfl rfl (dlt rfl) ⟨(fun _ h => (h.wk [(0, [10])] rfl)), ?_⟩)
  refine dend (by kernel_rfl) ?_
  refine eseq ?_
  refine HT.seq ?_
  refine HT.drawn mixed (St.closed _ _ _ _) (St w [rb] [⟨rb, 164, [some (.slice (cutA A c 0) (n - 0) (c - 0)), some (.slice none 0 0), some (.int .u8 ((((nb bs 0) &&& 192) / 64 : Nat) : Int)), some (.int .u8 ((((nb bs 0) &&& 56) / 8 : Nat) : Int)), some (.int .u8 (((nb bs 0) &&& 7 : Nat) : Int)), some (.int .u8 ((nb bs 1 : Nat) : Int)), some (.int .i8 (IntKind.i8.wrap ((nb bs 2 : Nat) : Int))), some (.int .i8 (IntKind.i8.wrap ((nb bs 3 : Nat) : Int))), some (.int .u32 ((bN bs 4 4 : Nat) : Int)), some (.int .u32 ((bN bs 8 4 : Nat) : Int)), some (.int .u32 ((bN bs 12 4 : Nat) : Int)), none, some (.int .u64 ((0 : Nat) : Int)), some (.int .u64 ((0 : Nat) : Int)), some (.int .u64 ((0 : Nat) : Int)), some (.slice none 0 0)], true⟩] [Byt A n c bs]) ?_
  refine dtake (f := 1) [0, 1, 2, 3, 4, 5, 6] (by kernel_rfl) (St.closed _ _ _ _) (fun _ h => (h.wk [(0, [11])] rfl)) (by kernel_rfl) ?_
  refine dq rfl (q_move rfl) ?_
  refine dq rfl (q_loadEmpty rfl aggs_210) ?_
  refine dq rfl (q_move rfl) ?_
  refine dq rfl (q_slice (lo := 16) (hi := 24) rfl Tryz.underlying22 nagg_5 (.inr ⟨_, _, rfl, rfl⟩) (.inr ⟨_, _, rfl, rfl⟩) (by omega) (by omega)) ?_
  refine dq rfl (q_call (vs := [(.agg #[]), (.slice (cutA A c 16) (24 - 16) (c - 16))]) (v := (.int .u64 ((bN bs 16 8 : Nat) : Int))) rfl ca_102 (fun w h => U64 w A n c bs (lo := 16) (hi := 24) (h.fact (j := 0) rfl) (by omega) (by omega))) ?_
  refine dq rfl (q_nil rfl) ?_
  refine dq rfl (q_field (b := rb) (off := 0) rfl fo_164_10) ?_
  refine QL.nil ?_
  refine RG.step1 7 (by kernel_rfl) ?_
  refine dop rfl (l_store (b := rb) (off := 11) (j := 0) rfl rfl nagg_162 rfl rfl rfl rfl (dlt rfl) ⟨(fun _ h => (h.wk [(0, [11])] rfl)), ?_⟩)
  refine dend (by kernel_rfl) ?_
  refine eseq ?_
  refine HT.seq ?_
  refine HT.drawn mixed (St.closed _ _ _ _) (St w [rb] [⟨rb, 164, [some (.slice (cutA A c 0) (n - 0) (c - 0)), some (.slice none 0 0), some (.int .u8 ((((nb bs 0) &&& 192) / 64 : Nat) : Int)), some (.int .u8 ((((nb bs 0) &&& 56) / 8 : Nat) : Int)), some (.int .u8 (((nb bs 0) &&& 7 : Nat) : Int)), some (.int .u8 ((nb bs 1 : Nat) : Int)), some (.int .i8 (IntKind.i8.wrap ((nb bs 2 : Nat) : Int))), some (.int .i8 (IntKind.i8.wrap ((nb bs 3 : Nat) : Int))), some (.int .u32 ((bN bs 4 4 : Nat) : Int)), some (.int .u32 ((bN bs 8 4 : Nat) : Int)), some (.int .u32 ((bN bs 12 4 : Nat) : Int)), some (.int .u64 ((bN bs 16 8 : Nat) : Int)), none, some (.int .u64 ((0 : Nat) : Int)), some (.int .u64 ((0 : Nat) : Int)), some (.slice none 0 0)], true⟩] [Byt A n c bs]) ?_
  refine dtake (f := 1) [0, 1, 2, 3, 4, 5, 6] (by kernel_rfl) (St.closed _ _ _ _) (fun _ h => (h.wk [(0, [12])] rfl)) (by kernel_rfl) ?_
  refine dq rfl (q_move rfl) ?_
  refine dq rfl (q_loadEmpty rfl aggs_210) ?_
  refine dq rfl (q_move rfl) ?_
  refine dq rfl (q_slice (lo := 24) (hi := 32) rfl Tryz.underlying22 nagg_5 (.inr ⟨_, _, rfl, rfl⟩) (.inr ⟨_, _, rfl, rfl⟩) (by omega) (by omega)) ?_
  refine dq rfl (q_call (vs := [(.agg #[]), (.slice (cutA A c 24) (32 - 24) (c - 24))]) (v := (.int .u64 ((bN bs 24 8 : Nat) : Int))) rfl ca_102 (fun w h => U64 w A n c bs (lo := 24) (hi := 32) (h.fact (j := 0) rfl) (by omega) (by omega))) ?_
  refine dq rfl (q_nil rfl) ?_
  refine dq rfl (q_field (b := rb) (off := 0) rfl fo_164_11) ?_
  refine QL.nil ?_
  refine RG.step1 7 (by kernel_rfl) ?_
  refine dop rfl (l_store (b := rb) (off := 12) (j := 0) rfl rfl nagg_162 rfl rfl rfl rfl (dlt rfl) ⟨(fun _ h => (h.wk [(0, [12])] rfl)), ?_⟩)
  refine dend (by kernel_rfl) ?_
  refine eseq ?_
  refine HT.seq ?_
  refine HT.drawn mixed (St.closed _ _ _ _) (St w [rb] [⟨rb, 164, [some (.slice (cutA A c 0) (n - 0) (c - 0)), some (.slice none 0 0), some (.int .u8 ((((nb bs 0) &&& 192) / 64 : Nat) : Int)), some (.int .u8 ((((nb bs 0) &&& 56) / 8 : Nat) : Int)), some (.int .u8 (((nb bs 0) &&& 7 : Nat) : Int)), some (.int .u8 ((nb bs 1 : Nat) : Int)), some (.int .i8 (IntKind.i8.wrap ((nb bs 2 : Nat) : Int))), some (.int .i8 (IntKind.i8.wrap ((nb bs 3 : Nat) : Int))), some (.int .u32 ((bN bs 4 4 : Nat) : Int)), some (.int .u32 ((bN bs 8 4 : Nat) : Int)), some (.int .u32 ((bN bs 12 4 : Nat) : Int)), some (.int .u64 ((bN bs 16 8 : Nat) : Int)), some (.int .u64 ((bN bs 24 8 : Nat) : Int)), none, some (.int .u64 ((0 : Nat) : Int)), some (.slice none 0 0)], true⟩] [Byt A n c bs]) ?_
  refine dtake (f := 1) [0, 1, 2, 3, 4, 5, 6] (by kernel_rfl) (St.closed _ _ _ _) (fun _ h => (h.wk [(0, [13])] rfl)) (by kernel_rfl) ?_
  refine dq rfl (q_move rfl) ?_
  refine dq rfl (q_loadEmpty rfl aggs_210) ?_
  refine dq rfl (q_move rfl) ?_
  refine dq rfl (q_slice (lo := 32) (hi := 40) rfl Tryz.underlying22 nagg_5 (.inr ⟨_, _, rfl, rfl⟩) (.inr ⟨_, _, rfl, rfl⟩) (by omega) (by omega)) ?_
  refine dq rfl (q_call (vs := [(.agg #[]), (.slice (cutA A c 32) (40 - 32) (c - 32))]) (v := (.int .u64 ((bN bs 32 8 : Nat) : Int))) rfl ca_102 (fun w h => U64 w A n c bs (lo := 32) (hi := 40) (h.fact (j := 0) rfl) (by omega) (by omega))) ?_
  refine dq rfl (q_nil rfl) ?_
  refine dq rfl (q_field (b := rb) (off := 0) rfl fo_164_12) ?_
  refine QL.nil ?_
  refine RG.step1 7 (by kernel_rfl) ?_
  refine dop rfl (l_store (b := rb) (off := 13) (j := 0) rfl rfl nagg_162 rfl rfl rfl rfl (dlt rfl) ⟨(fun _ h => (h.wk [(0, [13])] rfl)), ?_⟩)
  refine dend (by kernel_rfl) ?_
  refine eseq ?_
  refine HT.seq ?_
  refine HT.drawn mixed (St.closed _ _ _ _) (St w [rb] [⟨rb, 164, [some (.slice (cutA A c 0) (n - 0) (c - 0)), some (.slice none 0 0), some (.int .u8 ((((nb bs 0) &&& 192) / 64 : Nat) : Int)), some (.int .u8 ((((nb bs 0) &&& 56) / 8 : Nat) : Int)), some (.int .u8 (((nb bs 0) &&& 7 : Nat) : Int)), some (.int .u8 ((nb bs 1 : Nat) : Int)), some (.int .i8 (IntKind.i8.wrap ((nb bs 2 : Nat) : Int))), some (.int .i8 (IntKind.i8.wrap ((nb bs 3 : Nat) : Int))), some (.int .u32 ((bN bs 4 4 : Nat) : Int)), some (.int .u32 ((bN bs 8 4 : Nat) : Int)), some (.int .u32 ((bN bs 12 4 : Nat) : Int)), some (.int .u64 ((bN bs 16 8 : Nat) : Int)), some (.int .u64 ((bN bs 24 8 : Nat) : Int)), some (.int .u64 ((bN bs 32 8 : Nat) : Int)), none, some (.slice none 0 0)], true⟩] [Byt A n c bs]) ?_
  refine dtake (f := 1) [0, 1, 2, 3, 4, 5, 6] (by kernel_rfl) (St.closed _ _ _ _) (fun _ h => (h.wk [(0, [14])] rfl)) (by kernel_rfl) ?_
  refine dq rfl (q_move rfl) ?_
  refine dq rfl (q_loadEmpty rfl aggs_210) ?_
  refine dq rfl (q_move rfl) ?_
  refine dq rfl (q_slice (lo := 40) (hi := 48) rfl Tryz.underlying22 nagg_5 (.inr ⟨_, _, rfl, rfl⟩) (.inr ⟨_, _, rfl, rfl⟩) (by omega) (by omega)) ?_
  refine dq rfl (q_call (vs := [(.agg #[]), (.slice (cutA A c 40) (48 - 40) (c - 40))]) (v := (.int .u64 ((bN bs 40 8 : Nat) : Int))) rfl ca_102 (fun w h => U64 w A n c bs (lo := 40) (hi := 48) (h.fact (j := 0) rfl) (by omega) (by omega))) ?_
  refine dq rfl (q_nil rfl) ?_
  refine dq rfl (q_field (b := rb) (off := 0) rfl fo_164_13) ?_
  refine QL.nil ?_
  refine RG.step1 7 (by kernel_rfl) ?_
  refine dop rfl (l_store (b := rb) (off := 14) (j := 0) rfl rfl nagg_162 rfl rfl rfl rfl (dlt rfl) ⟨(fun _ h => (h.wk [(0, [14])] rfl)), ?_⟩)
  refine dend (by kernel_rfl) ?_
  refine eseq ?_
  refine HT.seq ?_
  refine HT.plain ?_
  refine sq (St.closed _ _ _ _) (q_move rfl) rfl ?_
  refine sq (St.closed _ _ _ _) (q_move rfl) rfl ?_
  refine sq (St.closed _ _ _ _) (q_slice (lo := 48) (hi := n) rfl Tryz.underlying22 nagg_5 (.inr ⟨_, _, rfl, rfl⟩) (.inl ⟨rfl, rfl⟩) (by omega) (by omega)) rfl ?_
  refine sq (St.closed _ _ _ _) (q_nil rfl) rfl ?_
  refine sq (St.closed _ _ _ _) (q_field (b := rb) (off := 0) rfl fo_164_14) rfl ?_
  refine sl_ (l_store (b := rb) (off := 15) (j := 0) rfl rfl nagg_22 rfl rfl rfl rfl (dlt rfl) ?_)
  refine send ?_
  refine eseq ?_
  refine HT.seq ?_
  refine HT.plain ?_
  refine sq (St.closed _ _ _ _) (q_assign rfl) rfl ?_
  refine send ?_
  refine eseq ?_
  refine HT.ret ?_
  exact fun a ha w' hw => fin_ ha (res1 ha Tryz.results100 rfl) ⟨rfl, hw, fr0⟩

theorem ntp_d1 (w : World) (A : Option Addr) (n : Nat) (c : Nat) (bs : List UInt8) (kb : Nat) (hn : n ≤ 400) (ha : 48 ≤ n) (hst : St w [kb] [⟨kb, 201, [some .nilIface], true⟩] [Byt A n c bs] w) : Calls Tryz.prog 85 #[(.slice A n c), (.iface 199 (.pointer (some ⟨kb, 0, none⟩)))] w (CP1 w [kb] [Byt A n c bs] (fun b8 => .nilIface) (fun b8 => [⟨kb, 201, [some (.iface 153 (.pointer (some ⟨b8, 0, none⟩)))], true⟩, ⟨b8, 164, [some (.slice (cutA A c 0) (n - 0) (c - 0)), some (.slice none 0 0), some (.int .u8 ((((nb bs 0) &&& 192) / 64 : Nat) : Int)), some (.int .u8 ((((nb bs 0) &&& 56) / 8 : Nat) : Int)), some (.int .u8 (((nb bs 0) &&& 7 : Nat) : Int)), some (.int .u8 ((nb bs 1 : Nat) : Int)), some (.int .i8 (IntKind.i8.wrap ((nb bs 2 : Nat) : Int))), some (.int .i8 (IntKind.i8.wrap ((nb bs 3 : Nat) : Int))), some (.int .u32 ((bN bs 4 4 : Nat) : Int)), some (.int .u32 ((bN bs 8 4 : Nat) : Int)), some (.int .u32 ((bN bs 12 4 : Nat) : Int)), some (.int .u64 ((bN bs 16 8 : Nat) : Int)), some (.int .u64 ((bN bs 24 8 : Nat) : Int)), some (.int .u64 ((bN bs 32 8 : Nat) : Int)), some (.int .u64 ((bN bs 40 8 : Nat) : Int)), some (.slice (cutA A c 48) (n - 48) (c - 48))], true⟩]) (fun b8 => [])) := by
  have hnc00 : n ≤ c := (hst.fact (j := 0) rfl).2.1
  refine enter (vs := [(.slice A n c), (.iface 199 (.pointer (some ⟨kb, 0, none⟩)))]) Tryz.func85 rfl rfl rfl hst ?_
  refine HT.seq ?_
  refine HT.plain ?_
  refine sq (St.closed _ _ _ _) (q_assign rfl) rfl ?_
  refine send ?_
  refine eseq ?_
  refine HT.seq ?_
  refine HT.plain ?_
  refine sq (St.closed _ _ _ _) (q_build (vs := []) (v := (.agg #[(.slice none 0 0), (.slice none 0 0), (.int .u8 ((0 : Nat) : Int)), (.int .u8 ((0 : Nat) : Int)), (.int .u8 ((0 : Nat) : Int)), (.int .u8 ((0 : Nat) : Int)), (.int .i8 ((0 : Nat) : Int)), (.int .i8 ((0 : Nat) : Int)), (.int .u32 ((0 : Nat) : Int)), (.int .u32 ((0 : Nat) : Int)), (.int .u32 ((0 : Nat) : Int)), (.int .u64 ((0 : Nat) : Int)), (.int .u64 ((0 : Nat) : Int)), (.int .u64 ((0 : Nat) : Int)), (.int .u64 ((0 : Nat) : Int)), (.slice none 0 0)])) rfl (fun _ => by kernel_rfl)) rfl ?_
  refine sl_ (l_box (by decide) rfl fun b8 => ?_)
  refine sq (St.closed _ _ _ _) (q_assign rfl) rfl ?_
  refine send ?_
  refine eseq ?_
  refine HT.seq ?_
  refine HT.plain ?_
  refine sq (St.closed _ _ _ _) (q_move rfl) rfl ?_
  refine sq (St.closed _ _ _ _) (q_move rfl) rfl ?_
  refine sq (St.closed _ _ _ _) (q_move rfl) rfl ?_
  refine sl_ (l_callX0 (vs := [(.pointer (some ⟨b8, 0, none⟩)), (.slice A n c), (.iface 199 (.pointer (some ⟨kb, 0, none⟩)))]) (Kc := [⟨b8, 164, [some (.slice none 0 0), some (.slice none 0 0), some (.int .u8 ((0 : Nat) : Int)), some (.int .u8 ((0 : Nat) : Int)), some (.int .u8 ((0 : Nat) : Int)), some (.int .u8 ((0 : Nat) : Int)), some (.int .i8 ((0 : Nat) : Int)), some (.int .i8 ((0 : Nat) : Int)), some (.int .u32 ((0 : Nat) : Int)), some (.int .u32 ((0 : Nat) : Int)), some (.int .u32 ((0 : Nat) : Int)), some (.int .u64 ((0 : Nat) : Int)), some (.int .u64 ((0 : Nat) : Int)), some (.int .u64 ((0 : Nat) : Int)), some (.int .u64 ((0 : Nat) : Int)), some (.slice none 0 0)], true⟩]) (Bc := [Byt A n c bs]) [1] [0] [Byt A n c bs] ([⟨kb, 201, [some .nilIface], true⟩, ⟨b8, 164, [some (.slice (cutA A c 0) (n - 0) (c - 0)), some (.slice none 0 0), some (.int .u8 ((((nb bs 0) &&& 192) / 64 : Nat) : Int)), some (.int .u8 ((((nb bs 0) &&& 56) / 8 : Nat) : Int)), some (.int .u8 (((nb bs 0) &&& 7 : Nat) : Int)), some (.int .u8 ((nb bs 1 : Nat) : Int)), some (.int .i8 (IntKind.i8.wrap ((nb bs 2 : Nat) : Int))), some (.int .i8 (IntKind.i8.wrap ((nb bs 3 : Nat) : Int))), some (.int .u32 ((bN bs 4 4 : Nat) : Int)), some (.int .u32 ((bN bs 8 4 : Nat) : Int)), some (.int .u32 ((bN bs 12 4 : Nat) : Int)), some (.int .u64 ((bN bs 16 8 : Nat) : Int)), some (.int .u64 ((bN bs 24 8 : Nat) : Int)), some (.int .u64 ((bN bs 32 8 : Nat) : Int)), some (.int .u64 ((bN bs 40 8 : Nat) : Int)), some (.slice (cutA A c 48) (n - 48) (c - 48))], true⟩]) ([Byt A n c bs]) (by decide) rfl ca_100 (fun _ h => h) rfl rfl rfl rfl (fun w h => ntp_m1_1 w A n c bs b8 kb (by omega) (by omega) h) rfl rfl rfl rfl fun hf1 he2 => ?_)
  refine sq (St.closed _ _ _ _) (q_assign rfl) rfl ?_
  refine send ?_
  refine eseq ?_
  refine HT.seq ?_
  refine HT.seq ?_
  refine HT.plain ?_
  refine sq (St.closed _ _ _ _) (q_move rfl) rfl ?_
  refine sq (St.closed _ _ _ _) (q_notNil rfl rfl Tryz.underlying59) rfl ?_
  refine send ?_
  refine eseq ?_
  refine HT.no rfl ?_
  refine HT.skip ?_
  refine eseq ?_
  refine HT.seq ?_
  refine HT.plain ?_
  refine sq (St.closed _ _ _ _) (q_move rfl) rfl ?_
  refine sq (St.closed _ _ _ _) (q_move rfl) rfl ?_
  refine sq (St.closed _ _ _ _) (q_iface rfl Tryz.underlying153 (fun _ h => nomatch h)) rfl ?_
  refine sl_ (l_invX0 (vs := [(.iface 153 (.pointer (some ⟨b8, 0, none⟩)))]) (Kc := [⟨kb, 201, [some .nilIface], true⟩]) (Bc := []) [0] [] [Byt A n c bs] ([⟨b8, 164, [some (.slice (cutA A c 0) (n - 0) (c - 0)), some (.slice none 0 0), some (.int .u8 ((((nb bs 0) &&& 192) / 64 : Nat) : Int)), some (.int .u8 ((((nb bs 0) &&& 56) / 8 : Nat) : Int)), some (.int .u8 (((nb bs 0) &&& 7 : Nat) : Int)), some (.int .u8 ((nb bs 1 : Nat) : Int)), some (.int .i8 (IntKind.i8.wrap ((nb bs 2 : Nat) : Int))), some (.int .i8 (IntKind.i8.wrap ((nb bs 3 : Nat) : Int))), some (.int .u32 ((bN bs 4 4 : Nat) : Int)), some (.int .u32 ((bN bs 8 4 : Nat) : Int)), some (.int .u32 ((bN bs 12 4 : Nat) : Int)), some (.int .u64 ((bN bs 16 8 : Nat) : Int)), some (.int .u64 ((bN bs 24 8 : Nat) : Int)), some (.int .u64 ((bN bs 32 8 : Nat) : Int)), some (.int .u64 ((bN bs 40 8 : Nat) : Int)), some (.slice (cutA A c 48) (n - 48) (c - 48))], true⟩, ⟨kb, 201, [some (.iface 153 (.pointer (some ⟨b8, 0, none⟩)))], true⟩]) ([Byt A n c bs]) (by decide) rfl (fun w => me_199_AddLayer _ w) rfl ca_166 (fun _ h => h) rfl rfl rfl rfl (fun w h => addLayer w kb 153 b8  h) rfl rfl rfl rfl fun hf3 he4 => ?_)
  refine send ?_
  refine eseq ?_
  refine HT.seq ?_
  refine HT.plain ?_
  refine sq (St.closed _ _ _ _) (q_assign rfl) rfl ?_
  refine send ?_
  refine eseq ?_
  refine HT.ret ?_
  exact fun a ha w' hw => fin_ ha (res1 ha Tryz.results85 rfl) ⟨b8, rfl, (hw.wk [(1, []), (0, [])] rfl), fr0⟩

theorem ntp_z1 (w : World) (A : Option Addr) (n : Nat) (c : Nat) (bs : List UInt8) (hn : n ≤ 400) (ha : 48 ≤ n) (hst : St w [] [] [Byt A n c bs] w) : Calls Tryz.prog 58 #[(.string ⟨#[110, 116, 112]⟩), (.slice A n c)] w (CP1 w [] [Byt A n c bs] (fun b8 => (.tuple #[(.iface 153 (.pointer (some ⟨b8, 0, none⟩))), .nilIface])) (fun b8 => [⟨b8, 164, [some (.slice (cutA A c 0) (n - 0) (c - 0)), some (.slice none 0 0), some (.int .u8 ((((nb bs 0) &&& 192) / 64 : Nat) : Int)), some (.int .u8 ((((nb bs 0) &&& 56) / 8 : Nat) : Int)), some (.int .u8 (((nb bs 0) &&& 7 : Nat) : Int)), some (.int .u8 ((nb bs 1 : Nat) : Int)), some (.int .i8 (IntKind.i8.wrap ((nb bs 2 : Nat) : Int))), some (.int .i8 (IntKind.i8.wrap ((nb bs 3 : Nat) : Int))), some (.int .u32 ((bN bs 4 4 : Nat) : Int)), some (.int .u32 ((bN bs 8 4 : Nat) : Int)), some (.int .u32 ((bN bs 12 4 : Nat) : Int)), some (.int .u64 ((bN bs 16 8 : Nat) : Int)), some (.int .u64 ((bN bs 24 8 : Nat) : Int)), some (.int .u64 ((bN bs 32 8 : Nat) : Int)), some (.int .u64 ((bN bs 40 8 : Nat) : Int)), some (.slice (cutA A c 48) (n - 48) (c - 48))], true⟩]) (fun b8 => [])) := by
  have hnc00 : n ≤ c := (hst.fact (j := 0) rfl).2.1
  refine enter (vs := [(.string ⟨#[110, 116, 112]⟩), (.slice A n c)]) Tryz.func58 rfl rfl rfl hst ?_
  refine HT.seq ?_
  refine HT.plain ?_
  refine sq (St.closed _ _ _ _) (q_assign rfl) rfl ?_
  refine sq (St.closed _ _ _ _) (q_assign rfl) rfl ?_
  refine send ?_
  refine eseq ?_
  refine HT.seq ?_
  refine HT.plain ?_
  refine sq (St.closed _ _ _ _) (q_build (vs := []) (v := (.agg #[.nilIface])) rfl (fun _ => by kernel_rfl)) rfl ?_
  refine sl_ (l_box (by decide) rfl fun b9 => ?_)
  refine sq (St.closed _ _ _ _) (q_assign rfl) rfl ?_
  refine send ?_
  refine eseq ?_
  refine HT.seq ?_
  refine HT.plain ?_
  refine sl_ (l_callX1 (vs := [(.string ⟨#[110, 111, 32, 107, 105, 110, 100]⟩)]) (Kc := []) (Bc := []) [] [] [Byt A n c bs] (fun b5 => [⟨b9, 201, [some .nilIface], true⟩, ⟨b5, 206, [some (.string (⟨#[110, 111, 32, 107, 105, 110, 100]⟩))], true⟩]) (fun b5 => [Byt A n c bs]) (by decide) rfl ca_67 (fun _ h => h) rfl rfl rfl rfl (fun w h => errNew w (⟨#[110, 111, 32, 107, 105, 110, 100]⟩)  h) (fun _ => rfl) (fun _ => rfl) (fun _ => rfl) (fun _ => rfl) fun b5 hf1 he2 => ?_)
  refine sq (St.closed _ _ _ _) (q_assign rfl) rfl ?_
  refine send ?_
  refine eseq ?_
  refine HT.seq ?_
  refine HT.seq ?_
  refine HT.plain ?_
  refine sq (St.closed _ _ _ _) (q_move rfl) rfl ?_
  refine send ?_
  refine eseq ?_
  refine HT.block ?_
  refine HT.seq ?_
  refine HT.plain ?_
  refine sq (St.closed _ _ _ _) (q_eqs rfl rfl (r := false) (by kernel_rfl)) rfl ?_
  refine sq (St.closed _ _ _ _) (q_assign rfl) rfl ?_
  refine send ?_
  refine eseq ?_
  refine HT.no rfl ?_
  refine HT.seq ?_
  refine HT.plain ?_
  refine sq (St.closed _ _ _ _) (q_eqs rfl rfl (r := false) (by kernel_rfl)) rfl ?_
  refine sq (St.closed _ _ _ _) (q_assign rfl) rfl ?_
  refine send ?_
  refine eseq ?_
  refine HT.no rfl ?_
  refine HT.seq ?_
  refine HT.plain ?_
  refine sq (St.closed _ _ _ _) (q_eqs rfl rfl (r := false) (by kernel_rfl)) rfl ?_
  refine sq (St.closed _ _ _ _) (q_assign rfl) rfl ?_
  refine send ?_
  refine eseq ?_
  refine HT.no rfl ?_
  refine HT.seq ?_
  refine HT.plain ?_
  refine sq (St.closed _ _ _ _) (q_eqs rfl rfl (r := false) (by kernel_rfl)) rfl ?_
  refine sq (St.closed _ _ _ _) (q_assign rfl) rfl ?_
  refine send ?_
  refine eseq ?_
  refine HT.no rfl ?_
  refine HT.seq ?_
  refine HT.plain ?_
  refine sq (St.closed _ _ _ _) (q_eqs rfl rfl (r := false) (by kernel_rfl)) rfl ?_
  refine sq (St.closed _ _ _ _) (q_assign rfl) rfl ?_
  refine send ?_
  refine eseq ?_
  refine HT.no rfl ?_
  refine HT.seq ?_
  refine HT.plain ?_
  refine sq (St.closed _ _ _ _) (q_eqs rfl rfl (r := false) (by kernel_rfl)) rfl ?_
  refine sq (St.closed _ _ _ _) (q_assign rfl) rfl ?_
  refine send ?_
  refine eseq ?_
  refine HT.no rfl ?_
  refine HT.seq ?_
  refine HT.plain ?_
  refine sq (St.closed _ _ _ _) (q_eqs rfl rfl (r := false) (by kernel_rfl)) rfl ?_
  refine sq (St.closed _ _ _ _) (q_assign rfl) rfl ?_
  refine send ?_
  refine eseq ?_
  refine HT.no rfl ?_
  refine HT.seq ?_
  refine HT.plain ?_
  refine sq (St.closed _ _ _ _) (q_eqs rfl rfl (r := false) (by kernel_rfl)) rfl ?_
  refine sq (St.closed _ _ _ _) (q_assign rfl) rfl ?_
  refine send ?_
  refine eseq ?_
  refine HT.no rfl ?_
  refine HT.seq ?_
  refine HT.plain ?_
  refine sq (St.closed _ _ _ _) (q_eqs rfl rfl (r := false) (by kernel_rfl)) rfl ?_
  refine sq (St.closed _ _ _ _) (q_assign rfl) rfl ?_
  refine send ?_
  refine eseq ?_
  refine HT.no rfl ?_
  refine HT.seq ?_
  refine HT.plain ?_
  refine sq (St.closed _ _ _ _) (q_eqs rfl rfl (r := false) (by kernel_rfl)) rfl ?_
  refine sq (St.closed _ _ _ _) (q_assign rfl) rfl ?_
  refine send ?_
  refine eseq ?_
  refine HT.no rfl ?_
  refine HT.seq ?_
  refine HT.plain ?_
  refine sq (St.closed _ _ _ _) (q_eqs rfl rfl (r := false) (by kernel_rfl)) rfl ?_
  refine sq (St.closed _ _ _ _) (q_assign rfl) rfl ?_
  refine send ?_
  refine eseq ?_
  refine HT.no rfl ?_
  refine HT.seq ?_
  refine HT.plain ?_
  refine sq (St.closed _ _ _ _) (q_eqs rfl rfl (r := false) (by kernel_rfl)) rfl ?_
  refine sq (St.closed _ _ _ _) (q_assign rfl) rfl ?_
  refine send ?_
  refine eseq ?_
  refine HT.no rfl ?_
  refine HT.seq ?_
  refine HT.plain ?_
  refine sq (St.closed _ _ _ _) (q_eqs rfl rfl (r := false) (by kernel_rfl)) rfl ?_
  refine sq (St.closed _ _ _ _) (q_assign rfl) rfl ?_
  refine send ?_
  refine eseq ?_
  refine HT.no rfl ?_
  refine HT.seq ?_
  refine HT.plain ?_
  refine sq (St.closed _ _ _ _) (q_eqs rfl rfl (r := false) (by kernel_rfl)) rfl ?_
  refine sq (St.closed _ _ _ _) (q_assign rfl) rfl ?_
  refine send ?_
  refine eseq ?_
  refine HT.no rfl ?_
  refine HT.seq ?_
  refine HT.plain ?_
  refine sq (St.closed _ _ _ _) (q_eqs rfl rfl (r := false) (by kernel_rfl)) rfl ?_
  refine sq (St.closed _ _ _ _) (q_assign rfl) rfl ?_
  refine send ?_
  refine eseq ?_
  refine HT.no rfl ?_
  refine HT.seq ?_
  refine HT.plain ?_
  refine sq (St.closed _ _ _ _) (q_eqs rfl rfl (r := false) (by kernel_rfl)) rfl ?_
  refine sq (St.closed _ _ _ _) (q_assign rfl) rfl ?_
  refine send ?_
  refine eseq ?_
  refine HT.no rfl ?_
  refine HT.seq ?_
  refine HT.plain ?_
  refine sq (St.closed _ _ _ _) (q_eqs rfl rfl (r := false) (by kernel_rfl)) rfl ?_
  refine sq (St.closed _ _ _ _) (q_assign rfl) rfl ?_
  refine send ?_
  refine eseq ?_
  refine HT.no rfl ?_
  refine HT.seq ?_
  refine HT.plain ?_
  refine sq (St.closed _ _ _ _) (q_eqs rfl rfl (r := true) (by kernel_rfl)) rfl ?_
  refine sq (St.closed _ _ _ _) (q_assign rfl) rfl ?_
  refine send ?_
  refine eseq ?_
  refine HT.yes rfl ?_
  refine HT.plain ?_
  refine sq (St.closed _ _ _ _) (q_move rfl) rfl ?_
  refine sq (St.closed _ _ _ _) (q_move rfl) rfl ?_
  refine sq (St.closed _ _ _ _) (q_iface rfl Tryz.underlying199 (fun _ h => nomatch h)) rfl ?_
  refine sl_ (l_callX1 (vs := [(.slice A n c), (.iface 199 (.pointer (some ⟨b9, 0, none⟩)))]) (Kc := [⟨b9, 201, [some .nilIface], true⟩]) (Bc := [Byt A n c bs]) [0] [0] [Byt A n c bs] (fun b8 => [⟨b5, 206, [some (.string (⟨#[110, 111, 32, 107, 105, 110, 100]⟩))], true⟩, ⟨b9, 201, [some (.iface 153 (.pointer (some ⟨b8, 0, none⟩)))], true⟩, ⟨b8, 164, [some (.slice (cutA A c 0) (n - 0) (c - 0)), some (.slice none 0 0), some (.int .u8 ((((nb bs 0) &&& 192) / 64 : Nat) : Int)), some (.int .u8 ((((nb bs 0) &&& 56) / 8 : Nat) : Int)), some (.int .u8 (((nb bs 0) &&& 7 : Nat) : Int)), some (.int .u8 ((nb bs 1 : Nat) : Int)), some (.int .i8 (IntKind.i8.wrap ((nb bs 2 : Nat) : Int))), some (.int .i8 (IntKind.i8.wrap ((nb bs 3 : Nat) : Int))), some (.int .u32 ((bN bs 4 4 : Nat) : Int)), some (.int .u32 ((bN bs 8 4 : Nat) : Int)), some (.int .u32 ((bN bs 12 4 : Nat) : Int)), some (.int .u64 ((bN bs 16 8 : Nat) : Int)), some (.int .u64 ((bN bs 24 8 : Nat) : Int)), some (.int .u64 ((bN bs 32 8 : Nat) : Int)), some (.int .u64 ((bN bs 40 8 : Nat) : Int)), some (.slice (cutA A c 48) (n - 48) (c - 48))], true⟩]) (fun b8 => [Byt A n c bs]) (by decide) rfl ca_85 (fun _ h => h) rfl rfl rfl rfl (fun w h => ntp_d1 w A n c bs b9 (by omega) (by omega) h) (fun _ => rfl) (fun _ => rfl) (fun _ => rfl) (fun _ => rfl) fun b8 hf3 he4 => ?_)
  refine sq (St.closed _ _ _ _) (q_assign rfl) rfl ?_
  refine send ?_
  refine ein ?_
  refine eseq ?_
  refine HT.seq ?_
  refine HT.seq ?_
  refine HT.plain ?_
  refine sq (St.closed _ _ _ _) (q_move rfl) rfl ?_
  refine sq (St.closed _ _ _ _) (q_notNil rfl rfl Tryz.underlying59) rfl ?_
  refine send ?_
  refine eseq ?_
  refine HT.no rfl ?_
  refine HT.skip ?_
  refine eseq ?_
  refine HT.seq ?_
  refine HT.plain ?_
  refine sq (St.closed _ _ _ _) (q_move rfl) rfl ?_
  refine sq (St.closed _ _ _ _) (q_nil rfl) rfl ?_
  refine sq (St.closed _ _ _ _) (q_field (b := b9) (off := 0) rfl fo_201_0) rfl ?_
  refine sq (St.closed _ _ _ _) (q_load (b := b9) (off := 0) (j := 1) rfl nagg_43 (fun _ h => h) rfl rfl rfl) rfl ?_
  refine sq (St.closed _ _ _ _) (q_assign rfl) rfl ?_
  refine sq (St.closed _ _ _ _) (q_assign rfl) rfl ?_
  refine send ?_
  refine eseq ?_
  refine HT.ret ?_
  exact fun a ha w' hw => fin_ ha (res2 ha Tryz.results58 rfl rfl) ⟨b8, rfl, (hw.wk [(2, [])] rfl), fr0⟩

theorem ntp_e1 (w : World) (A : Option Addr) (n : Nat) (c : Nat) (bs : List UInt8) (hn : n ≤ 400) (ha : 48 ≤ n) (hst : St w [] [] [Byt A n c bs] w) : Calls Tryz.prog 46 #[(.string ⟨#[110, 116, 112]⟩), (.slice A n c)] w (CP3 w [] [Byt A n c bs] (fun b8 A5 c5 => (.tuple #[(.iface 153 (.pointer (some ⟨b8, 0, none⟩))), (.bool true)])) (fun b8 A5 c5 => [⟨b8, 164, [some (.slice (cutA A5 c5 0) (n - 0) (c5 - 0)), some (.slice none 0 0), some (.int .u8 ((((nb bs 0) &&& 192) / 64 : Nat) : Int)), some (.int .u8 ((((nb bs 0) &&& 56) / 8 : Nat) : Int)), some (.int .u8 (((nb bs 0) &&& 7 : Nat) : Int)), some (.int .u8 ((nb bs 1 : Nat) : Int)), some (.int .i8 (IntKind.i8.wrap ((nb bs 2 : Nat) : Int))), some (.int .i8 (IntKind.i8.wrap ((nb bs 3 : Nat) : Int))), some (.int .u32 ((bN bs 4 4 : Nat) : Int)), some (.int .u32 ((bN bs 8 4 : Nat) : Int)), some (.int .u32 ((bN bs 12 4 : Nat) : Int)), some (.int .u64 ((bN bs 16 8 : Nat) : Int)), some (.int .u64 ((bN bs 24 8 : Nat) : Int)), some (.int .u64 ((bN bs 32 8 : Nat) : Int)), some (.int .u64 ((bN bs 40 8 : Nat) : Int)), some (.slice (cutA A5 c5 48) (n - 48) (c5 - 48))], true⟩]) (fun b8 A5 c5 => [Byt A5 n c5 bs])) := by
  have hnc00 : n ≤ c := (hst.fact (j := 0) rfl).2.1
  refine enter (vs := [(.string ⟨#[110, 116, 112]⟩), (.slice A n c)]) Tryz.func46 rfl rfl rfl hst ?_
  refine HT.seq ?_
  refine HT.plain ?_
  refine sq (St.closed _ _ _ _) (q_assign rfl) rfl ?_
  refine sq (St.closed _ _ _ _) (q_assign rfl) rfl ?_
  refine send ?_
  refine eseq ?_
  refine HT.seq ?_
  refine HT.seq ?_
  refine HT.plain ?_
  refine sq (St.closed _ _ _ _) (q_move rfl) rfl ?_
  refine sq (St.closed _ _ _ _) (q_len (len := n) rfl Tryz.underlying22) rfl ?_
  refine sq (St.closed _ _ _ _) (q_F (q_gt (p := n) (q := 2000) rfl rfl) (by omega)) rfl ?_
  refine send ?_
  refine eseq ?_
  refine HT.no rfl ?_
  refine HT.skip ?_
  refine eseq ?_
  refine HT.seq ?_
  refine HT.plain ?_
  refine sq (St.closed _ _ _ _) (q_move rfl) rfl ?_
  refine sq (St.closed _ _ _ _) (q_assign rfl) rfl ?_
  refine send ?_
  refine eseq ?_
  refine HT.seq ?_
  refine HT.seq ?_
  refine HT.plain ?_
  refine sq (St.closed _ _ _ _) (q_move rfl) rfl ?_
  refine sq (St.closed _ _ _ _) (q_eqs rfl rfl (r := false) (by kernel_rfl)) rfl ?_
  refine sq (St.closed _ _ _ _) (q_move rfl) rfl ?_
  refine sgq (St.closed _ _ _ _) rfl (q_move rfl) rfl ?_
  refine sgq (St.closed _ _ _ _) rfl (q_eqs rfl rfl (r := false) (by kernel_rfl)) rfl ?_
  refine sq (St.closed _ _ _ _) (q_pick rfl (fun h => nomatch h) (fun _ => rfl)) rfl ?_
  refine send ?_
  refine eseq ?_
  refine HT.no rfl ?_
  refine HT.seq ?_
  refine HT.plain ?_
  refine sq (St.closed _ _ _ _) (q_move rfl) rfl ?_
  refine sq (St.closed _ _ _ _) (q_eqs rfl rfl (r := false) (by kernel_rfl)) rfl ?_
  refine send ?_
  refine eseq ?_
  refine HT.no rfl ?_
  refine HT.skip ?_
  refine eseq ?_
  refine HT.seq ?_
  refine HT.seq ?_
  refine HT.plain ?_
  refine sq (St.closed _ _ _ _) (q_move rfl) rfl ?_
  refine sq (St.closed _ _ _ _) (q_move rfl) rfl ?_
  refine sq (St.closed _ _ _ _) (q_call (vs := [(.string ⟨#[110, 116, 112]⟩), (.slice A n c)]) (v := (.bool true)) rfl ca_57 (fun w h => ntp_c1 w A n c bs (by omega) (by omega) (St.enter (sp := []) (Kc := []) (bi := [0]) h rfl rfl rfl))) rfl ?_
  refine sq (St.closed _ _ _ _) (q_not rfl) rfl ?_
  refine send ?_
  refine eseq ?_
  refine HT.no rfl ?_
  refine HT.skip ?_
  refine eseq ?_
  refine HT.seq ?_
  refine HT.plain ?_
  refine sq (St.closed _ _ _ _) (q_move rfl) rfl ?_
  refine sq (St.closed _ _ _ _) (q_move rfl) rfl ?_
  refine sl_ (l_callX2 (vs := [(.slice A n c)]) (Kc := []) (Bc := [Byt A n c bs]) [] [0] [Byt A n c bs] (fun A5 c5 => []) (fun A5 c5 => [Byt A n c bs, Byt A5 n c5 bs]) (by decide) rfl ca_59 (fun _ h => h) rfl rfl rfl rfl (fun w h => Clone w A n c bs (by omega) h) (fun _ _ => rfl) (fun _ _ => rfl) (fun _ _ => rfl) (fun _ _ => rfl) fun A5 c5 hf1 he2 => ?_)
  have hnc3 : n ≤ c5 := by obtain ⟨w, h⟩ := he2; exact (h _ List.mem_cons_self).2.1
  refine sl_ (l_callX1 (vs := [(.string ⟨#[110, 116, 112]⟩), (.slice A5 n c5)]) (Kc := []) (Bc := [Byt A5 n c5 bs]) [] [1] [Byt A n c bs, Byt A5 n c5 bs] (fun b8 => [⟨b8, 164, [some (.slice (cutA A5 c5 0) (n - 0) (c5 - 0)), some (.slice none 0 0), some (.int .u8 ((((nb bs 0) &&& 192) / 64 : Nat) : Int)), some (.int .u8 ((((nb bs 0) &&& 56) / 8 : Nat) : Int)), some (.int .u8 (((nb bs 0) &&& 7 : Nat) : Int)), some (.int .u8 ((nb bs 1 : Nat) : Int)), some (.int .i8 (IntKind.i8.wrap ((nb bs 2 : Nat) : Int))), some (.int .i8 (IntKind.i8.wrap ((nb bs 3 : Nat) : Int))), some (.int .u32 ((bN bs 4 4 : Nat) : Int)), some (.int .u32 ((bN bs 8 4 : Nat) : Int)), some (.int .u32 ((bN bs 12 4 : Nat) : Int)), some (.int .u64 ((bN bs 16 8 : Nat) : Int)), some (.int .u64 ((bN bs 24 8 : Nat) : Int)), some (.int .u64 ((bN bs 32 8 : Nat) : Int)), some (.int .u64 ((bN bs 40 8 : Nat) : Int)), some (.slice (cutA A5 c5 48) (n - 48) (c5 - 48))], true⟩]) (fun b8 => [Byt A n c bs, Byt A5 n c5 bs]) (by decide) rfl ca_58 (fun _ h => h) rfl rfl rfl rfl (fun w h => ntp_z1 w A5 n c5 bs (by omega) (by omega) h) (fun _ => rfl) (fun _ => rfl) (fun _ => rfl) (fun _ => rfl) fun b8 hf4 he5 => ?_)
  refine sq (St.closed _ _ _ _) (q_move rfl) rfl ?_
  refine sq (St.closed _ _ _ _) (q_extract (vs := [(.iface 153 (.pointer (some ⟨b8, 0, none⟩))), .nilIface]) (i := 0) rfl rfl) rfl ?_
  refine sq (St.closed _ _ _ _) (q_extract (vs := [(.iface 153 (.pointer (some ⟨b8, 0, none⟩))), .nilIface]) (i := 1) rfl rfl) rfl ?_
  refine sq (St.closed _ _ _ _) (q_assign rfl) rfl ?_
  refine sq (St.closed _ _ _ _) (q_assign rfl) rfl ?_
  refine send ?_
  refine eseq ?_
  refine HT.seq ?_
  refine HT.seq ?_
  refine HT.plain ?_
  refine sq (St.closed _ _ _ _) (q_move rfl) rfl ?_
  refine sq (St.closed _ _ _ _) (q_notNil rfl rfl Tryz.underlying59) rfl ?_
  refine sq (St.closed _ _ _ _) (q_move rfl) rfl ?_
  refine sgq (St.closed _ _ _ _) rfl (q_move rfl) rfl ?_
  refine sgq (St.closed _ _ _ _) rfl (q_isNil' rfl rfl Tryz.underlying43) rfl ?_
  refine sq (St.closed _ _ _ _) (q_pick rfl (fun h => nomatch h) (fun _ => rfl)) rfl ?_
  refine send ?_
  refine eseq ?_
  refine HT.no rfl ?_
  refine HT.skip ?_
  refine eseq ?_
  refine HT.seq ?_
  refine HT.seq ?_
  refine HT.plain ?_
  refine sq (St.closed _ _ _ _) (q_move rfl) rfl ?_
  refine sq (St.closed _ _ _ _) (q_isnt (T := 153) (z := (.pointer none)) rfl Tryz.underlying63 (fun _ h => nomatch h) (by decide) zero_63) rfl ?_
  refine sq (St.closed _ _ _ _) (q_move rfl) rfl ?_
  refine sq (St.closed _ _ _ _) (q_extract (vs := [(.pointer none), (.bool false)]) (i := 0) rfl rfl) rfl ?_
  refine sq (St.closed _ _ _ _) (q_extract (vs := [(.pointer none), (.bool false)]) (i := 1) rfl rfl) rfl ?_
  refine sq (St.closed _ _ _ _) (q_assign rfl) rfl ?_
  refine sq (St.closed _ _ _ _) (q_assign rfl) rfl ?_
  refine send ?_
  refine eseq ?_
  refine HT.seq ?_
  refine HT.plain ?_
  refine sq (St.closed _ _ _ _) (q_move rfl) rfl ?_
  refine sq (St.closed _ _ _ _) (q_move rfl) rfl ?_
  refine sq (St.closed _ _ _ _) (q_eqs rfl rfl (r := false) (by kernel_rfl)) rfl ?_
  refine sq (St.closed _ _ _ _) (q_neb rfl rfl Tryz.underlying4) rfl ?_
  refine sq (St.closed _ _ _ _) (q_move rfl) rfl ?_
  refine sskip rfl rfl ?_
  refine sskip rfl rfl ?_
  refine sq (St.closed _ _ _ _) (q_pick rfl (fun h => nomatch h) (fun _ => rfl)) rfl ?_
  refine send ?_
  refine eseq ?_
  refine HT.no rfl ?_
  refine HT.skip ?_
  refine eseq ?_
  refine HT.seq ?_
  refine HT.plain ?_
  refine sq (St.closed _ _ _ _) (q_move rfl) rfl ?_
  refine sq (St.closed _ _ _ _) (q_assign rfl) rfl ?_
  refine sq (St.closed _ _ _ _) (q_assign rfl) rfl ?_
  refine send ?_
  refine eseq ?_
  refine HT.ret ?_
  exact fun a ha w' hw => fin_ ha (res2 ha Tryz.results46 rfl rfl) ⟨b8, A5, c5, rfl, hw, (fr1 (hf1 _ List.mem_cons_self) fr0)⟩

theorem ntp_t1 (w : World) (A5 : Option Addr) (n : Nat) (c5 : Nat) (bs : List UInt8) (b8 : Nat) (hn : n ≤ 400) (ha : 48 ≤ n) (hst : St w [] [⟨b8, 164, [some (.slice (cutA A5 c5 0) (n - 0) (c5 - 0)), some (.slice none 0 0), some (.int .u8 ((((nb bs 0) &&& 192) / 64 : Nat) : Int)), some (.int .u8 ((((nb bs 0) &&& 56) / 8 : Nat) : Int)), some (.int .u8 (((nb bs 0) &&& 7 : Nat) : Int)), some (.int .u8 ((nb bs 1 : Nat) : Int)), some (.int .i8 (IntKind.i8.wrap ((nb bs 2 : Nat) : Int))), some (.int .i8 (IntKind.i8.wrap ((nb bs 3 : Nat) : Int))), some (.int .u32 ((bN bs 4 4 : Nat) : Int)), some (.int .u32 ((bN bs 8 4 : Nat) : Int)), some (.int .u32 ((bN bs 12 4 : Nat) : Int)), some (.int .u64 ((bN bs 16 8 : Nat) : Int)), some (.int .u64 ((bN bs 24 8 : Nat) : Int)), some (.int .u64 ((bN bs 32 8 : Nat) : Int)), some (.int .u64 ((bN bs 40 8 : Nat) : Int)), some (.slice (cutA A5 c5 48) (n - 48) (c5 - 48))], false⟩] [Byt A5 n c5 bs] w) : Calls Tryz.prog 47 #[(.iface 153 (.pointer (some ⟨b8, 0, none⟩))), (.slice none 0 0)] w (IP w (Byt A5 n c5 bs) (some (some ⟨[(nb bs 0) / 64, ((nb bs 0) / 8) &&& 7, (nb bs 0) &&& 7, nb bs 1, nb bs 2, nb bs 3, bN bs 4 4, bN bs 8 4, bN bs 12 4, bN bs 16 8, bN bs 24 8, bN bs 32 8, bN bs 40 8], [sl bs 48 n], [], []⟩))) := by
  have hnc00 : n ≤ c5 := (hst.fact (j := 0) rfl).2.1
  refine enter (vs := [(.iface 153 (.pointer (some ⟨b8, 0, none⟩))), (.slice none 0 0)]) Tryz.func47 rfl rfl rfl hst ?_
  refine HT.seq ?_
  refine HT.plain ?_
  refine sl_ (l_alloc (by decide) zero_29 fun b4 => ?_)
  refine sq (St.closed _ _ _ _) (q_assign rfl) rfl ?_
  refine send ?_
  refine eseq ?_
  refine HT.seq ?_
  refine HT.plain ?_
  refine sq (St.closed _ _ _ _) (q_move rfl) rfl ?_
  refine sq (St.closed _ _ _ _) (q_call (vs := [(.slice none 0 0)]) (v := (.slice none 0 0)) rfl ca_60 (fun w h => cloneNil w   (St.enter (sp := []) (Kc := []) (bi := []) h rfl rfl rfl))) rfl ?_
  refine sq (St.closed _ _ _ _) (q_build (vs := [(3, (.slice none 0 0))]) (v := (.agg #[(.slice none 0 0), (.slice none 0 0), (.slice none 0 0), (.slice none 0 0)])) rfl (fun _ => by kernel_rfl)) rfl ?_
  refine sl_ (l_box (by decide) rfl fun b50 => ?_)
  refine sq (St.closed _ _ _ _) (q_assign rfl) rfl ?_
  refine send ?_
  refine eseq ?_
  refine HT.seq ?_
  refine HT.seq ?_
  refine HT.plain ?_
  refine sq (St.closed _ _ _ _) (q_move rfl) rfl ?_
  refine send ?_
  refine eseq ?_
  refine HT.block ?_
  refine HT.seq ?_
  refine HT.plain ?_
  refine sq (St.closed _ _ _ _) (q_isnt (T := 153) (z := (.pointer none)) rfl Tryz.underlying66 (fun _ h => nomatch h) (by decide) zero_66) rfl ?_
  refine sq (St.closed _ _ _ _) (q_extract (vs := [(.pointer none), (.bool false)]) (i := 1) rfl rfl) rfl ?_
  refine sq (St.closed _ _ _ _) (q_extract (vs := [(.pointer none), (.bool false)]) (i := 0) rfl rfl) rfl ?_
  refine send ?_
  refine eseq ?_
  refine HT.no rfl ?_
  refine HT.seq ?_
  refine HT.plain ?_
  refine sq (St.closed _ _ _ _) (q_isnt (T := 153) (z := (.pointer none)) rfl Tryz.underlying73 (fun _ h => nomatch h) (by decide) zero_73) rfl ?_
  refine sq (St.closed _ _ _ _) (q_extract (vs := [(.pointer none), (.bool false)]) (i := 1) rfl rfl) rfl ?_
  refine sq (St.closed _ _ _ _) (q_extract (vs := [(.pointer none), (.bool false)]) (i := 0) rfl rfl) rfl ?_
  refine send ?_
  refine eseq ?_
  refine HT.no rfl ?_
  refine HT.seq ?_
  refine HT.plain ?_
  refine sq (St.closed _ _ _ _) (q_isnt (T := 153) (z := (.pointer none)) rfl Tryz.underlying78 (fun _ h => nomatch h) (by decide) zero_78) rfl ?_
  refine sq (St.closed _ _ _ _) (q_extract (vs := [(.pointer none), (.bool false)]) (i := 1) rfl rfl) rfl ?_
  refine sq (St.closed _ _ _ _) (q_extract (vs := [(.pointer none), (.bool false)]) (i := 0) rfl rfl) rfl ?_
  refine send ?_
  refine eseq ?_
  refine HT.no rfl ?_
  refine HT.seq ?_
  refine HT.plain ?_
  refine sq (St.closed _ _ _ _) (q_isnt (T := 153) (z := (.pointer none)) rfl Tryz.underlying81 (fun _ h => nomatch h) (by decide) zero_81) rfl ?_
  refine sq (St.closed _ _ _ _) (q_extract (vs := [(.pointer none), (.bool false)]) (i := 1) rfl rfl) rfl ?_
  refine sq (St.closed _ _ _ _) (q_extract (vs := [(.pointer none), (.bool false)]) (i := 0) rfl rfl) rfl ?_
  refine send ?_
  refine eseq ?_
  refine HT.no rfl ?_
  refine HT.seq ?_
  refine HT.plain ?_
  refine sq (St.closed _ _ _ _) (q_isnt (T := 153) (z := (.pointer none)) rfl Tryz.underlying85 (fun _ h => nomatch h) (by decide) zero_85) rfl ?_
  refine sq (St.closed _ _ _ _) (q_extract (vs := [(.pointer none), (.bool false)]) (i := 1) rfl rfl) rfl ?_
  refine sq (St.closed _ _ _ _) (q_extract (vs := [(.pointer none), (.bool false)]) (i := 0) rfl rfl) rfl ?_
  refine send ?_
  refine eseq ?_
  refine HT.no rfl ?_
  refine HT.seq ?_
  refine HT.plain ?_
  refine sq (St.closed _ _ _ _) (q_isnt (T := 153) (z := (.pointer none)) rfl Tryz.underlying89 (fun _ h => nomatch h) (by decide) zero_89) rfl ?_
  refine sq (St.closed _ _ _ _) (q_extract (vs := [(.pointer none), (.bool false)]) (i := 1) rfl rfl) rfl ?_
  refine sq (St.closed _ _ _ _) (q_extract (vs := [(.pointer none), (.bool false)]) (i := 0) rfl rfl) rfl ?_
  refine send ?_
  refine eseq ?_
  refine HT.no rfl ?_
  refine HT.seq ?_
  refine HT.plain ?_
  refine sq (St.closed _ _ _ _) (q_isnt (T := 153) (z := (.pointer none)) rfl Tryz.underlying94 (fun _ h => nomatch h) (by decide) zero_94) rfl ?_
  refine sq (St.closed _ _ _ _) (q_extract (vs := [(.pointer none), (.bool false)]) (i := 1) rfl rfl) rfl ?_
  refine sq (St.closed _ _ _ _) (q_extract (vs := [(.pointer none), (.bool false)]) (i := 0) rfl rfl) rfl ?_
  refine send ?_
  refine eseq ?_
  refine HT.no rfl ?_
  refine HT.seq ?_
  refine HT.plain ?_
  refine sq (St.closed _ _ _ _) (q_isnt (T := 153) (z := (.pointer none)) rfl Tryz.underlying95 (fun _ h => nomatch h) (by decide) zero_95) rfl ?_
  refine sq (St.closed _ _ _ _) (q_extract (vs := [(.pointer none), (.bool false)]) (i := 1) rfl rfl) rfl ?_
  refine sq (St.closed _ _ _ _) (q_extract (vs := [(.pointer none), (.bool false)]) (i := 0) rfl rfl) rfl ?_
  refine send ?_
  refine eseq ?_
  refine HT.no rfl ?_
  refine HT.seq ?_
  refine HT.plain ?_
  refine sq (St.closed _ _ _ _) (q_isnt (T := 153) (z := (.pointer none)) rfl Tryz.underlying99 (fun _ h => nomatch h) (by decide) zero_99) rfl ?_
  refine sq (St.closed _ _ _ _) (q_extract (vs := [(.pointer none), (.bool false)]) (i := 1) rfl rfl) rfl ?_
  refine sq (St.closed _ _ _ _) (q_extract (vs := [(.pointer none), (.bool false)]) (i := 0) rfl rfl) rfl ?_
  refine send ?_
  refine eseq ?_
  refine HT.no rfl ?_
  refine HT.seq ?_
  refine HT.plain ?_
  refine sq (St.closed _ _ _ _) (q_isnt (T := 153) (z := (.pointer none)) rfl Tryz.underlying105 (fun _ h => nomatch h) (by decide) zero_105) rfl ?_
  refine sq (St.closed _ _ _ _) (q_extract (vs := [(.pointer none), (.bool false)]) (i := 1) rfl rfl) rfl ?_
  refine sq (St.closed _ _ _ _) (q_extract (vs := [(.pointer none), (.bool false)]) (i := 0) rfl rfl) rfl ?_
  refine send ?_
  refine eseq ?_
  refine HT.no rfl ?_
  refine HT.seq ?_
  refine HT.plain ?_
  refine sq (St.closed _ _ _ _) (q_isnt (T := 153) (z := (.pointer none)) rfl Tryz.underlying110 (fun _ h => nomatch h) (by decide) zero_110) rfl ?_
  refine sq (St.closed _ _ _ _) (q_extract (vs := [(.pointer none), (.bool false)]) (i := 1) rfl rfl) rfl ?_
  refine sq (St.closed _ _ _ _) (q_extract (vs := [(.pointer none), (.bool false)]) (i := 0) rfl rfl) rfl ?_
  refine send ?_
  refine eseq ?_
  refine HT.no rfl ?_
  refine HT.seq ?_
  refine HT.plain ?_
  refine sq (St.closed _ _ _ _) (q_isnt (T := 153) (z := (.pointer none)) rfl Tryz.underlying114 (fun _ h => nomatch h) (by decide) zero_114) rfl ?_
  refine sq (St.closed _ _ _ _) (q_extract (vs := [(.pointer none), (.bool false)]) (i := 1) rfl rfl) rfl ?_
  refine sq (St.closed _ _ _ _) (q_extract (vs := [(.pointer none), (.bool false)]) (i := 0) rfl rfl) rfl ?_
  refine send ?_
  refine eseq ?_
  refine HT.no rfl ?_
  refine HT.seq ?_
  refine HT.plain ?_
  refine sq (St.closed _ _ _ _) (q_isnt (T := 153) (z := (.pointer none)) rfl Tryz.underlying121 (fun _ h => nomatch h) (by decide) zero_121) rfl ?_
  refine sq (St.closed _ _ _ _) (q_extract (vs := [(.pointer none), (.bool false)]) (i := 1) rfl rfl) rfl ?_
  refine sq (St.closed _ _ _ _) (q_extract (vs := [(.pointer none), (.bool false)]) (i := 0) rfl rfl) rfl ?_
  refine send ?_
  refine eseq ?_
  refine HT.no rfl ?_
  refine HT.seq ?_
  refine HT.plain ?_
  refine sq (St.closed _ _ _ _) (q_isnt (T := 153) (z := (.pointer none)) rfl Tryz.underlying127 (fun _ h => nomatch h) (by decide) zero_127) rfl ?_
  refine sq (St.closed _ _ _ _) (q_extract (vs := [(.pointer none), (.bool false)]) (i := 1) rfl rfl) rfl ?_
  refine sq (St.closed _ _ _ _) (q_extract (vs := [(.pointer none), (.bool false)]) (i := 0) rfl rfl) rfl ?_
  refine send ?_
  refine eseq ?_
  refine HT.no rfl ?_
  refine HT.seq ?_
  refine HT.plain ?_
  refine sq (St.closed _ _ _ _) (q_isnt (T := 153) (z := (.pointer none)) rfl Tryz.underlying130 (fun _ h => nomatch h) (by decide) zero_130) rfl ?_
  refine sq (St.closed _ _ _ _) (q_extract (vs := [(.pointer none), (.bool false)]) (i := 1) rfl rfl) rfl ?_
  refine sq (St.closed _ _ _ _) (q_extract (vs := [(.pointer none), (.bool false)]) (i := 0) rfl rfl) rfl ?_
  refine send ?_
  refine eseq ?_
  refine HT.no rfl ?_
  refine HT.seq ?_
  refine HT.plain ?_
  refine sq (St.closed _ _ _ _) (q_isnt (T := 153) (z := (.pointer none)) rfl Tryz.underlying133 (fun _ h => nomatch h) (by decide) zero_133) rfl ?_
  refine sq (St.closed _ _ _ _) (q_extract (vs := [(.pointer none), (.bool false)]) (i := 1) rfl rfl) rfl ?_
  refine sq (St.closed _ _ _ _) (q_extract (vs := [(.pointer none), (.bool false)]) (i := 0) rfl rfl) rfl ?_
  refine send ?_
  refine eseq ?_
  refine HT.no rfl ?_
  refine HT.seq ?_
  refine HT.plain ?_
  refine sq (St.closed _ _ _ _) (q_isnt (T := 153) (z := (.pointer none)) rfl Tryz.underlying137 (fun _ h => nomatch h) (by decide) zero_137) rfl ?_
  refine sq (St.closed _ _ _ _) (q_extract (vs := [(.pointer none), (.bool false)]) (i := 1) rfl rfl) rfl ?_
  refine sq (St.closed _ _ _ _) (q_extract (vs := [(.pointer none), (.bool false)]) (i := 0) rfl rfl) rfl ?_
  refine send ?_
  refine eseq ?_
  refine HT.no rfl ?_
  refine HT.seq ?_
  refine HT.plain ?_
  refine sq (St.closed _ _ _ _) (q_is rfl Tryz.underlying153 (fun _ h => nomatch h)) rfl ?_
  refine sq (St.closed _ _ _ _) (q_extract (vs := [(.pointer (some ⟨b8, 0, none⟩)), (.bool true)]) (i := 1) rfl rfl) rfl ?_
  refine sq (St.closed _ _ _ _) (q_extract (vs := [(.pointer (some ⟨b8, 0, none⟩)), (.bool true)]) (i := 0) rfl rfl) rfl ?_
  refine send ?_
  refine eseq ?_
  refine HT.yes rfl ?_
  refine HT.seq ?_
  refine HT.plain ?_
  refine sq (St.closed _ _ _ _) (q_assign rfl) rfl ?_
  refine send ?_
  refine eseq ?_
  refine HT.seq ?_
  refine HT.drawn mixed (St.closed _ _ _ _) (St w [] [⟨b8, 164, [some (.slice (cutA A5 c5 0) (n - 0) (c5 - 0)), some (.slice none 0 0), some (.int .u8 ((((nb bs 0) &&& 192) / 64 : Nat) : Int)), some (.int .u8 ((((nb bs 0) &&& 56) / 8 : Nat) : Int)), some (.int .u8 (((nb bs 0) &&& 7 : Nat) : Int)), some (.int .u8 ((nb bs 1 : Nat) : Int)), some (.int .i8 (IntKind.i8.wrap ((nb bs 2 : Nat) : Int))), some (.int .i8 (IntKind.i8.wrap ((nb bs 3 : Nat) : Int))), some (.int .u32 ((bN bs 4 4 : Nat) : Int)), some (.int .u32 ((bN bs 8 4 : Nat) : Int)), some (.int .u32 ((bN bs 12 4 : Nat) : Int)), some (.int .u64 ((bN bs 16 8 : Nat) : Int)), some (.int .u64 ((bN bs 24 8 : Nat) : Int)), some (.int .u64 ((bN bs 32 8 : Nat) : Int)), some (.int .u64 ((bN bs 40 8 : Nat) : Int)), some (.slice (cutA A5 c5 48) (n - 48) (c5 - 48))], false⟩, ⟨b4, 29, [some (.slice none 0 0), some (.slice none 0 0), some (.slice none 0 0), some (.slice none 0 0)], true⟩, ⟨b50, 29, [none, some (.slice none 0 0), some (.slice none 0 0), some (.slice none 0 0)], true⟩] [Byt A5 n c5 bs]) ?_
  refine dtake (f := 4) [0, 1, 2, 3, 4, 5, 6, 7, 8, 9, 10, 11, 12, 13, 14, 15, 16, 17, 18, 19, 20, 21, 22, 23, 24, 25, 26, 27, 28, 29, 30, 31, 32, 33, 34, 35, 36, 37, 38, 39, 40, 41, 42, 43, 44, 45, 46, 47, 48, 49, 50, 51, 52, 53, 54, 55, 56, 57, 58, 59, 60, 61, 62, 63] (by kernel_rfl) (St.closed _ _ _ _) (fun _ h => (h.wk [(0, []), (1, []), (2, [0])] rfl)) (by kernel_rfl) ?_
  refine dq rfl (q_move rfl) ?_
  refine dq rfl (q_move rfl) ?_
  refine dq rfl (q_nil rfl) ?_
  refine dq rfl (q_field (b := b8) (off := 0) rfl fo_164_1) ?_
  refine dq rfl (q_load (b := b8) (off := 2) (j := 0) rfl nagg_154 (fun _ h => h) rfl rfl rfl) ?_
  refine dq rfl (q_convn (p := ((nb bs 0) &&& 192) / 64) rfl Tryz.underlying154 Tryz.underlying39 (show ((nb bs 0) &&& 192) / 64 < 18446744073709551616 by have := nb_lt bs 0; have := Nat.and_le_left (n := nb bs 0) (m := 192); have := Nat.and_le_right (n := nb bs 0) (m := 192); omega)) ?_
  refine dq rfl (q_move rfl) ?_
  refine dq rfl (q_nil rfl) ?_
  refine dq rfl (q_field (b := b8) (off := 0) rfl fo_164_2) ?_
  refine dq rfl (q_load (b := b8) (off := 3) (j := 0) rfl nagg_155 (fun _ h => h) rfl rfl rfl) ?_
  refine dq rfl (q_convn (p := ((nb bs 0) &&& 56) / 8) rfl Tryz.underlying155 Tryz.underlying39 (show ((nb bs 0) &&& 56) / 8 < 18446744073709551616 by have := nb_lt bs 0; have := Nat.and_le_left (n := nb bs 0) (m := 56); have := Nat.and_le_right (n := nb bs 0) (m := 56); omega)) ?_
  refine dq rfl (q_move rfl) ?_
  refine dq rfl (q_nil rfl) ?_
  refine dq rfl (q_field (b := b8) (off := 0) rfl fo_164_3) ?_
  refine dq rfl (q_load (b := b8) (off := 4) (j := 0) rfl nagg_156 (fun _ h => h) rfl rfl rfl) ?_
  refine dq rfl (q_convn (p := (nb bs 0) &&& 7) rfl Tryz.underlying156 Tryz.underlying39 (show (nb bs 0) &&& 7 < 18446744073709551616 by have := nb_lt bs 0; have := zm7 (nb bs 0); have := Nat.and_le_left (n := nb bs 0) (m := 7); have := Nat.and_le_right (n := nb bs 0) (m := 7); omega)) ?_
  refine dq rfl (q_move rfl) ?_
  refine dq rfl (q_nil rfl) ?_
  refine dq rfl (q_field (b := b8) (off := 0) rfl fo_164_4) ?_
  refine dq rfl (q_load (b := b8) (off := 5) (j := 0) rfl nagg_157 (fun _ h => h) rfl rfl rfl) ?_
  refine dq rfl (q_convn (p := nb bs 1) rfl Tryz.underlying157 Tryz.underlying39 (show nb bs 1 < 18446744073709551616 by have := nb_lt bs 1; omega)) ?_
  refine dq rfl (q_move rfl) ?_
  refine dq rfl (q_nil rfl) ?_
  refine dq rfl (q_field (b := b8) (off := 0) rfl fo_164_5) ?_
  refine dq rfl (q_load (b := b8) (off := 6) (j := 0) rfl nagg_159 (fun _ h => h) rfl rfl rfl) ?_
  refine dq rfl (q_conv88 (p := nb bs 2) rfl Tryz.underlying159 Tryz.underlying5 (by have := nb_lt bs 2; omega)) ?_
  refine dq rfl (q_convn (p := nb bs 2) rfl Tryz.underlying5 Tryz.underlying39 (show nb bs 2 < 18446744073709551616 by have := nb_lt bs 2; omega)) ?_
  refine dq rfl (q_move rfl) ?_
  refine dq rfl (q_nil rfl) ?_
  refine dq rfl (q_field (b := b8) (off := 0) rfl fo_164_6) ?_
  refine dq rfl (q_load (b := b8) (off := 7) (j := 0) rfl nagg_159 (fun _ h => h) rfl rfl rfl) ?_
  refine dq rfl (q_conv88 (p := nb bs 3) rfl Tryz.underlying159 Tryz.underlying5 (by have := nb_lt bs 3; omega)) ?_
  refine dq rfl (q_convn (p := nb bs 3) rfl Tryz.underlying5 Tryz.underlying39 (show nb bs 3 < 18446744073709551616 by have := nb_lt bs 3; omega)) ?_
  refine dq rfl (q_move rfl) ?_
  refine dq rfl (q_nil rfl) ?_
  refine dq rfl (q_field (b := b8) (off := 0) rfl fo_164_7) ?_
  refine dq rfl (q_load (b := b8) (off := 8) (j := 0) rfl nagg_160 (fun _ h => h) rfl rfl rfl) ?_
  refine dq rfl (q_convn (p := bN bs 4 4) rfl Tryz.underlying160 Tryz.underlying39 (show bN bs 4 4 < 18446744073709551616 by have := bN_lt bs 4 4 4294967296 rfl; omega)) ?_
  refine dq rfl (q_move rfl) ?_
  refine dq rfl (q_nil rfl) ?_
  refine dq rfl (q_field (b := b8) (off := 0) rfl fo_164_8) ?_
  refine dq rfl (q_load (b := b8) (off := 9) (j := 0) rfl nagg_160 (fun _ h => h) rfl rfl rfl) ?_
  refine dq rfl (q_convn (p := bN bs 8 4) rfl Tryz.underlying160 Tryz.underlying39 (show bN bs 8 4 < 18446744073709551616 by have := bN_lt bs 8 4 4294967296 rfl; omega)) ?_
  refine dq rfl (q_move rfl) ?_
  refine dq rfl (q_nil rfl) ?_
  refine dq rfl (q_field (b := b8) (off := 0) rfl fo_164_9) ?_
  refine dq rfl (q_load (b := b8) (off := 10) (j := 0) rfl nagg_161 (fun _ h => h) rfl rfl rfl) ?_
  refine dq rfl (q_convn (p := bN bs 12 4) rfl Tryz.underlying161 Tryz.underlying39 (show bN bs 12 4 < 18446744073709551616 by have := bN_lt bs 12 4 4294967296 rfl; omega)) ?_
  refine dq rfl (q_move rfl) ?_
  refine dq rfl (q_nil rfl) ?_
  refine dq rfl (q_field (b := b8) (off := 0) rfl fo_164_10) ?_
  refine dq rfl (q_load (b := b8) (off := 11) (j := 0) rfl nagg_162 (fun _ h => h) rfl rfl rfl) ?_
  refine dq rfl (q_move rfl) ?_
  refine dq rfl (q_nil rfl) ?_
  refine dq rfl (q_field (b := b8) (off := 0) rfl fo_164_11) ?_
  refine dq rfl (q_load (b := b8) (off := 12) (j := 0) rfl nagg_162 (fun _ h => h) rfl rfl rfl) ?_
  refine dq rfl (q_move rfl) ?_
  refine dq rfl (q_nil rfl) ?_
  refine dq rfl (q_field (b := b8) (off := 0) rfl fo_164_12) ?_
  refine dq rfl (q_load (b := b8) (off := 13) (j := 0) rfl nagg_162 (fun _ h => h) rfl rfl rfl) ?_
  refine dq rfl (q_move rfl) ?_
  refine dq rfl (q_nil rfl) ?_
  refine dq rfl (q_field (b := b8) (off := 0) rfl fo_164_13) ?_
  refine dq rfl (q_load (b := b8) (off := 14) (j := 0) rfl nagg_162 (fun _ h => h) rfl rfl rfl) ?_
  refine QL.nil ?_
  refine RG.step1 64 (by kernel_rfl) ?_
  refine dop rfl (l_buildSlice (e := 39) (vs := [(0, (.int .u64 ((((nb bs 0) &&& 192) / 64 : Nat) : Int))), (1, (.int .u64 ((((nb bs 0) &&& 56) / 8 : Nat) : Int))), (2, (.int .u64 (((nb bs 0) &&& 7 : Nat) : Int))), (3, (.int .u64 ((nb bs 1 : Nat) : Int))), (4, (.int .u64 ((nb bs 2 : Nat) : Int))), (5, (.int .u64 ((nb bs 3 : Nat) : Int))), (6, (.int .u64 ((bN bs 4 4 : Nat) : Int))), (7, (.int .u64 ((bN bs 8 4 : Nat) : Int))), (8, (.int .u64 ((bN bs 12 4 : Nat) : Int))), (9, (.int .u64 ((bN bs 16 8 : Nat) : Int))), (10, (.int .u64 ((bN bs 24 8 : Nat) : Int))), (11, (.int .u64 ((bN bs 32 8 : Nat) : Int))), (12, (.int .u64 ((bN bs 40 8 : Nat) : Int)))]) (cs := [(.int .u64 ((((nb bs 0) &&& 192) / 64 : Nat) : Int)), (.int .u64 ((((nb bs 0) &&& 56) / 8 : Nat) : Int)), (.int .u64 (((nb bs 0) &&& 7 : Nat) : Int)), (.int .u64 ((nb bs 1 : Nat) : Int)), (.int .u64 ((nb bs 2 : Nat) : Int)), (.int .u64 ((nb bs 3 : Nat) : Int)), (.int .u64 ((bN bs 4 4 : Nat) : Int)), (.int .u64 ((bN bs 8 4 : Nat) : Int)), (.int .u64 ((bN bs 12 4 : Nat) : Int)), (.int .u64 ((bN bs 16 8 : Nat) : Int)), (.int .u64 ((bN bs 24 8 : Nat) : Int)), (.int .u64 ((bN bs 32 8 : Nat) : Int)), (.int .u64 ((bN bs 40 8 : Nat) : Int))]) (by decide) rfl (fun _ => by kernel_rfl) fun b854 => ⟨(fun _ h => (h.wk [(0, []), (1, []), (2, [0])] rfl)), ?_⟩)
  refine dtake (f := 1) [65, 66] (by kernel_rfl) (St.closed _ _ _ _) (fun _ h => (h.wk [(0, []), (1, []), (2, [0])] rfl)) (by kernel_rfl) ?_
  refine dq rfl (q_nil rfl) ?_
  refine dq rfl (q_field (b := b50) (off := 0) rfl fo_29_0) ?_
  refine QL.nil ?_
  refine RG.step1 67 (by kernel_rfl) ?_
  refine dop rfl (l_store (b := b50) (off := 0) (j := 2) rfl rfl nagg_25 rfl rfl rfl rfl (dlt rfl) ⟨(fun _ h => (h.wk [(0, []), (1, []), (2, [0])] rfl)), ?_⟩)
  refine dend (by kernel_rfl) ?_
  refine eseq ?_
  refine HT.plain ?_
  refine sq (St.closed _ _ _ _) (q_move rfl) rfl ?_
  refine sq (St.closed _ _ _ _) (q_move rfl) rfl ?_
  refine sq (St.closed _ _ _ _) (q_nil rfl) rfl ?_
  refine sq (St.closed _ _ _ _) (q_field (b := b8) (off := 0) rfl fo_164_14) rfl ?_
  refine sq (St.closed _ _ _ _) (q_load (b := b8) (off := 15) (j := 0) rfl nagg_22 (fun _ h => h) rfl rfl rfl) rfl ?_
  refine sl_ (l_callX2 (vs := [(.slice (cutA A5 c5 48) (n - 48) (c5 - 48))]) (Kc := []) (Bc := [Byt (cutA A5 c5 48) (n - 48) (c5 - 48) (sl bs 48 n)]) [] [1] [Byt A5 n c5 bs, Byt (cutA A5 c5 48) (n - 48) (c5 - 48) (sl bs 48 n)] (fun A5_1 c5_1 => [⟨b8, 164, [some (.slice (cutA A5 c5 0) (n - 0) (c5 - 0)), some (.slice none 0 0), some (.int .u8 ((((nb bs 0) &&& 192) / 64 : Nat) : Int)), some (.int .u8 ((((nb bs 0) &&& 56) / 8 : Nat) : Int)), some (.int .u8 (((nb bs 0) &&& 7 : Nat) : Int)), some (.int .u8 ((nb bs 1 : Nat) : Int)), some (.int .i8 (IntKind.i8.wrap ((nb bs 2 : Nat) : Int))), some (.int .i8 (IntKind.i8.wrap ((nb bs 3 : Nat) : Int))), some (.int .u32 ((bN bs 4 4 : Nat) : Int)), some (.int .u32 ((bN bs 8 4 : Nat) : Int)), some (.int .u32 ((bN bs 12 4 : Nat) : Int)), some (.int .u64 ((bN bs 16 8 : Nat) : Int)), some (.int .u64 ((bN bs 24 8 : Nat) : Int)), some (.int .u64 ((bN bs 32 8 : Nat) : Int)), some (.int .u64 ((bN bs 40 8 : Nat) : Int)), some (.slice (cutA A5 c5 48) (n - 48) (c5 - 48))], false⟩, ⟨b4, 29, [some (.slice none 0 0), some (.slice none 0 0), some (.slice none 0 0), some (.slice none 0 0)], true⟩, ⟨b50, 29, [some (.slice (some ⟨b854, 0, none⟩) 13 13), some (.slice none 0 0), some (.slice none 0 0), some (.slice none 0 0)], true⟩, ⟨b854, 39, [some (.int .u64 ((((nb bs 0) &&& 192) / 64 : Nat) : Int)), some (.int .u64 ((((nb bs 0) &&& 56) / 8 : Nat) : Int)), some (.int .u64 (((nb bs 0) &&& 7 : Nat) : Int)), some (.int .u64 ((nb bs 1 : Nat) : Int)), some (.int .u64 ((nb bs 2 : Nat) : Int)), some (.int .u64 ((nb bs 3 : Nat) : Int)), some (.int .u64 ((bN bs 4 4 : Nat) : Int)), some (.int .u64 ((bN bs 8 4 : Nat) : Int)), some (.int .u64 ((bN bs 12 4 : Nat) : Int)), some (.int .u64 ((bN bs 16 8 : Nat) : Int)), some (.int .u64 ((bN bs 24 8 : Nat) : Int)), some (.int .u64 ((bN bs 32 8 : Nat) : Int)), some (.int .u64 ((bN bs 40 8 : Nat) : Int))], true⟩]) (fun A5_1 c5_1 => [Byt A5 n c5 bs, Byt A5_1 (n - 48) c5_1 (sl bs 48 n)]) (by decide) rfl ca_60 (fun _ h => (h.cut (j := 0) (lo := 48) (hi := n) rfl (by omega) (by omega))) rfl rfl rfl rfl (fun w h => clone w (cutA A5 c5 48) (n - 48) (c5 - 48) (sl bs 48 n) (by omega) h) (fun _ _ => rfl) (fun _ _ => rfl) (fun _ _ => rfl) (fun _ _ => rfl) fun A5_1 c5_1 hf1 he2 => ?_)
  have hnc3 : (n - 48) ≤ c5_1 := by obtain ⟨w, h⟩ := he2; exact (h _ List.mem_cons_self).2.1
  refine sl_ (l_buildSlice (e := 22) (vs := [(0, (.slice A5_1 (n - 48) c5_1))]) (cs := [(.slice A5_1 (n - 48) c5_1)]) (by decide) rfl (fun _ => by kernel_rfl) fun b863 => ?_)
  refine sq (St.closed _ _ _ _) (q_nil rfl) rfl ?_
  refine sq (St.closed _ _ _ _) (q_field (b := b50) (off := 0) rfl fo_29_1) rfl ?_
  refine sl_ (l_store (b := b50) (off := 1) (j := 2) rfl rfl nagg_26 rfl rfl rfl rfl (dlt rfl) ?_)
  refine send ?_
  refine ein ?_
  refine eseq ?_
  refine HT.seq ?_
  refine HT.plain ?_
  refine sq (St.closed _ _ _ _) (q_move rfl) rfl ?_
  refine sq (St.closed _ _ _ _) (q_nil rfl) rfl ?_
  refine sq (St.closed _ _ _ _) (q_loadAgg (b := b50) (off := 0) (j := 2) (vs := [(.slice (some ⟨b854, 0, none⟩) 13 13), (.slice (some ⟨b863, 0, none⟩) 1 1), (.slice none 0 0), (.slice none 0 0)]) rfl aggs_29 (fun _ h => h) rfl rfl rfl) rfl ?_
  refine sl_ (l_storeAgg (b := b4) (off := 0) (j := 1) (vs := [(.slice (some ⟨b854, 0, none⟩) 13 13), (.slice (some ⟨b863, 0, none⟩) 1 1), (.slice none 0 0), (.slice none 0 0)]) rfl rfl aggs_29 (by simp [Value.one1]) rfl rfl rfl (Nat.le_of_ble_eq_true rfl) ?_)
  refine sq (St.closed _ _ _ _) (q_assign rfl) rfl ?_
  refine send ?_
  refine eseq ?_
  refine HT.ret ?_
  exact fun a ha w' hw => fin_ ha (resc2 ha Tryz.results47 rfl (ld_ aggs_29 hw (j := 1) rfl rfl (vs := [(.slice (some ⟨b854, 0, none⟩) 13 13), (.slice (some ⟨b863, 0, none⟩) 1 1), (.slice none 0 0), (.slice none 0 0)]) rfl) rfl) ⟨⟨⟨some ⟨b854, 0, none⟩, 13, 13, [((nb bs 0) &&& 192) / 64, ((nb bs 0) &&& 56) / 8, (nb bs 0) &&& 7, nb bs 1, nb bs 2, nb bs 3, bN bs 4 4, bN bs 8 4, bN bs 12 4, bN bs 16 8, bN bs 24 8, bN bs 32 8, bN bs 40 8]⟩, some ⟨b863, 0, none⟩, 1, 1, [⟨A5_1, (n - 48), c5_1, (sl bs 48 n)⟩], none, 0, 0, [], ⟨none, 0, 0, []⟩⟩, rfl, hw.pres, Own.lay (all1 (Own.cel hw (j := 3) (sz := 1) (r := []) rfl rfl rfl rfl (Nat.le_refl _)) (all1 (Own.cel hw (j := 4) (sz := 1) (r := []) rfl rfl rfl rfl (Nat.le_refl _)) (all1 (Own.nilCel 2) (all1 Own.nilByt (all1 (Own.byt hw (j := 1) rfl (fun b h => .inl ((hf1 _ List.mem_cons_self) b h))) all0))))), (LD_eq (lc (show ((nb bs 0) &&& 192) / 64 = (nb bs 0) / 64 from by ((have := nb_lt bs 0; (try simp only [zd224, zd240, zd192, zd24, zd56, zd65520, zd4, zd8, zd48, zd112]) <;> (try simp only [zt1, zt2, zt4, zt8, zt16, zt32, zt64, zt128, zt256, zt512, zt1024, zt2048, zt4096, zt8192]) <;> (try simp only [zm1, zm3, zm7, zm15, zm31, zm63, zm127, zm255, zm1023, zm4095, zm1048575, zb1, zb2, zb4, zb8, zb16, zb32, zb64, zb128, zb256, zb512, zb1024, zb2048, zb4096, zb8192, lN, bN, Nat.zero_mul, Nat.zero_add, Nat.add_zero, Nat.reduceAdd, Nat.reduceDiv, Nat.reduceMul]) <;> omega))) (lc (show ((nb bs 0) &&& 56) / 8 = ((nb bs 0) / 8) &&& 7 from by ((have := nb_lt bs 0; (try simp only [zd224, zd240, zd192, zd24, zd56, zd65520, zd4, zd8, zd48, zd112]) <;> (try simp only [zt1, zt2, zt4, zt8, zt16, zt32, zt64, zt128, zt256, zt512, zt1024, zt2048, zt4096, zt8192]) <;> (try simp only [zm1, zm3, zm7, zm15, zm31, zm63, zm127, zm255, zm1023, zm4095, zm1048575, zb1, zb2, zb4, zb8, zb16, zb32, zb64, zb128, zb256, zb512, zb1024, zb2048, zb4096, zb8192, lN, bN, Nat.zero_mul, Nat.zero_add, Nat.add_zero, Nat.reduceAdd, Nat.reduceDiv, Nat.reduceMul]) <;> omega))) (lc rfl (lc rfl (lc rfl (lc rfl (lc rfl (lc rfl (lc rfl (lc rfl (lc rfl (lc rfl (lc rfl rfl))))))))))))) (lc (show (sl bs 48 n) = sl bs 48 n from by first | rfl | (exact sl_nil (by omega)) | (congr 1 <;> omega) | (rw [sl_sl (by omega)]; congr 1 <;> omega)) rfl) rfl rfl)⟩

theorem ntp_I1 (w : World) (A : Option Addr) (n : Nat) (c : Nat) (bs : List UInt8) (hn : n ≤ 400) (ha : 48 ≤ n) (hst : St w [] [] [Byt A n c bs] w) : Calls Tryz.prog 27 #[(.string ⟨#[110, 116, 112]⟩), (.slice A n c)] w (IP w (Byt A n c bs) (some (some ⟨[(nb bs 0) / 64, ((nb bs 0) / 8) &&& 7, (nb bs 0) &&& 7, nb bs 1, nb bs 2, nb bs 3, bN bs 4 4, bN bs 8 4, bN bs 12 4, bN bs 16 8, bN bs 24 8, bN bs 32 8, bN bs 40 8], [sl bs 48 n], [], []⟩))) := by
  have hnc00 : n ≤ c := (hst.fact (j := 0) rfl).2.1
  refine enter (vs := [(.string ⟨#[110, 116, 112]⟩), (.slice A n c)]) Tryz.func27 rfl rfl rfl hst ?_
  refine HT.seq ?_
  refine HT.plain ?_
  refine sl_ (l_alloc (by decide) zero_29 fun b4 => ?_)
  refine sq (St.closed _ _ _ _) (q_assign rfl) rfl ?_
  refine send ?_
  refine eseq ?_
  refine HT.seq ?_
  refine HT.plain ?_
  refine sq (St.closed _ _ _ _) (q_move rfl) rfl ?_
  refine sq (St.closed _ _ _ _) (q_move rfl) rfl ?_
  refine sl_ (l_callX3 (vs := [(.string ⟨#[110, 116, 112]⟩), (.slice A n c)]) (Kc := []) (Bc := [Byt A n c bs]) [] [0] [Byt A n c bs] (fun b8 A5 c5 => [⟨b4, 29, [some (.slice none 0 0), some (.slice none 0 0), some (.slice none 0 0), some (.slice none 0 0)], true⟩, ⟨b8, 164, [some (.slice (cutA A5 c5 0) (n - 0) (c5 - 0)), some (.slice none 0 0), some (.int .u8 ((((nb bs 0) &&& 192) / 64 : Nat) : Int)), some (.int .u8 ((((nb bs 0) &&& 56) / 8 : Nat) : Int)), some (.int .u8 (((nb bs 0) &&& 7 : Nat) : Int)), some (.int .u8 ((nb bs 1 : Nat) : Int)), some (.int .i8 (IntKind.i8.wrap ((nb bs 2 : Nat) : Int))), some (.int .i8 (IntKind.i8.wrap ((nb bs 3 : Nat) : Int))), some (.int .u32 ((bN bs 4 4 : Nat) : Int)), some (.int .u32 ((bN bs 8 4 : Nat) : Int)), some (.int .u32 ((bN bs 12 4 : Nat) : Int)), some (.int .u64 ((bN bs 16 8 : Nat) : Int)), some (.int .u64 ((bN bs 24 8 : Nat) : Int)), some (.int .u64 ((bN bs 32 8 : Nat) : Int)), some (.int .u64 ((bN bs 40 8 : Nat) : Int)), some (.slice (cutA A5 c5 48) (n - 48) (c5 - 48))], true⟩]) (fun b8 A5 c5 => [Byt A n c bs, Byt A5 n c5 bs]) (by decide) rfl ca_46 (fun _ h => h) rfl rfl rfl rfl (fun w h => ntp_e1 w A n c bs (by omega) (by omega) h) (fun _ _ _ => rfl) (fun _ _ _ => rfl) (fun _ _ _ => rfl) (fun _ _ _ => rfl) fun b8 A5 c5 hf1 he2 => ?_)
  have hnc3 : n ≤ c5 := by obtain ⟨w, h⟩ := he2; exact (h _ List.mem_cons_self).2.1
  refine sq (St.closed _ _ _ _) (q_move rfl) rfl ?_
  refine sq (St.closed _ _ _ _) (q_extract (vs := [(.iface 153 (.pointer (some ⟨b8, 0, none⟩))), (.bool true)]) (i := 0) rfl rfl) rfl ?_
  refine sq (St.closed _ _ _ _) (q_extract (vs := [(.iface 153 (.pointer (some ⟨b8, 0, none⟩))), (.bool true)]) (i := 1) rfl rfl) rfl ?_
  refine sq (St.closed _ _ _ _) (q_assign rfl) rfl ?_
  refine sq (St.closed _ _ _ _) (q_assign rfl) rfl ?_
  refine send ?_
  refine eseq ?_
  refine HT.seq ?_
  refine HT.seq ?_
  refine HT.plain ?_
  refine sq (St.closed _ _ _ _) (q_move rfl) rfl ?_
  refine sq (St.closed _ _ _ _) (q_not rfl) rfl ?_
  refine send ?_
  refine eseq ?_
  refine HT.no rfl ?_
  refine HT.skip ?_
  refine eseq ?_
  refine HT.seq ?_
  refine HT.plain ?_
  refine sq (St.closed _ _ _ _) (q_move rfl) rfl ?_
  refine sq (St.closed _ _ _ _) (q_move rfl) rfl ?_
  refine sq (St.closed _ _ _ _) (q_invoke (vs := []) (v := (.slice none 0 0)) rfl (fun w => me_153_LayerPayload _ w) rfl ca_120 (fun w h => layPay0 w b8 164 _ _ _ (h.ro (j := 1) rfl))) rfl ?_
  refine sl_ (l_callLay (vs := [(.iface 153 (.pointer (some ⟨b8, 0, none⟩))), (.slice none 0 0)]) (tup := fun L => .tuple #[L.val, .bool true]) 1 (by decide) rfl ca_47 rfl (fun w h => ntp_t1 w A5 n c5 bs b8 (by omega) (by omega) (h.ro2 (j := 1) rfl (bi := [1]) rfl)) fun L20 hfr hda hoL => ?_)
  refine sq (St.closed _ _ _ _) (q_extract (vs := [(.agg #[(L20.nums.val), (.slice L20.dA L20.dn L20.dc), (.slice L20.pA L20.pn L20.pc), (L20.pay.val)]), (.bool true)]) (i := 0) rfl rfl) rfl ?_
  refine sq (St.closed _ _ _ _) (q_extract (vs := [(.agg #[(L20.nums.val), (.slice L20.dA L20.dn L20.dc), (.slice L20.pA L20.pn L20.pc), (L20.pay.val)]), (.bool true)]) (i := 1) rfl rfl) rfl ?_
  refine sl_ (l_storeAgg (b := b4) (off := 0) (j := 0) (vs := [(L20.nums.val), (.slice L20.dA L20.dn L20.dc), (.slice L20.pA L20.pn L20.pc), (L20.pay.val)]) rfl rfl aggs_29 (by simp [Value.one1]) rfl rfl rfl (Nat.le_of_ble_eq_true rfl) ?_)
  refine sq (St.closed _ _ _ _) (q_assign rfl) rfl ?_
  refine send ?_
  refine eseq ?_
  refine HT.ret ?_
  exact fun a ha w' hw => fin_ ha (resc2 ha Tryz.results27 rfl (ld_ aggs_29 hw (j := 0) rfl rfl (vs := [(L20.nums.val), (.slice L20.dA L20.dn L20.dc), (.slice L20.pA L20.pn L20.pc), (L20.pay.val)]) rfl) rfl) ⟨L20, rfl, hw.pres, ⟨hw.fact (j := 2) rfl, fun i hi => (hfr i hi).elim .inl (fun h => .inl ((hf1 _ List.mem_cons_self) i h))⟩, hda⟩
end Go.Proofs.YtfkaafbeeegenaaGreat.Zed
