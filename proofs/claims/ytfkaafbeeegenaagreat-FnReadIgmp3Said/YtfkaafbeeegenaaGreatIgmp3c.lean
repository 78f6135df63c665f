/- igmp3: the package, case 2 -/
import Derived.Test.YtfkaafbeeegenaaGreatIgmp30
import Derived.KernelRfl
namespace Go.Proofs.YtfkaafbeeegenaaGreat.Zed
set_option linter.unusedVariables false
set_option linter.unusedSimpArgs false
set_option maxRecDepth 100000
set_option maxHeartbeats 60000000


theorem igmp3_c2 (w : World) (A : Option Addr) (n : Nat) (c : Nat) (bs : List UInt8) (N : Nat) (hn : n ≤ 400) (ha : 8 ≤ n) (hb : nb bs 0 = 17) (hc : 12 ≤ n) (hd : nb bs 1 < 128) (he : nb bs 9 < 128) (hf : 12 + 4 * bN bs 10 2 ≤ n) (hg : bN bs 10 2 = N) (hst : St w [] [] [Byt A n c bs] w) : Calls Tryz.prog 57 #[(.string ⟨#[105, 103, 109, 112, 51]⟩), (.slice A n c)] w (fun e w' => e = .returned (.bool true) ∧ Pres [] w w') := by
  have hnc00 : n ≤ c := (hst.fact (j := 0) rfl).2.1
  have hbl : n = bs.length := (hst.fact (j := 0) rfl).1
  refine enter (vs := [(.string ⟨#[105, 103, 109, 112, 51]⟩), (.slice A n c)]) Tryz.func57 rfl rfl rfl hst ?_
  refine HT.seq ?_
  refine HT.plain ?_
  refine sAs rfl rfl ?_
  refine send ?_
  refine eseq ?_
  refine HT.seq ?_
  refine HT.seq ?_
  refine HT.plain ?_
  refine sMv rfl rfl ?_
  refine send ?_
  refine eseq ?_
  refine HT.block ?_
  refine HT.seq ?_
  refine HT.plain ?_
  refine sqS (q_eqs rfl rfl (r := false) (by kernel_rfl)) rfl ?_
  refine sAs rfl rfl ?_
  refine send ?_
  refine eseq ?_
  refine HT.no rfl ?_
  refine HT.seq ?_
  refine HT.plain ?_
  refine sqS (q_eqs rfl rfl (r := false) (by kernel_rfl)) rfl ?_
  refine sAs rfl rfl ?_
  refine send ?_
  refine eseq ?_
  refine HT.no rfl ?_
  refine HT.seq ?_
  refine HT.plain ?_
  refine sqS (q_eqs rfl rfl (r := false) (by kernel_rfl)) rfl ?_
  refine sAs rfl rfl ?_
  refine send ?_
  refine eseq ?_
  refine HT.no rfl ?_
  refine HT.seq ?_
  refine HT.plain ?_
  refine sqS (q_eqs rfl rfl (r := false) (by kernel_rfl)) rfl ?_
  refine sAs rfl rfl ?_
  refine send ?_
  refine eseq ?_
  refine HT.no rfl ?_
  refine HT.seq ?_
  refine HT.plain ?_
  refine sqS (q_eqs rfl rfl (r := false) (by kernel_rfl)) rfl ?_
  refine sAs rfl rfl ?_
  refine send ?_
  refine eseq ?_
  refine HT.no rfl ?_
  refine HT.seq ?_
  refine HT.seq ?_
  refine HT.plain ?_
  refine sqS (q_eqs rfl rfl (r := false) (by kernel_rfl)) rfl ?_
  refine sAs rfl rfl ?_
  refine send ?_
  refine eseq ?_
  refine HT.no rfl ?_
  refine HT.seq ?_
  refine HT.plain ?_
  refine sqS (q_eqs rfl rfl (r := false) (by kernel_rfl)) rfl ?_
  refine sAs rfl rfl ?_
  refine send ?_
  refine eseq ?_
  refine HT.no rfl ?_
  refine HT.plain ?_
  refine sqS (q_eqs rfl rfl (r := false) (by kernel_rfl)) rfl ?_
  refine sAs rfl rfl ?_
  refine send ?_
  refine eseq ?_
  refine HT.no rfl ?_
  refine HT.seq ?_
  refine HT.plain ?_
  refine sqS (q_eqs rfl rfl (r := false) (by kernel_rfl)) rfl ?_
  refine sAs rfl rfl ?_
  refine send ?_
  refine eseq ?_
  refine HT.no rfl ?_
  refine HT.seq ?_
  refine HT.plain ?_
  refine sqS (q_eqs rfl rfl (r := false) (by kernel_rfl)) rfl ?_
  refine sAs rfl rfl ?_
  refine send ?_
  refine eseq ?_
  refine HT.no rfl ?_
  refine HT.seq ?_
  refine HT.plain ?_
  refine sqS (q_eqs rfl rfl (r := false) (by kernel_rfl)) rfl ?_
  refine sAs rfl rfl ?_
  refine send ?_
  refine eseq ?_
  refine HT.no rfl ?_
  refine HT.seq ?_
  refine HT.plain ?_
  refine sqS (q_eqs rfl rfl (r := false) (by kernel_rfl)) rfl ?_
  refine sAs rfl rfl ?_
  refine send ?_
  refine eseq ?_
  refine HT.no rfl ?_
  refine HT.seq ?_
  refine HT.plain ?_
  refine sqS (q_eqs rfl rfl (r := false) (by kernel_rfl)) rfl ?_
  refine sAs rfl rfl ?_
  refine send ?_
  refine eseq ?_
  refine HT.no rfl ?_
  refine HT.seq ?_
  refine HT.plain ?_
  refine sqS (q_eqs rfl rfl (r := false) (by kernel_rfl)) rfl ?_
  refine sAs rfl rfl ?_
  refine send ?_
  refine eseq ?_
  refine HT.no rfl ?_
  refine HT.skip ?_
  refine ein ?_
  refine eseq ?_
  refine HT.seq ?_
  refine HT.plain ?_
  refine sAs rfl rfl ?_
  refine send ?_
  refine eseq ?_
  refine HT.ret ?_
  exact fun a ha w' hw => fin_ ha (res1 ha Tryz.results57 rfl) ⟨rfl, hw.pres⟩

abbrev igmp3_m1_2_k0 (rb : Nat) (bs : List UInt8) (A : Option Addr) (c : Nat) (v : Value) : Kb := ⟨rb, 179, [some (.slice none 0 0), some (.slice none 0 0), some (.int .u8 ((nb bs 0 : Nat) : Int)), some (.int .i64 ((100000000 * (nb bs 1) : Nat) : Int)), some (.int .u16 ((bN bs 2 2 : Nat) : Int)), some (.slice (cutA A c 4) (8 - 4) (c - 4)), some (.bool (decide ((nb bs 8) &&& 8 ≠ 0))), some (.int .u8 (((nb bs 8) &&& 7 : Nat) : Int)), some (.int .i64 ((100000000 * (nb bs 9) : Nat) : Int)), some v, some (.int .u16 ((0 : Nat) : Int)), some (.int .u16 ((bN bs 10 2 : Nat) : Int)), some (.slice none 0 0), some (.int .u8 ((3 : Nat) : Int))], true⟩
abbrev igmp3_m1_2_k1 (rb : Nat) (bs : List UInt8) (A : Option Addr) (c : Nat) (v92 : Value) : Kb := ⟨rb, 179, [some (.slice none 0 0), some (.slice none 0 0), some (.int .u8 ((nb bs 0 : Nat) : Int)), some (.int .i64 ((100000000 * (nb bs 1) : Nat) : Int)), some (.int .u16 ((bN bs 2 2 : Nat) : Int)), some (.slice (cutA A c 4) (8 - 4) (c - 4)), some (.bool (decide ((nb bs 8) &&& 8 ≠ 0))), some (.int .u8 (((nb bs 8) &&& 7 : Nat) : Int)), some (.int .i64 ((100000000 * (nb bs 9) : Nat) : Int)), some v92, some (.int .u16 ((0 : Nat) : Int)), some (.int .u16 ((bN bs 10 2 : Nat) : Int)), some (.slice none 0 0), some (.int .u8 ((3 : Nat) : Int))], true⟩
abbrev igmp3_m1_2_k2 (b91 : Nat) (A : Option Addr) (c : Nat) (i : Nat) : Kb := ⟨b91, 171, [some (.slice (cutA A c (12 + (i * 4))) ((16 + (i * 4)) - (12 + (i * 4))) (c - (12 + (i * 4))))], true⟩

theorem igmp3_m1_2 (w : World) (A : Option Addr) (n : Nat) (c : Nat) (bs : List UInt8) (N : Nat) (rb : Nat) (hn : n ≤ 400) (ha : 8 ≤ n) (hb : nb bs 0 = 17) (hc : 12 ≤ n) (hd : nb bs 1 < 128) (he : nb bs 9 < 128) (hf : 12 + 4 * bN bs 10 2 ≤ n) (hg : bN bs 10 2 = N) (hst : St w [rb] [⟨rb, 179, [some (.slice none 0 0), some (.slice none 0 0), some (.int .u8 ((nb bs 0 : Nat) : Int)), some (.int .i64 ((0 : Nat) : Int)), some (.int .u16 ((0 : Nat) : Int)), some (.slice none 0 0), some (.bool false), some (.int .u8 ((0 : Nat) : Int)), some (.int .i64 ((0 : Nat) : Int)), some (.slice none 0 0), some (.int .u16 ((0 : Nat) : Int)), some (.int .u16 ((0 : Nat) : Int)), some (.slice none 0 0), some (.int .u8 ((3 : Nat) : Int))], true⟩] [Byt A n c bs] w) : Calls Tryz.prog 122 #[(.pointer (some ⟨rb, 0, none⟩)), (.slice A n c)] w (CP2 w [rb] [Byt A n c bs] (fun AQ cQ => .nilIface) (fun AQ cQ => [⟨rb, 179, [some (.slice none 0 0), some (.slice none 0 0), some (.int .u8 ((nb bs 0 : Nat) : Int)), some (.int .i64 ((100000000 * (nb bs 1) : Nat) : Int)), some (.int .u16 ((bN bs 2 2 : Nat) : Int)), some (.slice (cutA A c 4) (8 - 4) (c - 4)), some (.bool (decide ((nb bs 8) &&& 8 ≠ 0))), some (.int .u8 (((nb bs 8) &&& 7 : Nat) : Int)), some (.int .i64 ((100000000 * (nb bs 9) : Nat) : Int)), some (.slice AQ N cQ), some (.int .u16 ((0 : Nat) : Int)), some (.int .u16 ((bN bs 10 2 : Nat) : Int)), some (.slice none 0 0), some (.int .u8 ((3 : Nat) : Int))], true⟩]) (fun AQ cQ => [Cel AQ N cQ 1 (rowX (fun j => [.slice (cutA A c (12 + (j * 4))) ((16 + (j * 4)) - (12 + (j * 4))) (c - (12 + (j * 4)))]) N)])) := by
  have hnc00 : n ≤ c := (hst.fact (j := 0) rfl).2.1
  have hbl : n = bs.length := (hst.fact (j := 0) rfl).1
  refine enter (vs := [(.pointer (some ⟨rb, 0, none⟩)), (.slice A n c)]) Tryz.func122 rfl rfl rfl hst ?_
  refine HT.seq ?_
  refine HT.plain ?_
  refine sAs rfl rfl ?_
  refine send ?_
  refine eseq ?_
  refine HT.seq ?_
  refine HT.seq ?_
  refine HT.plain ?_
  refine sMv rfl rfl ?_
  refine sqS (q_len (len := n) rfl Tryz.underlying22) rfl ?_
  refine sqS (q_F (q_lt (p := n) (q := 12) rfl rfl) (by omega)) rfl ?_
  refine send ?_
  refine eseq ?_
  refine HT.no rfl ?_
  refine HT.skip ?_
  refine eseq ?_
  refine HT.seq ?_
  refine HT.plain ?_
  refine sMv rfl rfl ?_
  refine sMv rfl rfl ?_
  refine sqS (q_index (i := 1) (j := 0) rfl rfl Tryz.underlying22 nagg_5 (fun _ h => h) rfl (by omega)) rfl ?_
  refine sqS (q_byte (i := 1) (j := 0) rfl nagg_5 (fun _ h => h) rfl (by omega)) rfl ?_
  refine sqS (q_call (vs := [(.int .u8 ((nb bs 1 : Nat) : Int))]) (v := (.int .i64 ((100000000 * (nb bs 1) : Nat) : Int))) rfl ca_124 (fun w h => igmpTime w (nb bs 1) (by have := nb_lt bs 1; omega) (St.enter (sp := []) (Kc := []) (bi := []) h rfl rfl rfl))) rfl ?_
  refine sqS (q_nil rfl) rfl ?_
  refine sqS (q_field (b := rb) (off := 0) rfl fo_179_2) rfl ?_
  refine sl_ (l_store (b := rb) (off := 3) (j := 0) rfl rfl nagg_174 rfl rfl rfl rfl (dlt rfl) ?_)
  refine send ?_
  refine eseq ?_
  refine HT.norm [⟨rb, 179, [some (.slice none 0 0), some (.slice none 0 0), some (.int .u8 ((nb bs 0 : Nat) : Int)), some (.int .i64 ((100000000 * (nb bs 1) : Nat) : Int)), some (.int .u16 ((0 : Nat) : Int)), some (.slice none 0 0), some (.bool false), some (.int .u8 ((0 : Nat) : Int)), some (.int .i64 ((0 : Nat) : Int)), some (.slice none 0 0), some (.int .u16 ((0 : Nat) : Int)), some (.int .u16 ((0 : Nat) : Int)), some (.slice none 0 0), some (.int .u8 ((3 : Nat) : Int))], true⟩] [Byt A n c bs] rfl rfl ?_
  refine HT.seq ?_
  refine HT.drawn mixed (St.closed _ _ _ _) (St w [rb] [⟨rb, 179, [some (.slice none 0 0), some (.slice none 0 0), some (.int .u8 ((nb bs 0 : Nat) : Int)), some (.int .i64 ((100000000 * (nb bs 1) : Nat) : Int)), none, some (.slice none 0 0), some (.bool false), some (.int .u8 ((0 : Nat) : Int)), some (.int .i64 ((0 : Nat) : Int)), some (.slice none 0 0), some (.int .u16 ((0 : Nat) : Int)), some (.int .u16 ((0 : Nat) : Int)), some (.slice none 0 0), some (.int .u8 ((3 : Nat) : Int))], true⟩] [Byt A n c bs]) ?_
  refine dtake (f := 1) [0, 1, 2, 3, 4, 5, 6] (by kernel_rfl) (St.closed _ _ _ _) (fun _ h => (h.wk [(0, [4])] rfl)) (by kernel_rfl) ?_
  refine dq rfl (q_move rfl) ?_
  refine dq rfl (q_loadEmpty rfl aggs_210) ?_
  refine dq rfl (q_move rfl) ?_
  refine dq rfl (q_slice (lo := 2) (hi := 4) rfl Tryz.underlying22 nagg_5 (.inr ⟨_, _, rfl, rfl⟩) (.inr ⟨_, _, rfl, rfl⟩) (by omega) (by omega)) ?_
  refine dq rfl (q_call (vs := [(.agg #[]), (.slice (cutA A c 2) (4 - 2) (c - 2))]) (v := (.int .u16 ((bN bs 2 2 : Nat) : Int))) rfl ca_91 (fun w h => U16 w A n c bs (lo := 2) (hi := 4) (h.fact (j := 0) rfl) (by omega) (by omega))) ?_
  refine dq rfl (q_nil rfl) ?_
  refine dq rfl (q_field (b := rb) (off := 0) rfl fo_179_3) ?_
  refine QL.nil ?_
  refine RG.step1 7 (by kernel_rfl) ?_
  refine dop rfl (l_store (b := rb) (off := 4) (j := 0) rfl rfl nagg_70 rfl rfl rfl rfl (dlt rfl) ⟨(fun _ h => (h.wk [(0, [4])] rfl)), ?_⟩)
  refine dend (by kernel_rfl) ?_
  refine eseq ?_
  refine HT.norm [⟨rb, 179, [some (.slice none 0 0), some (.slice none 0 0), some (.int .u8 ((nb bs 0 : Nat) : Int)), some (.int .i64 ((100000000 * (nb bs 1) : Nat) : Int)), some (.int .u16 ((bN bs 2 2 : Nat) : Int)), some (.slice none 0 0), some (.bool false), some (.int .u8 ((0 : Nat) : Int)), some (.int .i64 ((0 : Nat) : Int)), some (.slice none 0 0), some (.int .u16 ((0 : Nat) : Int)), some (.int .u16 ((0 : Nat) : Int)), some (.slice none 0 0), some (.int .u8 ((3 : Nat) : Int))], true⟩] [Byt A n c bs] rfl rfl ?_
  refine HT.seq ?_
  refine HT.plain ?_
  refine sMv rfl rfl ?_
  refine sMv rfl rfl ?_
  refine sqS (q_index (i := 8) (j := 0) rfl rfl Tryz.underlying22 nagg_5 (fun _ h => h) rfl (by omega)) rfl ?_
  refine sqS (q_byte (i := 8) (j := 0) rfl nagg_5 (fun _ h => h) rfl (by omega)) rfl ?_
  refine sqS (q_and (p := nb bs 8) (q := 8) rfl rfl rfl (show nb bs 8 < 256 by have := nb_lt bs 8; omega) (by decide)) rfl ?_
  refine sqS (q_ne (p := (nb bs 8) &&& 8) (q := 0) rfl rfl) rfl ?_
  refine sqS (q_nil rfl) rfl ?_
  refine sqS (q_field (b := rb) (off := 0) rfl fo_179_5) rfl ?_
  refine sl_ (l_store (b := rb) (off := 6) (j := 0) rfl rfl nagg_4 rfl rfl rfl rfl (dlt rfl) ?_)
  refine send ?_
  refine eseq ?_
  refine HT.norm [⟨rb, 179, [some (.slice none 0 0), some (.slice none 0 0), some (.int .u8 ((nb bs 0 : Nat) : Int)), some (.int .i64 ((100000000 * (nb bs 1) : Nat) : Int)), some (.int .u16 ((bN bs 2 2 : Nat) : Int)), some (.slice none 0 0), some (.bool (decide ((nb bs 8) &&& 8 ≠ 0))), some (.int .u8 ((0 : Nat) : Int)), some (.int .i64 ((0 : Nat) : Int)), some (.slice none 0 0), some (.int .u16 ((0 : Nat) : Int)), some (.int .u16 ((0 : Nat) : Int)), some (.slice none 0 0), some (.int .u8 ((3 : Nat) : Int))], true⟩] [Byt A n c bs] rfl rfl ?_
  refine HT.seq ?_
  refine HT.plain ?_
  refine sMv rfl rfl ?_
  refine sMv rfl rfl ?_
  refine sqS (q_slice (lo := 4) (hi := 8) rfl Tryz.underlying22 nagg_5 (.inr ⟨_, _, rfl, rfl⟩) (.inr ⟨_, _, rfl, rfl⟩) (by omega) (by omega)) rfl ?_
  refine sqS (q_nil rfl) rfl ?_
  refine sqS (q_field (b := rb) (off := 0) rfl fo_179_4) rfl ?_
  refine sl_ (l_store (b := rb) (off := 5) (j := 0) rfl rfl nagg_171 rfl rfl rfl rfl (dlt rfl) ?_)
  refine send ?_
  refine eseq ?_
  refine HT.norm [⟨rb, 179, [some (.slice none 0 0), some (.slice none 0 0), some (.int .u8 ((nb bs 0 : Nat) : Int)), some (.int .i64 ((100000000 * (nb bs 1) : Nat) : Int)), some (.int .u16 ((bN bs 2 2 : Nat) : Int)), some (.slice (cutA A c 4) (8 - 4) (c - 4)), some (.bool (decide ((nb bs 8) &&& 8 ≠ 0))), some (.int .u8 ((0 : Nat) : Int)), some (.int .i64 ((0 : Nat) : Int)), some (.slice none 0 0), some (.int .u16 ((0 : Nat) : Int)), some (.int .u16 ((0 : Nat) : Int)), some (.slice none 0 0), some (.int .u8 ((3 : Nat) : Int))], true⟩] [Byt A n c bs] rfl rfl ?_
  refine HT.seq ?_
  refine HT.plain ?_
  refine sMv rfl rfl ?_
  refine sMv rfl rfl ?_
  refine sqS (q_index (i := 8) (j := 0) rfl rfl Tryz.underlying22 nagg_5 (fun _ h => h) rfl (by omega)) rfl ?_
  refine sqS (q_byte (i := 8) (j := 0) rfl nagg_5 (fun _ h => h) rfl (by omega)) rfl ?_
  refine sqS (q_and (p := nb bs 8) (q := 7) rfl rfl rfl (show nb bs 8 < 256 by have := nb_lt bs 8; omega) (by decide)) rfl ?_
  refine sqS (q_nil rfl) rfl ?_
  refine sqS (q_field (b := rb) (off := 0) rfl fo_179_6) rfl ?_
  refine sl_ (l_store (b := rb) (off := 7) (j := 0) rfl rfl nagg_5 rfl rfl rfl rfl (dlt rfl) ?_)
  refine send ?_
  refine eseq ?_
  refine HT.norm [⟨rb, 179, [some (.slice none 0 0), some (.slice none 0 0), some (.int .u8 ((nb bs 0 : Nat) : Int)), some (.int .i64 ((100000000 * (nb bs 1) : Nat) : Int)), some (.int .u16 ((bN bs 2 2 : Nat) : Int)), some (.slice (cutA A c 4) (8 - 4) (c - 4)), some (.bool (decide ((nb bs 8) &&& 8 ≠ 0))), some (.int .u8 (((nb bs 8) &&& 7 : Nat) : Int)), some (.int .i64 ((0 : Nat) : Int)), some (.slice none 0 0), some (.int .u16 ((0 : Nat) : Int)), some (.int .u16 ((0 : Nat) : Int)), some (.slice none 0 0), some (.int .u8 ((3 : Nat) : Int))], true⟩] [Byt A n c bs] rfl rfl ?_
  refine HT.seq ?_
  refine HT.plain ?_
  refine sMv rfl rfl ?_
  refine sMv rfl rfl ?_
  refine sqS (q_index (i := 9) (j := 0) rfl rfl Tryz.underlying22 nagg_5 (fun _ h => h) rfl (by omega)) rfl ?_
  refine sqS (q_byte (i := 9) (j := 0) rfl nagg_5 (fun _ h => h) rfl (by omega)) rfl ?_
  refine sqS (q_call (vs := [(.int .u8 ((nb bs 9 : Nat) : Int))]) (v := (.int .i64 ((100000000 * (nb bs 9) : Nat) : Int))) rfl ca_124 (fun w h => igmpTime w (nb bs 9) (by have := nb_lt bs 9; omega) (St.enter (sp := []) (Kc := []) (bi := []) h rfl rfl rfl))) rfl ?_
  refine sqS (q_nil rfl) rfl ?_
  refine sqS (q_field (b := rb) (off := 0) rfl fo_179_7) rfl ?_
  refine sl_ (l_store (b := rb) (off := 8) (j := 0) rfl rfl nagg_174 rfl rfl rfl rfl (dlt rfl) ?_)
  refine send ?_
  refine eseq ?_
  refine HT.norm [⟨rb, 179, [some (.slice none 0 0), some (.slice none 0 0), some (.int .u8 ((nb bs 0 : Nat) : Int)), some (.int .i64 ((100000000 * (nb bs 1) : Nat) : Int)), some (.int .u16 ((bN bs 2 2 : Nat) : Int)), some (.slice (cutA A c 4) (8 - 4) (c - 4)), some (.bool (decide ((nb bs 8) &&& 8 ≠ 0))), some (.int .u8 (((nb bs 8) &&& 7 : Nat) : Int)), some (.int .i64 ((100000000 * (nb bs 9) : Nat) : Int)), some (.slice none 0 0), some (.int .u16 ((0 : Nat) : Int)), some (.int .u16 ((0 : Nat) : Int)), some (.slice none 0 0), some (.int .u8 ((3 : Nat) : Int))], true⟩] [Byt A n c bs] rfl rfl ?_
  refine HT.seq ?_
  refine HT.drawn mixed (St.closed _ _ _ _) (St w [rb] [⟨rb, 179, [some (.slice none 0 0), some (.slice none 0 0), some (.int .u8 ((nb bs 0 : Nat) : Int)), some (.int .i64 ((100000000 * (nb bs 1) : Nat) : Int)), some (.int .u16 ((bN bs 2 2 : Nat) : Int)), some (.slice (cutA A c 4) (8 - 4) (c - 4)), some (.bool (decide ((nb bs 8) &&& 8 ≠ 0))), some (.int .u8 (((nb bs 8) &&& 7 : Nat) : Int)), some (.int .i64 ((100000000 * (nb bs 9) : Nat) : Int)), some (.slice none 0 0), some (.int .u16 ((0 : Nat) : Int)), none, some (.slice none 0 0), some (.int .u8 ((3 : Nat) : Int))], true⟩] [Byt A n c bs]) ?_
  refine dtake (f := 1) [0, 1, 2, 3, 4, 5, 6] (by kernel_rfl) (St.closed _ _ _ _) (fun _ h => (h.wk [(0, [11])] rfl)) (by kernel_rfl) ?_
  refine dq rfl (q_move rfl) ?_
  refine dq rfl (q_loadEmpty rfl aggs_210) ?_
  refine dq rfl (q_move rfl) ?_
  refine dq rfl (q_slice (lo := 10) (hi := 12) rfl Tryz.underlying22 nagg_5 (.inr ⟨_, _, rfl, rfl⟩) (.inr ⟨_, _, rfl, rfl⟩) (by omega) (by omega)) ?_
  refine dq rfl (q_call (vs := [(.agg #[]), (.slice (cutA A c 10) (12 - 10) (c - 10))]) (v := (.int .u16 ((bN bs 10 2 : Nat) : Int))) rfl ca_91 (fun w h => U16 w A n c bs (lo := 10) (hi := 12) (h.fact (j := 0) rfl) (by omega) (by omega))) ?_
  refine dq rfl (q_nil rfl) ?_
  refine dq rfl (q_field (b := rb) (off := 0) rfl fo_179_10) ?_
  refine QL.nil ?_
  refine RG.step1 7 (by kernel_rfl) ?_
  refine dop rfl (l_store (b := rb) (off := 11) (j := 0) rfl rfl nagg_70 rfl rfl rfl rfl (dlt rfl) ⟨(fun _ h => (h.wk [(0, [11])] rfl)), ?_⟩)
  refine dend (by kernel_rfl) ?_
  refine eseq ?_
  refine HT.norm [⟨rb, 179, [some (.slice none 0 0), some (.slice none 0 0), some (.int .u8 ((nb bs 0 : Nat) : Int)), some (.int .i64 ((100000000 * (nb bs 1) : Nat) : Int)), some (.int .u16 ((bN bs 2 2 : Nat) : Int)), some (.slice (cutA A c 4) (8 - 4) (c - 4)), some (.bool (decide ((nb bs 8) &&& 8 ≠ 0))), some (.int .u8 (((nb bs 8) &&& 7 : Nat) : Int)), some (.int .i64 ((100000000 * (nb bs 9) : Nat) : Int)), some (.slice none 0 0), some (.int .u16 ((0 : Nat) : Int)), some (.int .u16 ((bN bs 10 2 : Nat) : Int)), some (.slice none 0 0), some (.int .u8 ((3 : Nat) : Int))], true⟩] [Byt A n c bs] rfl rfl ?_
  refine HT.seq ?_
  refine HT.seq ?_
  refine HT.plain ?_
  refine sMv rfl rfl ?_
  refine sqS (q_len (len := n) rfl Tryz.underlying22) rfl ?_
  refine sMv rfl rfl ?_
  refine sqS (q_nil rfl) rfl ?_
  refine sqS (q_field (b := rb) (off := 0) rfl fo_179_10) rfl ?_
  refine sqS (q_load (b := rb) (off := 11) (j := 0) rfl nagg_70 (fun _ h => h) rfl rfl rfl) rfl ?_
  refine sqS (q_convn (p := bN bs 10 2) rfl Tryz.underlying70 Tryz.underlying3 (show bN bs 10 2 < 9223372036854775808 by have := bN_lt bs 10 2 65536 rfl; omega)) rfl ?_
  refine sqS (q_mul (p := bN bs 10 2) (q := 4) rfl rfl (show (bN bs 10 2) * 4 < 9223372036854775808 by have := bN_lt bs 10 2 65536 rfl; omega)) rfl ?_
  refine sqS (q_add (p := 12) (q := (bN bs 10 2) * 4) rfl rfl (show 12 + ((bN bs 10 2) * 4) < 9223372036854775808 by have := bN_lt bs 10 2 65536 rfl; omega)) rfl ?_
  refine sqS (q_F (q_lt (p := n) (q := 12 + ((bN bs 10 2) * 4)) rfl rfl) (by have := bN_lt bs 10 2 65536 rfl; omega)) rfl ?_
  refine send ?_
  refine eseq ?_
  refine HT.no rfl ?_
  refine HT.skip ?_
  refine eseq ?_
  refine HT.seq ?_
  refine HT.seq ?_
  refine HT.plain ?_
  refine sAs rfl rfl ?_
  refine send ?_
  refine eseq ?_
  refine HT.block ?_
  refine HT.loop (ι := {p : Nat × Value × List Kb // p.1 ≤ N ∧ RowS 171 1 p.1 (rowX (fun j => [.slice (cutA A c (12 + (j * 4))) ((16 + (j * 4)) - (12 + (j * 4))) (c - (12 + (j * 4)))]) p.1) p.2.1 p.2.2}) (fun p => [(0, (.pointer (some ⟨rb, 0, none⟩))), (1, (.slice A n c)), (4, .nilIface), (5, (.int .i64 ((p.1.1 : Nat) : Int)))]) (fun p => St w [rb] ([⟨rb, 179, [some (.slice none 0 0), some (.slice none 0 0), some (.int .u8 ((nb bs 0 : Nat) : Int)), some (.int .i64 ((100000000 * (nb bs 1) : Nat) : Int)), some (.int .u16 ((bN bs 2 2 : Nat) : Int)), some (.slice (cutA A c 4) (8 - 4) (c - 4)), some (.bool (decide ((nb bs 8) &&& 8 ≠ 0))), some (.int .u8 (((nb bs 8) &&& 7 : Nat) : Int)), some (.int .i64 ((100000000 * (nb bs 9) : Nat) : Int)), some p.1.2.1, some (.int .u16 ((0 : Nat) : Int)), some (.int .u16 ((bN bs 10 2 : Nat) : Int)), some (.slice none 0 0), some (.int .u8 ((3 : Nat) : Int))], true⟩] ++ p.1.2.2) [Byt A n c bs]) (fun p => N - p.1.1) ⟨(0, .slice none 0 0, []), Nat.zero_le _, RowS.nil 171 1⟩ ⟨rfl, rfl, rfl, rfl, trivial⟩ (fun _ h => h) fun ⟨⟨i, v, Kr⟩, hil, hr⟩ => ?_
  replace hil : i ≤ N := hil
  replace hr : RowS 171 1 i (rowX (fun j => [.slice (cutA A c (12 + (j * 4))) ((16 + (j * 4)) - (12 + (j * 4))) (c - (12 + (j * 4)))]) i) v Kr := hr
  show HT _ _ _ [(0, (.pointer (some ⟨rb, 0, none⟩))), (1, (.slice A n c)), (4, .nilIface), (5, (.int .i64 ((i : Nat) : Int)))] (St w [rb] ([(igmp3_m1_2_k0 rb bs A c v)] ++ Kr) [Byt A n c bs]) _
  refine HT.seq ?_
  refine HT.seq ?_
  refine HT.plain ?_
  refine sMv rfl rfl ?_
  refine sMv rfl rfl ?_
  refine sqS (q_nil rfl) rfl ?_
  refine sqS (q_field (b := rb) (off := 0) rfl fo_179_10) rfl ?_
  refine sqS (q_load (b := rb) (off := 11) (j := 0) rfl nagg_70 (fun _ h => h) rfl rfl rfl) rfl ?_
  refine sqS (q_convn (p := bN bs 10 2) rfl Tryz.underlying70 Tryz.underlying3 (show bN bs 10 2 < 9223372036854775808 by have := bN_lt bs 10 2 65536 rfl; omega)) rfl ?_
  refine sqS (q_lt (p := i) (q := bN bs 10 2) rfl rfl) rfl ?_
  refine send ?_
  refine eseq ?_
  refine condd rfl (fun h1 => ?_) (fun h1 => ?_)
  · refine HT.skip ?_
    refine eseq ?_
    refine HT.seq ?_
    refine HT.block ?_
    refine HT.drawn mixed (St.closed _ _ _ _) (St w [rb] [⟨rb, 179, [some (.slice none 0 0), some (.slice none 0 0), some (.int .u8 ((nb bs 0 : Nat) : Int)), some (.int .i64 ((100000000 * (nb bs 1) : Nat) : Int)), some (.int .u16 ((bN bs 2 2 : Nat) : Int)), some (.slice (cutA A c 4) (8 - 4) (c - 4)), some (.bool (decide ((nb bs 8) &&& 8 ≠ 0))), some (.int .u8 (((nb bs 8) &&& 7 : Nat) : Int)), some (.int .i64 ((100000000 * (nb bs 9) : Nat) : Int)), none, some (.int .u16 ((0 : Nat) : Int)), some (.int .u16 ((bN bs 10 2 : Nat) : Int)), some (.slice none 0 0), some (.int .u8 ((3 : Nat) : Int))], true⟩] [Byt A n c bs]) ?_
    refine dtake (f := 6) [0, 1, 2, 3, 5, 6, 7, 8, 9, 10, 11, 12] (by kernel_rfl) (St.closed _ _ _ _) (fun _ h => (St.wk (St.untail (K := [(igmp3_m1_2_k0 rb bs A c v)]) (Kr := Kr) h) [(0, [9])] rfl)) (by kernel_rfl) ?_
    refine dq rfl (q_move rfl) ?_
    refine dq rfl (q_move rfl) ?_
    refine dq rfl (q_nil rfl) ?_
    refine dq rfl (q_field (b := rb) (off := 0) rfl fo_179_8) ?_
    refine dq rfl (q_move rfl) ?_
    refine dq rfl (q_move rfl) ?_
    refine dq rfl (q_mul (p := i) (q := 4) rfl rfl (show i * 4 < 9223372036854775808 by have := hil; omega)) ?_
    refine dq rfl (q_add (p := 12) (q := i * 4) rfl rfl (show 12 + (i * 4) < 9223372036854775808 by have := hil; omega)) ?_
    refine dq rfl (q_move rfl) ?_
    refine dq rfl (q_mul (p := i) (q := 4) rfl rfl (show i * 4 < 9223372036854775808 by have := hil; omega)) ?_
    refine dq rfl (q_add (p := 16) (q := i * 4) rfl rfl (show 16 + (i * 4) < 9223372036854775808 by have := hil; omega)) ?_
    refine dq rfl (q_slice (lo := 12 + (i * 4)) (hi := 16 + (i * 4)) rfl Tryz.underlying22 nagg_5 (.inr ⟨_, _, rfl, rfl⟩) (.inr ⟨_, _, rfl, rfl⟩) (by have := hil; omega) (by have := hil; omega)) ?_
    refine QL.nil ?_
    refine RG.step2 4 13 (by kernel_rfl) ?_ ?_
    · refine dop rfl (l_q _ (by simp) (St.closed _ _ _ _) (q_load (b := rb) (off := 9) (j := 0) rfl nagg_168 (fun _ h => h) rfl rfl rfl) ⟨(fun _ h => (St.wk (St.untail (K := [(igmp3_m1_2_k0 rb bs A c v)]) (Kr := Kr) h) [(0, [9])] rfl)), ?_⟩)
      refine RG.step1 13 (by kernel_rfl) ?_
      refine dop rfl (l_buildSliceT (K := [(igmp3_m1_2_k0 rb bs A c v)]) (Kr := Kr) (e := 171) (vs := [(0, (.slice (cutA A c (12 + (i * 4))) ((16 + (i * 4)) - (12 + (i * 4))) (c - (12 + (i * 4)))))]) (cs := [(.slice (cutA A c (12 + (i * 4))) ((16 + (i * 4)) - (12 + (i * 4))) (c - (12 + (i * 4))))]) (by decide) rfl (fun _ => by kernel_rfl) fun b91 => ⟨(fun _ h => (St.wk (St.untail (K := [(igmp3_m1_2_k0 rb bs A c v), (igmp3_m1_2_k2 b91 A c i)]) (Kr := Kr) h) [(0, [9])] rfl)), ?_⟩)
      refine RG.step1 14 (by kernel_rfl) ?_
      refine dop rfl (l_appendR (K0 := [(igmp3_m1_2_k0 rb bs A c v), (igmp3_m1_2_k2 b91 A c i)]) (Kr := Kr) (k := i) (xs := (rowX (fun j => [.slice (cutA A c (12 + (j * 4))) ((16 + (j * 4)) - (12 + (j * 4))) (c - (12 + (j * 4)))]) i)) (jq := 1) (news := [(.slice (cutA A c (12 + (i * 4))) ((16 + (i * 4)) - (12 + (i * 4))) (c - (12 + (i * 4))))]) (by decide) rfl rfl Tryz.underlying168 rowT_171 (by decide) hr (by have := hil; have := bN_lt bs 10 2 65536 rfl; omega) rfl rfl (by simp [Value.one1]) fun v92 Kr92 hr92 => ⟨(fun _ h => (St.wk (St.untail (K := [(igmp3_m1_2_k0 rb bs A c v), (igmp3_m1_2_k2 b91 A c i)]) (Kr := Kr92) h) [(0, [9])] rfl)), ?_⟩)
      refine dtake (f := 1) [15, 16] (by kernel_rfl) (St.closed _ _ _ _) (fun _ h => (St.wk (St.untail (K := [(igmp3_m1_2_k0 rb bs A c v), (igmp3_m1_2_k2 b91 A c i)]) (Kr := Kr92) h) [(0, [9])] rfl)) (by kernel_rfl) ?_
      refine dq rfl (q_nil rfl) ?_
      refine dq rfl (q_field (b := rb) (off := 0) rfl fo_179_8) ?_
      refine QL.nil ?_
      refine RG.step1 17 (by kernel_rfl) ?_
      refine dop rfl (l_store (b := rb) (off := 9) (j := 0) rfl rfl nagg_168 hr92.one rfl rfl rfl (dlt rfl) ⟨(fun _ h => (St.wk (St.untail (K := [(igmp3_m1_2_k1 rb bs A c v92), (igmp3_m1_2_k2 b91 A c i)]) (Kr := Kr92) h) [(0, [9])] rfl)), ?_⟩)
      refine dend (by kernel_rfl) ?_
      refine ein ?_
      refine eseq ?_
      refine HT.norm ([(igmp3_m1_2_k1 rb bs A c v92), (igmp3_m1_2_k2 b91 A c i)] ++ Kr92) [Byt A n c bs] rfl rfl ?_
      refine HT.plain ?_
      refine sMv rfl rfl ?_
      refine sqS (q_add (p := i) (q := 1) rfl rfl (show i + 1 < 9223372036854775808 by have := hil; omega)) rfl ?_
      refine sAs rfl rfl ?_
      refine send ?_
      exact eround ⟨(i + 1, v92, Kr92), by show i + 1 ≤ N; omega, RowS.succ hr92 rfl⟩ (show N - (i + 1) < N - i by omega) ⟨rfl, rfl, rfl, rfl, trivial⟩ (fun _ h => St.drop (X := [(igmp3_m1_2_k1 rb bs A c v92)]) (Y := [(igmp3_m1_2_k2 b91 A c i)]) (Z := Kr92) h)
    · refine dop rfl (l_buildSliceT (K := [(igmp3_m1_2_k0 rb bs A c v)]) (Kr := Kr) (e := 171) (vs := [(0, (.slice (cutA A c (12 + (i * 4))) ((16 + (i * 4)) - (12 + (i * 4))) (c - (12 + (i * 4)))))]) (cs := [(.slice (cutA A c (12 + (i * 4))) ((16 + (i * 4)) - (12 + (i * 4))) (c - (12 + (i * 4))))]) (by decide) rfl (fun _ => by kernel_rfl) fun b91 => ⟨(fun _ h => (St.wk (St.untail (K := [(igmp3_m1_2_k0 rb bs A c v), (igmp3_m1_2_k2 b91 A c i)]) (Kr := Kr) h) [(0, [9])] rfl)), ?_⟩)
      refine RG.step1 4 (by kernel_rfl) ?_
      refine dop rfl (l_q _ (by simp) (St.closed _ _ _ _) (q_load (b := rb) (off := 9) (j := 0) rfl nagg_168 (fun _ h => h) rfl rfl rfl) ⟨(fun _ h => (St.wk (St.untail (K := [(igmp3_m1_2_k0 rb bs A c v), (igmp3_m1_2_k2 b91 A c i)]) (Kr := Kr) h) [(0, [9])] rfl)), ?_⟩)
      refine RG.step1 14 (by kernel_rfl) ?_
      refine dop rfl (l_appendR (K0 := [(igmp3_m1_2_k0 rb bs A c v), (igmp3_m1_2_k2 b91 A c i)]) (Kr := Kr) (k := i) (xs := (rowX (fun j => [.slice (cutA A c (12 + (j * 4))) ((16 + (j * 4)) - (12 + (j * 4))) (c - (12 + (j * 4)))]) i)) (jq := 1) (news := [(.slice (cutA A c (12 + (i * 4))) ((16 + (i * 4)) - (12 + (i * 4))) (c - (12 + (i * 4))))]) (by decide) rfl rfl Tryz.underlying168 rowT_171 (by decide) hr (by have := hil; have := bN_lt bs 10 2 65536 rfl; omega) rfl rfl (by simp [Value.one1]) fun v92 Kr92 hr92 => ⟨(fun _ h => (St.wk (St.untail (K := [(igmp3_m1_2_k0 rb bs A c v), (igmp3_m1_2_k2 b91 A c i)]) (Kr := Kr92) h) [(0, [9])] rfl)), ?_⟩)
      refine dtake (f := 1) [15, 16] (by kernel_rfl) (St.closed _ _ _ _) (fun _ h => (St.wk (St.untail (K := [(igmp3_m1_2_k0 rb bs A c v), (igmp3_m1_2_k2 b91 A c i)]) (Kr := Kr92) h) [(0, [9])] rfl)) (by kernel_rfl) ?_
      refine dq rfl (q_nil rfl) ?_
      refine dq rfl (q_field (b := rb) (off := 0) rfl fo_179_8) ?_
      refine QL.nil ?_
      refine RG.step1 17 (by kernel_rfl) ?_
      refine dop rfl (l_store (b := rb) (off := 9) (j := 0) rfl rfl nagg_168 hr92.one rfl rfl rfl (dlt rfl) ⟨(fun _ h => (St.wk (St.untail (K := [(igmp3_m1_2_k1 rb bs A c v92), (igmp3_m1_2_k2 b91 A c i)]) (Kr := Kr92) h) [(0, [9])] rfl)), ?_⟩)
      refine dend (by kernel_rfl) ?_
      refine ein ?_
      refine eseq ?_
      refine HT.norm ([(igmp3_m1_2_k1 rb bs A c v92), (igmp3_m1_2_k2 b91 A c i)] ++ Kr92) [Byt A n c bs] rfl rfl ?_
      refine HT.plain ?_
      refine sMv rfl rfl ?_
      refine sqS (q_add (p := i) (q := 1) rfl rfl (show i + 1 < 9223372036854775808 by have := hil; omega)) rfl ?_
      refine sAs rfl rfl ?_
      refine send ?_
      exact eround ⟨(i + 1, v92, Kr92), by show i + 1 ≤ N; omega, RowS.succ hr92 rfl⟩ (show N - (i + 1) < N - i by omega) ⟨rfl, rfl, rfl, rfl, trivial⟩ (fun _ h => St.drop (X := [(igmp3_m1_2_k1 rb bs A c v92)]) (Y := [(igmp3_m1_2_k2 b91 A c i)]) (Z := Kr92) h)
  · refine HT.exit ?_
    refine ex_then ?_
    refine ex_then ?_
    refine ex_in ?_
    refine eseq ?_
    have hiN : N = i := by omega
    subst hiN
    refine HT.rowFact (K := [(igmp3_m1_2_k0 rb bs A c v)]) (Kr := Kr) hr (fun i hi => by rw [List.mem_singleton.1 hi]; exact ⟨_, List.mem_cons_self, rfl⟩) fun AQ cQ hvQ hncQ hfQ => ?_
    subst hvQ
    refine HT.seq ?_
    refine HT.plain ?_
    refine sAs rfl rfl ?_
    refine send ?_
    refine eseq ?_
    refine HT.ret ?_
    exact fun a ha w' hw => fin_ ha (res1 ha Tryz.results122 rfl) ⟨AQ, cQ, rfl, hw, (fr1 hfQ fr0)⟩

theorem igmp3_m2_2 (w : World) (A : Option Addr) (n : Nat) (c : Nat) (bs : List UInt8) (N : Nat) (rb : Nat) (kb : Nat) (hn : n ≤ 400) (ha : 8 ≤ n) (hb : nb bs 0 = 17) (hc : 12 ≤ n) (hd : nb bs 1 < 128) (he : nb bs 9 < 128) (hf : 12 + 4 * bN bs 10 2 ≤ n) (hg : bN bs 10 2 = N) (hst : St w [rb] [⟨rb, 179, [some (.slice none 0 0), some (.slice none 0 0), some (.int .u8 ((0 : Nat) : Int)), some (.int .i64 ((0 : Nat) : Int)), some (.int .u16 ((0 : Nat) : Int)), some (.slice none 0 0), some (.bool false), some (.int .u8 ((0 : Nat) : Int)), some (.int .i64 ((0 : Nat) : Int)), some (.slice none 0 0), some (.int .u16 ((0 : Nat) : Int)), some (.int .u16 ((0 : Nat) : Int)), some (.slice none 0 0), some (.int .u8 ((3 : Nat) : Int))], true⟩] [Byt A n c bs] w) : Calls Tryz.prog 118 #[(.pointer (some ⟨rb, 0, none⟩)), (.slice A n c), (.iface 199 (.pointer (some ⟨kb, 0, none⟩)))] w (CP2 w [rb] [Byt A n c bs] (fun AQ cQ => .nilIface) (fun AQ cQ => [⟨rb, 179, [some (.slice none 0 0), some (.slice none 0 0), some (.int .u8 ((nb bs 0 : Nat) : Int)), some (.int .i64 ((100000000 * (nb bs 1) : Nat) : Int)), some (.int .u16 ((bN bs 2 2 : Nat) : Int)), some (.slice (cutA A c 4) (8 - 4) (c - 4)), some (.bool (decide ((nb bs 8) &&& 8 ≠ 0))), some (.int .u8 (((nb bs 8) &&& 7 : Nat) : Int)), some (.int .i64 ((100000000 * (nb bs 9) : Nat) : Int)), some (.slice AQ N cQ), some (.int .u16 ((0 : Nat) : Int)), some (.int .u16 ((bN bs 10 2 : Nat) : Int)), some (.slice none 0 0), some (.int .u8 ((3 : Nat) : Int))], true⟩]) (fun AQ cQ => [Cel AQ N cQ 1 (rowX (fun j => [.slice (cutA A c (12 + (j * 4))) ((16 + (j * 4)) - (12 + (j * 4))) (c - (12 + (j * 4)))]) N)])) := by
  have hnc00 : n ≤ c := (hst.fact (j := 0) rfl).2.1
  have hbl : n = bs.length := (hst.fact (j := 0) rfl).1
  refine enter (vs := [(.pointer (some ⟨rb, 0, none⟩)), (.slice A n c), (.iface 199 (.pointer (some ⟨kb, 0, none⟩)))]) Tryz.func118 rfl rfl rfl hst ?_
  refine HT.seq ?_
  refine HT.plain ?_
  refine sAs rfl rfl ?_
  refine send ?_
  refine eseq ?_
  refine HT.seq ?_
  refine HT.seq ?_
  refine HT.plain ?_
  refine sMv rfl rfl ?_
  refine sqS (q_len (len := n) rfl Tryz.underlying22) rfl ?_
  refine sqS (q_F (q_lt (p := n) (q := 1) rfl rfl) (by omega)) rfl ?_
  refine send ?_
  refine eseq ?_
  refine HT.no rfl ?_
  refine HT.skip ?_
  refine eseq ?_
  refine HT.seq ?_
  refine HT.plain ?_
  refine sMv rfl rfl ?_
  refine sMv rfl rfl ?_
  refine sqS (q_index (i := 0) (j := 0) rfl rfl Tryz.underlying22 nagg_5 (fun _ h => h) rfl (by omega)) rfl ?_
  refine sqS (q_byte (i := 0) (j := 0) rfl nagg_5 (fun _ h => h) rfl (by omega)) rfl ?_
  refine sqS (q_nil rfl) rfl ?_
  refine sqS (q_field (b := rb) (off := 0) rfl fo_179_1) rfl ?_
  refine sl_ (l_store (b := rb) (off := 2) (j := 0) rfl rfl nagg_173 rfl rfl rfl rfl (dlt rfl) ?_)
  refine send ?_
  refine eseq ?_
  refine HT.seq ?_
  refine HT.seq ?_
  refine HT.plain ?_
  refine sMv rfl rfl ?_
  refine sqS (q_nil rfl) rfl ?_
  refine sqS (q_field (b := rb) (off := 0) rfl fo_179_1) rfl ?_
  refine sqS (q_load (b := rb) (off := 2) (j := 0) rfl nagg_173 (fun _ h => h) rfl rfl rfl) rfl ?_
  refine send ?_
  refine eseq ?_
  refine HT.block ?_
  refine HT.seq ?_
  refine HT.plain ?_
  refine sqS (q_T (q_eq (p := nb bs 0) (q := 17) rfl rfl) (by have := nb_lt bs 0; omega)) rfl ?_
  refine sAs rfl rfl ?_
  refine send ?_
  refine eseq ?_
  refine HT.yes rfl ?_
  refine HT.plain ?_
  refine sMv rfl rfl ?_
  refine sMv rfl rfl ?_
  refine sl_ (l_callX2 (vs := [(.pointer (some ⟨rb, 0, none⟩)), (.slice A n c)]) (Kc := [⟨rb, 179, [some (.slice none 0 0), some (.slice none 0 0), some (.int .u8 ((nb bs 0 : Nat) : Int)), some (.int .i64 ((0 : Nat) : Int)), some (.int .u16 ((0 : Nat) : Int)), some (.slice none 0 0), some (.bool false), some (.int .u8 ((0 : Nat) : Int)), some (.int .i64 ((0 : Nat) : Int)), some (.slice none 0 0), some (.int .u16 ((0 : Nat) : Int)), some (.int .u16 ((0 : Nat) : Int)), some (.slice none 0 0), some (.int .u8 ((3 : Nat) : Int))], true⟩]) (Bc := [Byt A n c bs]) [0] [0] [Byt A n c bs] (fun AQ cQ => [⟨rb, 179, [some (.slice none 0 0), some (.slice none 0 0), some (.int .u8 ((nb bs 0 : Nat) : Int)), some (.int .i64 ((100000000 * (nb bs 1) : Nat) : Int)), some (.int .u16 ((bN bs 2 2 : Nat) : Int)), some (.slice (cutA A c 4) (8 - 4) (c - 4)), some (.bool (decide ((nb bs 8) &&& 8 ≠ 0))), some (.int .u8 (((nb bs 8) &&& 7 : Nat) : Int)), some (.int .i64 ((100000000 * (nb bs 9) : Nat) : Int)), some (.slice AQ N cQ), some (.int .u16 ((0 : Nat) : Int)), some (.int .u16 ((bN bs 10 2 : Nat) : Int)), some (.slice none 0 0), some (.int .u8 ((3 : Nat) : Int))], true⟩]) (fun AQ cQ => [Byt A n c bs, Cel AQ N cQ 1 (rowX (fun j => [.slice (cutA A c (12 + (j * 4))) ((16 + (j * 4)) - (12 + (j * 4))) (c - (12 + (j * 4)))]) N)]) (by decide) rfl ca_122 (fun _ h => h) rfl rfl rfl rfl (fun w h => igmp3_m1_2 w A n c bs N rb (by omega) (by omega) (by omega) (by omega) (by omega) (by omega) (by omega) (by omega) h) (fun _ _ => rfl) (fun _ _ => rfl) (fun _ _ => rfl) (fun _ _ => rfl) fun AQ cQ hf1 he2 => ?_)
  have hnc3 : N ≤ cQ := by obtain ⟨w, h⟩ := he2; exact (h _ List.mem_cons_self).2.1
  refine send ?_
  refine ein ?_
  refine eseq ?_
  refine HT.seq ?_
  refine HT.plain ?_
  refine sAs rfl rfl ?_
  refine send ?_
  refine eseq ?_
  refine HT.ret ?_
  exact fun a ha w' hw => fin_ ha (res1 ha Tryz.results118 rfl) ⟨AQ, cQ, rfl, hw, (fr1 (hf1 _ List.mem_cons_self) fr0)⟩

abbrev igmp3_dd2_k0 (rb : Nat) (bs : List UInt8) (A : Option Addr) (c : Nat) (AQ : Option Addr) (N : Nat) (cQ : Nat) : Kb := ⟨rb, 179, [some (.slice none 0 0), some (.slice none 0 0), some (.int .u8 ((nb bs 0 : Nat) : Int)), some (.int .i64 ((100000000 * (nb bs 1) : Nat) : Int)), some (.int .u16 ((bN bs 2 2 : Nat) : Int)), some (.slice (cutA A c 4) (8 - 4) (c - 4)), some (.bool (decide ((nb bs 8) &&& 8 ≠ 0))), some (.int .u8 (((nb bs 8) &&& 7 : Nat) : Int)), some (.int .i64 ((100000000 * (nb bs 9) : Nat) : Int)), some (.slice AQ N cQ), some (.int .u16 ((0 : Nat) : Int)), some (.int .u16 ((bN bs 10 2 : Nat) : Int)), some (.slice none 0 0), some (.int .u8 ((3 : Nat) : Int))], true⟩

theorem igmp3_dd2 (w : World) (A : Option Addr) (n : Nat) (c : Nat) (bs : List UInt8) (N : Nat) (rb : Nat) (kb : Nat) (hn : n ≤ 400) (ha : 8 ≤ n) (hb : nb bs 0 = 17) (hc : 12 ≤ n) (hd : nb bs 1 < 128) (he : nb bs 9 < 128) (hf : 12 + 4 * bN bs 10 2 ≤ n) (hg : bN bs 10 2 = N) (hst : St w [rb, kb] [⟨rb, 179, [some (.slice none 0 0), some (.slice none 0 0), some (.int .u8 ((0 : Nat) : Int)), some (.int .i64 ((0 : Nat) : Int)), some (.int .u16 ((0 : Nat) : Int)), some (.slice none 0 0), some (.bool false), some (.int .u8 ((0 : Nat) : Int)), some (.int .i64 ((0 : Nat) : Int)), some (.slice none 0 0), some (.int .u16 ((0 : Nat) : Int)), some (.int .u16 ((0 : Nat) : Int)), some (.slice none 0 0), some (.int .u8 ((3 : Nat) : Int))], true⟩, ⟨kb, 201, [some .nilIface], true⟩] [Byt A n c bs] w) : Calls Tryz.prog 96 #[(.iface 63 (.pointer (some ⟨rb, 0, none⟩))), (.slice A n c), (.iface 199 (.pointer (some ⟨kb, 0, none⟩)))] w (CP2 w [rb, kb] [Byt A n c bs] (fun AQ cQ => .nilIface) (fun AQ cQ => [(igmp3_dd2_k0 rb bs A c AQ N cQ), ⟨kb, 201, [some (.iface 63 (.pointer (some ⟨rb, 0, none⟩)))], true⟩]) (fun AQ cQ => [Cel AQ N cQ 1 (rowX (fun j => [.slice (cutA A c (12 + (j * 4))) ((16 + (j * 4)) - (12 + (j * 4))) (c - (12 + (j * 4)))]) N)])) := by
  have hnc00 : n ≤ c := (hst.fact (j := 0) rfl).2.1
  have hbl : n = bs.length := (hst.fact (j := 0) rfl).1
  refine enter (vs := [(.iface 63 (.pointer (some ⟨rb, 0, none⟩))), (.slice A n c), (.iface 199 (.pointer (some ⟨kb, 0, none⟩)))]) Tryz.func96 rfl rfl rfl hst ?_
  refine HT.seq ?_
  refine HT.plain ?_
  refine sAs rfl rfl ?_
  refine send ?_
  refine eseq ?_
  refine HT.seq ?_
  refine HT.plain ?_
  refine sMv rfl rfl ?_
  refine sMv rfl rfl ?_
  refine sMv rfl rfl ?_
  refine sl_ (l_invX2 (vs := [(.slice A n c), (.iface 199 (.pointer (some ⟨kb, 0, none⟩)))]) (Kc := [⟨rb, 179, [some (.slice none 0 0), some (.slice none 0 0), some (.int .u8 ((0 : Nat) : Int)), some (.int .i64 ((0 : Nat) : Int)), some (.int .u16 ((0 : Nat) : Int)), some (.slice none 0 0), some (.bool false), some (.int .u8 ((0 : Nat) : Int)), some (.int .i64 ((0 : Nat) : Int)), some (.slice none 0 0), some (.int .u16 ((0 : Nat) : Int)), some (.int .u16 ((0 : Nat) : Int)), some (.slice none 0 0), some (.int .u8 ((3 : Nat) : Int))], true⟩]) (Bc := [Byt A n c bs]) [0] [0] [Byt A n c bs] (fun AQ cQ => [⟨kb, 201, [some .nilIface], true⟩, (igmp3_dd2_k0 rb bs A c AQ N cQ)]) (fun AQ cQ => [Byt A n c bs, Cel AQ N cQ 1 (rowX (fun j => [.slice (cutA A c (12 + (j * 4))) ((16 + (j * 4)) - (12 + (j * 4))) (c - (12 + (j * 4)))]) N)]) (by decide) rfl (fun w => me_63_DecodeFromBytes _ w) rfl ca_118 (fun _ h => h) rfl rfl rfl rfl (fun w h => igmp3_m2_2 w A n c bs N rb kb (by omega) (by omega) (by omega) (by omega) (by omega) (by omega) (by omega) (by omega) h) (fun _ _ => rfl) (fun _ _ => rfl) (fun _ _ => rfl) (fun _ _ => rfl) fun AQ cQ hf1 he2 => ?_)
  have hnc3 : N ≤ cQ := by obtain ⟨w, h⟩ := he2; exact (h _ List.mem_cons_self).2.1
  refine sAs rfl rfl ?_
  refine send ?_
  refine eseq ?_
  refine HT.seq ?_
  refine HT.seq ?_
  refine HT.plain ?_
  refine sMv rfl rfl ?_
  refine sqS (q_notNil rfl rfl Tryz.underlying59) rfl ?_
  refine send ?_
  refine eseq ?_
  refine HT.no rfl ?_
  refine HT.skip ?_
  refine eseq ?_
  refine HT.seq ?_
  refine HT.plain ?_
  refine sMv rfl rfl ?_
  refine sMv rfl rfl ?_
  refine sl_ (l_invX0 (vs := [(.iface 63 (.pointer (some ⟨rb, 0, none⟩)))]) (Kc := [⟨kb, 201, [some .nilIface], true⟩]) (Bc := []) [0] [] [Byt A n c bs, Cel AQ N cQ 1 (rowX (fun j => [.slice (cutA A c (12 + (j * 4))) ((16 + (j * 4)) - (12 + (j * 4))) (c - (12 + (j * 4)))]) N)] ([(igmp3_dd2_k0 rb bs A c AQ N cQ), ⟨kb, 201, [some (.iface 63 (.pointer (some ⟨rb, 0, none⟩)))], true⟩]) ([Byt A n c bs, Cel AQ N cQ 1 (rowX (fun j => [.slice (cutA A c (12 + (j * 4))) ((16 + (j * 4)) - (12 + (j * 4))) (c - (12 + (j * 4)))]) N)]) (by decide) rfl (fun w => me_199_AddLayer _ w) rfl ca_166 (fun _ h => h) rfl rfl rfl rfl (fun w h => addLayer w kb 63 rb  h) rfl rfl rfl rfl fun hf4 he5 => ?_)
  refine send ?_
  refine eseq ?_
  refine HT.seq ?_
  refine HT.plain ?_
  refine sAs rfl rfl ?_
  refine send ?_
  refine eseq ?_
  refine HT.ret ?_
  exact fun a ha w' hw => fin_ ha (res1 ha Tryz.results96 rfl) ⟨AQ, cQ, rfl, hw, (fr1 (hf1 _ List.mem_cons_self) fr0)⟩

theorem igmp3_d2 (w : World) (A : Option Addr) (n : Nat) (c : Nat) (bs : List UInt8) (N : Nat) (kb : Nat) (hn : n ≤ 400) (ha : 8 ≤ n) (hb : nb bs 0 = 17) (hc : 12 ≤ n) (hd : nb bs 1 < 128) (he : nb bs 9 < 128) (hf : 12 + 4 * bN bs 10 2 ≤ n) (hg : bN bs 10 2 = N) (hst : St w [kb] [⟨kb, 201, [some .nilIface], true⟩] [Byt A n c bs] w) : Calls Tryz.prog 87 #[(.slice A n c), (.iface 199 (.pointer (some ⟨kb, 0, none⟩)))] w (CP3 w [kb] [Byt A n c bs] (fun b23 AQ cQ => .nilIface) (fun b23 AQ cQ => [⟨kb, 201, [some (.iface 63 (.pointer (some ⟨b23, 0, none⟩)))], true⟩, ⟨b23, 179, [some (.slice none 0 0), some (.slice none 0 0), some (.int .u8 ((nb bs 0 : Nat) : Int)), some (.int .i64 ((100000000 * (nb bs 1) : Nat) : Int)), some (.int .u16 ((bN bs 2 2 : Nat) : Int)), some (.slice (cutA A c 4) (8 - 4) (c - 4)), some (.bool (decide ((nb bs 8) &&& 8 ≠ 0))), some (.int .u8 (((nb bs 8) &&& 7 : Nat) : Int)), some (.int .i64 ((100000000 * (nb bs 9) : Nat) : Int)), some (.slice AQ N cQ), some (.int .u16 ((0 : Nat) : Int)), some (.int .u16 ((bN bs 10 2 : Nat) : Int)), some (.slice none 0 0), some (.int .u8 ((3 : Nat) : Int))], true⟩]) (fun b23 AQ cQ => [Cel AQ N cQ 1 (rowX (fun j => [.slice (cutA A c (12 + (j * 4))) ((16 + (j * 4)) - (12 + (j * 4))) (c - (12 + (j * 4)))]) N)])) := by
  have hnc00 : n ≤ c := (hst.fact (j := 0) rfl).2.1
  have hbl : n = bs.length := (hst.fact (j := 0) rfl).1
  refine enter (vs := [(.slice A n c), (.iface 199 (.pointer (some ⟨kb, 0, none⟩)))]) Tryz.func87 rfl rfl rfl hst ?_
  refine HT.seq ?_
  refine HT.plain ?_
  refine sAs rfl rfl ?_
  refine send ?_
  refine eseq ?_
  refine HT.seq ?_
  refine HT.seq ?_
  refine HT.plain ?_
  refine sMv rfl rfl ?_
  refine sqS (q_len (len := n) rfl Tryz.underlying22) rfl ?_
  refine sqS (q_F (q_lt (p := n) (q := 1) rfl rfl) (by omega)) rfl ?_
  refine send ?_
  refine eseq ?_
  refine HT.no rfl ?_
  refine HT.skip ?_
  refine eseq ?_
  refine HT.seq ?_
  refine HT.seq ?_
  refine HT.plain ?_
  refine sMv rfl rfl ?_
  refine sqS (q_index (i := 0) (j := 0) rfl rfl Tryz.underlying22 nagg_5 (fun _ h => h) rfl (by omega)) rfl ?_
  refine sqS (q_byte (i := 0) (j := 0) rfl nagg_5 (fun _ h => h) rfl (by omega)) rfl ?_
  refine send ?_
  refine eseq ?_
  refine HT.block ?_
  refine HT.seq ?_
  refine HT.plain ?_
  refine sqS (q_T (q_eq (p := nb bs 0) (q := 17) rfl rfl) (by have := nb_lt bs 0; omega)) rfl ?_
  refine sAs rfl rfl ?_
  refine send ?_
  refine eseq ?_
  refine HT.yes rfl ?_
  refine HT.seq ?_
  refine HT.plain ?_
  refine sMv rfl rfl ?_
  refine sqS (q_len (len := n) rfl Tryz.underlying22) rfl ?_
  refine sqS (q_T (q_ge (p := n) (q := 12) rfl rfl) (by omega)) rfl ?_
  refine send ?_
  refine eseq ?_
  refine HT.yes rfl ?_
  refine HT.seq ?_
  refine HT.plain ?_
  refine sqS (q_build (vs := [(12, (.int .u8 ((3 : Nat) : Int)))]) (v := (.agg #[(.slice none 0 0), (.slice none 0 0), (.int .u8 ((0 : Nat) : Int)), (.int .i64 ((0 : Nat) : Int)), (.int .u16 ((0 : Nat) : Int)), (.slice none 0 0), (.bool false), (.int .u8 ((0 : Nat) : Int)), (.int .i64 ((0 : Nat) : Int)), (.slice none 0 0), (.int .u16 ((0 : Nat) : Int)), (.int .u16 ((0 : Nat) : Int)), (.slice none 0 0), (.int .u8 ((3 : Nat) : Int))])) rfl (fun _ => by kernel_rfl)) rfl ?_
  refine sl_ (l_box (by decide) rfl fun b23 => ?_)
  refine sAs rfl rfl ?_
  refine send ?_
  refine eseq ?_
  refine HT.seq ?_
  refine HT.plain ?_
  refine sMv rfl rfl ?_
  refine sqS (q_iface rfl Tryz.underlying63 (fun _ h => nomatch h)) rfl ?_
  refine sMv rfl rfl ?_
  refine sMv rfl rfl ?_
  refine sl_ (l_callX2 (vs := [(.iface 63 (.pointer (some ⟨b23, 0, none⟩))), (.slice A n c), (.iface 199 (.pointer (some ⟨kb, 0, none⟩)))]) (Kc := [⟨b23, 179, [some (.slice none 0 0), some (.slice none 0 0), some (.int .u8 ((0 : Nat) : Int)), some (.int .i64 ((0 : Nat) : Int)), some (.int .u16 ((0 : Nat) : Int)), some (.slice none 0 0), some (.bool false), some (.int .u8 ((0 : Nat) : Int)), some (.int .i64 ((0 : Nat) : Int)), some (.slice none 0 0), some (.int .u16 ((0 : Nat) : Int)), some (.int .u16 ((0 : Nat) : Int)), some (.slice none 0 0), some (.int .u8 ((3 : Nat) : Int))], true⟩, ⟨kb, 201, [some .nilIface], true⟩]) (Bc := [Byt A n c bs]) [1, 0] [0] [Byt A n c bs] (fun AQ cQ => [⟨b23, 179, [some (.slice none 0 0), some (.slice none 0 0), some (.int .u8 ((nb bs 0 : Nat) : Int)), some (.int .i64 ((100000000 * (nb bs 1) : Nat) : Int)), some (.int .u16 ((bN bs 2 2 : Nat) : Int)), some (.slice (cutA A c 4) (8 - 4) (c - 4)), some (.bool (decide ((nb bs 8) &&& 8 ≠ 0))), some (.int .u8 (((nb bs 8) &&& 7 : Nat) : Int)), some (.int .i64 ((100000000 * (nb bs 9) : Nat) : Int)), some (.slice AQ N cQ), some (.int .u16 ((0 : Nat) : Int)), some (.int .u16 ((bN bs 10 2 : Nat) : Int)), some (.slice none 0 0), some (.int .u8 ((3 : Nat) : Int))], true⟩, ⟨kb, 201, [some (.iface 63 (.pointer (some ⟨b23, 0, none⟩)))], true⟩]) (fun AQ cQ => [Byt A n c bs, Cel AQ N cQ 1 (rowX (fun j => [.slice (cutA A c (12 + (j * 4))) ((16 + (j * 4)) - (12 + (j * 4))) (c - (12 + (j * 4)))]) N)]) (by decide) rfl ca_96 (fun _ h => h) rfl rfl rfl rfl (fun w h => igmp3_dd2 w A n c bs N b23 kb (by omega) (by omega) (by omega) (by omega) (by omega) (by omega) (by omega) (by omega) h) (fun _ _ => rfl) (fun _ _ => rfl) (fun _ _ => rfl) (fun _ _ => rfl) fun AQ cQ hf1 he2 => ?_)
  have hnc3 : N ≤ cQ := by obtain ⟨w, h⟩ := he2; exact (h _ List.mem_cons_self).2.1
  refine sAs rfl rfl ?_
  refine send ?_
  refine eseq ?_
  refine HT.ret ?_
  refine rt_in ?_
  refine rt_then ?_
  exact fun a ha w' hw => fin_ ha (res1 ha Tryz.results87 rfl) ⟨b23, AQ, cQ, rfl, (hw.wk [(1, []), (0, [])] rfl), (fr1 (hf1 _ List.mem_cons_self) fr0)⟩

theorem igmp3_z2 (w : World) (A : Option Addr) (n : Nat) (c : Nat) (bs : List UInt8) (N : Nat) (hn : n ≤ 400) (ha : 8 ≤ n) (hb : nb bs 0 = 17) (hc : 12 ≤ n) (hd : nb bs 1 < 128) (he : nb bs 9 < 128) (hf : 12 + 4 * bN bs 10 2 ≤ n) (hg : bN bs 10 2 = N) (hst : St w [] [] [Byt A n c bs] w) : Calls Tryz.prog 58 #[(.string ⟨#[105, 103, 109, 112]⟩), (.slice A n c)] w (CP3 w [] [Byt A n c bs] (fun b23 AQ cQ => (.tuple #[(.iface 63 (.pointer (some ⟨b23, 0, none⟩))), .nilIface])) (fun b23 AQ cQ => [⟨b23, 179, [some (.slice none 0 0), some (.slice none 0 0), some (.int .u8 ((nb bs 0 : Nat) : Int)), some (.int .i64 ((100000000 * (nb bs 1) : Nat) : Int)), some (.int .u16 ((bN bs 2 2 : Nat) : Int)), some (.slice (cutA A c 4) (8 - 4) (c - 4)), some (.bool (decide ((nb bs 8) &&& 8 ≠ 0))), some (.int .u8 (((nb bs 8) &&& 7 : Nat) : Int)), some (.int .i64 ((100000000 * (nb bs 9) : Nat) : Int)), some (.slice AQ N cQ), some (.int .u16 ((0 : Nat) : Int)), some (.int .u16 ((bN bs 10 2 : Nat) : Int)), some (.slice none 0 0), some (.int .u8 ((3 : Nat) : Int))], true⟩]) (fun b23 AQ cQ => [Cel AQ N cQ 1 (rowX (fun j => [.slice (cutA A c (12 + (j * 4))) ((16 + (j * 4)) - (12 + (j * 4))) (c - (12 + (j * 4)))]) N)])) := by
  have hnc00 : n ≤ c := (hst.fact (j := 0) rfl).2.1
  have hbl : n = bs.length := (hst.fact (j := 0) rfl).1
  refine enter (vs := [(.string ⟨#[105, 103, 109, 112]⟩), (.slice A n c)]) Tryz.func58 rfl rfl rfl hst ?_
  refine HT.seq ?_
  refine HT.plain ?_
  refine sAs rfl rfl ?_
  refine sAs rfl rfl ?_
  refine send ?_
  refine eseq ?_
  refine HT.seq ?_
  refine HT.plain ?_
  refine sqS (q_build (vs := []) (v := (.agg #[.nilIface])) rfl (fun _ => by kernel_rfl)) rfl ?_
  refine sl_ (l_box (by decide) rfl fun b9 => ?_)
  refine sAs rfl rfl ?_
  refine send ?_
  refine eseq ?_
  refine HT.seq ?_
  refine HT.plain ?_
  refine sl_ (l_callX1 (vs := [(.string ⟨#[110, 111, 32, 107, 105, 110, 100]⟩)]) (Kc := []) (Bc := []) [] [] [Byt A n c bs] (fun b5 => [⟨b9, 201, [some .nilIface], true⟩, ⟨b5, 206, [some (.string (⟨#[110, 111, 32, 107, 105, 110, 100]⟩))], true⟩]) (fun b5 => [Byt A n c bs]) (by decide) rfl ca_67 (fun _ h => h) rfl rfl rfl rfl (fun w h => errNew w (⟨#[110, 111, 32, 107, 105, 110, 100]⟩)  h) (fun _ => rfl) (fun _ => rfl) (fun _ => rfl) (fun _ => rfl) fun b5 hf1 he2 => ?_)
  refine sAs rfl rfl ?_
  refine send ?_
  refine eseq ?_
  refine HT.seq ?_
  refine HT.seq ?_
  refine HT.plain ?_
  refine sMv rfl rfl ?_
  refine send ?_
  refine eseq ?_
  refine HT.block ?_
  refine HT.seq ?_
  refine HT.plain ?_
  refine sqS (q_eqs rfl rfl (r := false) (by kernel_rfl)) rfl ?_
  refine sAs rfl rfl ?_
  refine send ?_
  refine eseq ?_
  refine HT.no rfl ?_
  refine HT.seq ?_
  refine HT.plain ?_
  refine sqS (q_eqs rfl rfl (r := false) (by kernel_rfl)) rfl ?_
  refine sAs rfl rfl ?_
  refine send ?_
  refine eseq ?_
  refine HT.no rfl ?_
  refine HT.seq ?_
  refine HT.plain ?_
  refine sqS (q_eqs rfl rfl (r := false) (by kernel_rfl)) rfl ?_
  refine sAs rfl rfl ?_
  refine send ?_
  refine eseq ?_
  refine HT.no rfl ?_
  refine HT.seq ?_
  refine HT.plain ?_
  refine sqS (q_eqs rfl rfl (r := false) (by kernel_rfl)) rfl ?_
  refine sAs rfl rfl ?_
  refine send ?_
  refine eseq ?_
  refine HT.no rfl ?_
  refine HT.seq ?_
  refine HT.plain ?_
  refine sqS (q_eqs rfl rfl (r := false) (by kernel_rfl)) rfl ?_
  refine sAs rfl rfl ?_
  refine send ?_
  refine eseq ?_
  refine HT.no rfl ?_
  refine HT.seq ?_
  refine HT.plain ?_
  refine sqS (q_eqs rfl rfl (r := false) (by kernel_rfl)) rfl ?_
  refine sAs rfl rfl ?_
  refine send ?_
  refine eseq ?_
  refine HT.no rfl ?_
  refine HT.seq ?_
  refine HT.plain ?_
  refine sqS (q_eqs rfl rfl (r := false) (by kernel_rfl)) rfl ?_
  refine sAs rfl rfl ?_
  refine send ?_
  refine eseq ?_
  refine HT.no rfl ?_
  refine HT.seq ?_
  refine HT.plain ?_
  refine sqS (q_eqs rfl rfl (r := false) (by kernel_rfl)) rfl ?_
  refine sAs rfl rfl ?_
  refine send ?_
  refine eseq ?_
  refine HT.no rfl ?_
  refine HT.seq ?_
  refine HT.plain ?_
  refine sqS (q_eqs rfl rfl (r := false) (by kernel_rfl)) rfl ?_
  refine sAs rfl rfl ?_
  refine send ?_
  refine eseq ?_
  refine HT.no rfl ?_
  refine HT.seq ?_
  refine HT.plain ?_
  refine sqS (q_eqs rfl rfl (r := false) (by kernel_rfl)) rfl ?_
  refine sAs rfl rfl ?_
  refine send ?_
  refine eseq ?_
  refine HT.no rfl ?_
  refine HT.seq ?_
  refine HT.plain ?_
  refine sqS (q_eqs rfl rfl (r := false) (by kernel_rfl)) rfl ?_
  refine sAs rfl rfl ?_
  refine send ?_
  refine eseq ?_
  refine HT.no rfl ?_
  refine HT.seq ?_
  refine HT.plain ?_
  refine sqS (q_eqs rfl rfl (r := false) (by kernel_rfl)) rfl ?_
  refine sAs rfl rfl ?_
  refine send ?_
  refine eseq ?_
  refine HT.no rfl ?_
  refine HT.seq ?_
  refine HT.plain ?_
  refine sqS (q_eqs rfl rfl (r := false) (by kernel_rfl)) rfl ?_
  refine sAs rfl rfl ?_
  refine send ?_
  refine eseq ?_
  refine HT.no rfl ?_
  refine HT.seq ?_
  refine HT.plain ?_
  refine sqS (q_eqs rfl rfl (r := false) (by kernel_rfl)) rfl ?_
  refine sAs rfl rfl ?_
  refine send ?_
  refine eseq ?_
  refine HT.no rfl ?_
  refine HT.seq ?_
  refine HT.plain ?_
  refine sqS (q_eqs rfl rfl (r := false) (by kernel_rfl)) rfl ?_
  refine sAs rfl rfl ?_
  refine send ?_
  refine eseq ?_
  refine HT.no rfl ?_
  refine HT.seq ?_
  refine HT.plain ?_
  refine sqS (q_eqs rfl rfl (r := false) (by kernel_rfl)) rfl ?_
  refine sAs rfl rfl ?_
  refine send ?_
  refine eseq ?_
  refine HT.no rfl ?_
  refine HT.seq ?_
  refine HT.plain ?_
  refine sqS (q_eqs rfl rfl (r := false) (by kernel_rfl)) rfl ?_
  refine sAs rfl rfl ?_
  refine send ?_
  refine eseq ?_
  refine HT.no rfl ?_
  refine HT.seq ?_
  refine HT.plain ?_
  refine sqS (q_eqs rfl rfl (r := false) (by kernel_rfl)) rfl ?_
  refine sAs rfl rfl ?_
  refine send ?_
  refine eseq ?_
  refine HT.no rfl ?_
  refine HT.seq ?_
  refine HT.plain ?_
  refine sqS (q_eqs rfl rfl (r := false) (by kernel_rfl)) rfl ?_
  refine sAs rfl rfl ?_
  refine send ?_
  refine eseq ?_
  refine HT.no rfl ?_
  refine HT.seq ?_
  refine HT.plain ?_
  refine sqS (q_eqs rfl rfl (r := true) (by kernel_rfl)) rfl ?_
  refine sAs rfl rfl ?_
  refine send ?_
  refine eseq ?_
  refine HT.yes rfl ?_
  refine HT.plain ?_
  refine sMv rfl rfl ?_
  refine sMv rfl rfl ?_
  refine sqS (q_iface rfl Tryz.underlying199 (fun _ h => nomatch h)) rfl ?_
  refine sl_ (l_callX3 (vs := [(.slice A n c), (.iface 199 (.pointer (some ⟨b9, 0, none⟩)))]) (Kc := [⟨b9, 201, [some .nilIface], true⟩]) (Bc := [Byt A n c bs]) [0] [0] [Byt A n c bs] (fun b23 AQ cQ => [⟨b5, 206, [some (.string (⟨#[110, 111, 32, 107, 105, 110, 100]⟩))], true⟩, ⟨b9, 201, [some (.iface 63 (.pointer (some ⟨b23, 0, none⟩)))], true⟩, ⟨b23, 179, [some (.slice none 0 0), some (.slice none 0 0), some (.int .u8 ((nb bs 0 : Nat) : Int)), some (.int .i64 ((100000000 * (nb bs 1) : Nat) : Int)), some (.int .u16 ((bN bs 2 2 : Nat) : Int)), some (.slice (cutA A c 4) (8 - 4) (c - 4)), some (.bool (decide ((nb bs 8) &&& 8 ≠ 0))), some (.int .u8 (((nb bs 8) &&& 7 : Nat) : Int)), some (.int .i64 ((100000000 * (nb bs 9) : Nat) : Int)), some (.slice AQ N cQ), some (.int .u16 ((0 : Nat) : Int)), some (.int .u16 ((bN bs 10 2 : Nat) : Int)), some (.slice none 0 0), some (.int .u8 ((3 : Nat) : Int))], true⟩]) (fun b23 AQ cQ => [Byt A n c bs, Cel AQ N cQ 1 (rowX (fun j => [.slice (cutA A c (12 + (j * 4))) ((16 + (j * 4)) - (12 + (j * 4))) (c - (12 + (j * 4)))]) N)]) (by decide) rfl ca_87 (fun _ h => h) rfl rfl rfl rfl (fun w h => igmp3_d2 w A n c bs N b9 (by omega) (by omega) (by omega) (by omega) (by omega) (by omega) (by omega) (by omega) h) (fun _ _ _ => rfl) (fun _ _ _ => rfl) (fun _ _ _ => rfl) (fun _ _ _ => rfl) fun b23 AQ cQ hf3 he4 => ?_)
  have hnc5 : N ≤ cQ := by obtain ⟨w, h⟩ := he4; exact (h _ List.mem_cons_self).2.1
  refine sAs rfl rfl ?_
  refine send ?_
  refine ein ?_
  refine eseq ?_
  refine HT.seq ?_
  refine HT.seq ?_
  refine HT.plain ?_
  refine sMv rfl rfl ?_
  refine sqS (q_notNil rfl rfl Tryz.underlying59) rfl ?_
  refine send ?_
  refine eseq ?_
  refine HT.no rfl ?_
  refine HT.skip ?_
  refine eseq ?_
  refine HT.seq ?_
  refine HT.plain ?_
  refine sMv rfl rfl ?_
  refine sqS (q_nil rfl) rfl ?_
  refine sqS (q_field (b := b9) (off := 0) rfl fo_201_0) rfl ?_
  refine sqS (q_load (b := b9) (off := 0) (j := 1) rfl nagg_43 (fun _ h => h) rfl rfl rfl) rfl ?_
  refine sAs rfl rfl ?_
  refine sAs rfl rfl ?_
  refine send ?_
  refine eseq ?_
  refine HT.ret ?_
  exact fun a ha w' hw => fin_ ha (res2 ha Tryz.results58 rfl rfl) ⟨b23, AQ, cQ, rfl, (hw.wk [(2, [])] rfl), (fr1 (hf3 _ List.mem_cons_self) fr0)⟩

theorem igmp3_e2 (w : World) (A : Option Addr) (n : Nat) (c : Nat) (bs : List UInt8) (N : Nat) (hn : n ≤ 400) (ha : 8 ≤ n) (hb : nb bs 0 = 17) (hc : 12 ≤ n) (hd : nb bs 1 < 128) (he : nb bs 9 < 128) (hf : 12 + 4 * bN bs 10 2 ≤ n) (hg : bN bs 10 2 = N) (hst : St w [] [] [Byt A n c bs] w) : Calls Tryz.prog 46 #[(.string ⟨#[105, 103, 109, 112, 51]⟩), (.slice A n c)] w (CP5 w [] [Byt A n c bs] (fun b23 A5 c5 AQ cQ => (.tuple #[(.iface 63 (.pointer (some ⟨b23, 0, none⟩))), (.bool true)])) (fun b23 A5 c5 AQ cQ => [⟨b23, 179, [some (.slice none 0 0), some (.slice none 0 0), some (.int .u8 ((nb bs 0 : Nat) : Int)), some (.int .i64 ((100000000 * (nb bs 1) : Nat) : Int)), some (.int .u16 ((bN bs 2 2 : Nat) : Int)), some (.slice (cutA A5 c5 4) (8 - 4) (c5 - 4)), some (.bool (decide ((nb bs 8) &&& 8 ≠ 0))), some (.int .u8 (((nb bs 8) &&& 7 : Nat) : Int)), some (.int .i64 ((100000000 * (nb bs 9) : Nat) : Int)), some (.slice AQ N cQ), some (.int .u16 ((0 : Nat) : Int)), some (.int .u16 ((bN bs 10 2 : Nat) : Int)), some (.slice none 0 0), some (.int .u8 ((3 : Nat) : Int))], true⟩]) (fun b23 A5 c5 AQ cQ => [Byt A5 n c5 bs, Cel AQ N cQ 1 (rowX (fun j => [.slice (cutA A5 c5 (12 + (j * 4))) ((16 + (j * 4)) - (12 + (j * 4))) (c5 - (12 + (j * 4)))]) N)])) := by
  have hnc00 : n ≤ c := (hst.fact (j := 0) rfl).2.1
  have hbl : n = bs.length := (hst.fact (j := 0) rfl).1
  refine enter (vs := [(.string ⟨#[105, 103, 109, 112, 51]⟩), (.slice A n c)]) Tryz.func46 rfl rfl rfl hst ?_
  refine HT.seq ?_
  refine HT.plain ?_
  refine sAs rfl rfl ?_
  refine sAs rfl rfl ?_
  refine send ?_
  refine eseq ?_
  refine HT.seq ?_
  refine HT.seq ?_
  refine HT.plain ?_
  refine sMv rfl rfl ?_
  refine sqS (q_len (len := n) rfl Tryz.underlying22) rfl ?_
  refine sqS (q_F (q_gt (p := n) (q := 2000) rfl rfl) (by omega)) rfl ?_
  refine send ?_
  refine eseq ?_
  refine HT.no rfl ?_
  refine HT.skip ?_
  refine eseq ?_
  refine HT.seq ?_
  refine HT.plain ?_
  refine sMv rfl rfl ?_
  refine sAs rfl rfl ?_
  refine send ?_
  refine eseq ?_
  refine HT.seq ?_
  refine HT.seq ?_
  refine HT.plain ?_
  refine sMv rfl rfl ?_
  refine sqS (q_eqs rfl rfl (r := false) (by kernel_rfl)) rfl ?_
  refine sMv rfl rfl ?_
  refine sgqS rfl (q_move rfl) rfl ?_
  refine sgqS rfl (q_eqs rfl rfl (r := true) (by kernel_rfl)) rfl ?_
  refine sqS (q_pick rfl (fun h => nomatch h) (fun _ => rfl)) rfl ?_
  refine send ?_
  refine eseq ?_
  refine HT.yes rfl ?_
  refine HT.plain ?_
  refine sAs rfl rfl ?_
  refine send ?_
  refine eseq ?_
  refine HT.seq ?_
  refine HT.seq ?_
  refine HT.plain ?_
  refine sMv rfl rfl ?_
  refine sMv rfl rfl ?_
  refine sqS (q_call (vs := [(.string ⟨#[105, 103, 109, 112, 51]⟩), (.slice A n c)]) (v := (.bool true)) rfl ca_57 (fun w h => igmp3_c2 w A n c bs N (by omega) (by omega) (by omega) (by omega) (by omega) (by omega) (by omega) (by omega) (St.enter (sp := []) (Kc := []) (bi := [0]) h rfl rfl rfl))) rfl ?_
  refine sqS (q_not rfl) rfl ?_
  refine send ?_
  refine eseq ?_
  refine HT.no rfl ?_
  refine HT.skip ?_
  refine eseq ?_
  refine HT.seq ?_
  refine HT.plain ?_
  refine sMv rfl rfl ?_
  refine sMv rfl rfl ?_
  refine sl_ (l_callX2 (vs := [(.slice A n c)]) (Kc := []) (Bc := [Byt A n c bs]) [] [0] [Byt A n c bs] (fun A5 c5 => []) (fun A5 c5 => [Byt A n c bs, Byt A5 n c5 bs]) (by decide) rfl ca_59 (fun _ h => h) rfl rfl rfl rfl (fun w h => Clone w A n c bs (by omega) h) (fun _ _ => rfl) (fun _ _ => rfl) (fun _ _ => rfl) (fun _ _ => rfl) fun A5 c5 hf1 he2 => ?_)
  have hnc3 : n ≤ c5 := by obtain ⟨w, h⟩ := he2; exact (h _ List.mem_cons_self).2.1
  refine sl_ (l_callX3 (vs := [(.string ⟨#[105, 103, 109, 112]⟩), (.slice A5 n c5)]) (Kc := []) (Bc := [Byt A5 n c5 bs]) [] [1] [Byt A n c bs, Byt A5 n c5 bs] (fun b23 AQ cQ => [⟨b23, 179, [some (.slice none 0 0), some (.slice none 0 0), some (.int .u8 ((nb bs 0 : Nat) : Int)), some (.int .i64 ((100000000 * (nb bs 1) : Nat) : Int)), some (.int .u16 ((bN bs 2 2 : Nat) : Int)), some (.slice (cutA A5 c5 4) (8 - 4) (c5 - 4)), some (.bool (decide ((nb bs 8) &&& 8 ≠ 0))), some (.int .u8 (((nb bs 8) &&& 7 : Nat) : Int)), some (.int .i64 ((100000000 * (nb bs 9) : Nat) : Int)), some (.slice AQ N cQ), some (.int .u16 ((0 : Nat) : Int)), some (.int .u16 ((bN bs 10 2 : Nat) : Int)), some (.slice none 0 0), some (.int .u8 ((3 : Nat) : Int))], true⟩]) (fun b23 AQ cQ => [Byt A n c bs, Byt A5 n c5 bs, Cel AQ N cQ 1 (rowX (fun j => [.slice (cutA A5 c5 (12 + (j * 4))) ((16 + (j * 4)) - (12 + (j * 4))) (c5 - (12 + (j * 4)))]) N)]) (by decide) rfl ca_58 (fun _ h => h) rfl rfl rfl rfl (fun w h => igmp3_z2 w A5 n c5 bs N (by omega) (by omega) (by omega) (by omega) (by omega) (by omega) (by omega) (by omega) h) (fun _ _ _ => rfl) (fun _ _ _ => rfl) (fun _ _ _ => rfl) (fun _ _ _ => rfl) fun b23 AQ cQ hf4 he5 => ?_)
  have hnc6 : N ≤ cQ := by obtain ⟨w, h⟩ := he5; exact (h _ List.mem_cons_self).2.1
  refine sMv rfl rfl ?_
  refine sqS (q_extract (vs := [(.iface 63 (.pointer (some ⟨b23, 0, none⟩))), .nilIface]) (i := 0) rfl rfl) rfl ?_
  refine sqS (q_extract (vs := [(.iface 63 (.pointer (some ⟨b23, 0, none⟩))), .nilIface]) (i := 1) rfl rfl) rfl ?_
  refine sAs rfl rfl ?_
  refine sAs rfl rfl ?_
  refine send ?_
  refine eseq ?_
  refine HT.seq ?_
  refine HT.seq ?_
  refine HT.plain ?_
  refine sMv rfl rfl ?_
  refine sqS (q_notNil rfl rfl Tryz.underlying59) rfl ?_
  refine sMv rfl rfl ?_
  refine sgqS rfl (q_move rfl) rfl ?_
  refine sgqS rfl (q_isNil' rfl rfl Tryz.underlying43) rfl ?_
  refine sqS (q_pick rfl (fun h => nomatch h) (fun _ => rfl)) rfl ?_
  refine send ?_
  refine eseq ?_
  refine HT.no rfl ?_
  refine HT.skip ?_
  refine eseq ?_
  refine HT.seq ?_
  refine HT.seq ?_
  refine HT.plain ?_
  refine sMv rfl rfl ?_
  refine sqS (q_is rfl Tryz.underlying63 (fun _ h => nomatch h)) rfl ?_
  refine sMv rfl rfl ?_
  refine sqS (q_extract (vs := [(.pointer (some ⟨b23, 0, none⟩)), (.bool true)]) (i := 0) rfl rfl) rfl ?_
  refine sqS (q_extract (vs := [(.pointer (some ⟨b23, 0, none⟩)), (.bool true)]) (i := 1) rfl rfl) rfl ?_
  refine sAs rfl rfl ?_
  refine sAs rfl rfl ?_
  refine send ?_
  refine eseq ?_
  refine HT.seq ?_
  refine HT.plain ?_
  refine sMv rfl rfl ?_
  refine sMv rfl rfl ?_
  refine sqS (q_eqs rfl rfl (r := true) (by kernel_rfl)) rfl ?_
  refine sqS (q_neb rfl rfl Tryz.underlying4) rfl ?_
  refine sMv rfl rfl ?_
  refine sskip rfl rfl ?_
  refine sskip rfl rfl ?_
  refine sqS (q_pick rfl (fun h => nomatch h) (fun _ => rfl)) rfl ?_
  refine send ?_
  refine eseq ?_
  refine HT.no rfl ?_
  refine HT.skip ?_
  refine eseq ?_
  refine HT.seq ?_
  refine HT.plain ?_
  refine sMv rfl rfl ?_
  refine sAs rfl rfl ?_
  refine sAs rfl rfl ?_
  refine send ?_
  refine eseq ?_
  refine HT.ret ?_
  exact fun a ha w' hw => fin_ ha (res2 ha Tryz.results46 rfl rfl) ⟨b23, A5, c5, AQ, cQ, rfl, hw, (fr1 (hf1 _ List.mem_cons_self) (fr1 (hf4 _ List.mem_cons_self) fr0))⟩

abbrev igmp3_t2_k0 (b23 : Nat) (bs : List UInt8) (A5 : Option Addr) (c5 : Nat) (AQ : Option Addr) (N : Nat) (cQ : Nat) : Kb := ⟨b23, 179, [some (.slice none 0 0), some (.slice none 0 0), some (.int .u8 ((nb bs 0 : Nat) : Int)), some (.int .i64 ((100000000 * (nb bs 1) : Nat) : Int)), some (.int .u16 ((bN bs 2 2 : Nat) : Int)), some (.slice (cutA A5 c5 4) (8 - 4) (c5 - 4)), some (.bool (decide ((nb bs 8) &&& 8 ≠ 0))), some (.int .u8 (((nb bs 8) &&& 7 : Nat) : Int)), some (.int .i64 ((100000000 * (nb bs 9) : Nat) : Int)), some (.slice AQ N cQ), some (.int .u16 ((0 : Nat) : Int)), some (.int .u16 ((bN bs 10 2 : Nat) : Int)), some (.slice none 0 0), some (.int .u8 ((3 : Nat) : Int))], false⟩
abbrev igmp3_t2_k1 (b1020 : Nat) (bs : List UInt8) : Kb := ⟨b1020, 39, [some (.int .u64 ((nb bs 0 : Nat) : Int)), some (.int .u64 ((100000000 * (nb bs 1) : Nat) : Int)), some (.int .u64 ((bN bs 2 2 : Nat) : Int)), some (.int .u64 ((bitN (decide ((nb bs 8) &&& 8 ≠ 0)) : Nat) : Int)), some (.int .u64 (((nb bs 8) &&& 7 : Nat) : Int)), some (.int .u64 ((100000000 * (nb bs 9) : Nat) : Int)), some (.int .u64 ((0 : Nat) : Int)), some (.int .u64 ((bN bs 10 2 : Nat) : Int)), some (.int .u64 ((3 : Nat) : Int))], true⟩
abbrev igmp3_t2_k2 (b4 : Nat) : Kb := ⟨b4, 29, [some (.slice none 0 0), some (.slice none 0 0), some (.slice none 0 0), some (.slice none 0 0)], true⟩
abbrev igmp3_t2_k3 (b50 : Nat) (b1020 : Nat) (b1029 : Nat) (v : Value) : Kb := ⟨b50, 29, [some (.slice (some ⟨b1020, 0, none⟩) 9 9), some (.slice (some ⟨b1029, 0, none⟩) 1 1), some v, some (.slice none 0 0)], true⟩
abbrev igmp3_t2_k4 (b1049 : Nat) (A5_2 : Option Addr) (i : Nat) (c5_2 : Nat) : Kb := ⟨b1049, 49, [some (.slice none 0 0), some (.slice A5_2 ((16 + (i * 4)) - (12 + (i * 4))) c5_2)], true⟩
abbrev igmp3_t2_k5 (b50 : Nat) (b1020 : Nat) (b1029 : Nat) (v1050 : Value) : Kb := ⟨b50, 29, [some (.slice (some ⟨b1020, 0, none⟩) 9 9), some (.slice (some ⟨b1029, 0, none⟩) 1 1), some v1050, some (.slice none 0 0)], true⟩

theorem igmp3_t2 (w : World) (A5 : Option Addr) (n : Nat) (c5 : Nat) (bs : List UInt8) (N : Nat) (b23 : Nat) (AQ : Option Addr) (cQ : Nat) (hn : n ≤ 400) (ha : 8 ≤ n) (hb : nb bs 0 = 17) (hc : 12 ≤ n) (hd : nb bs 1 < 128) (he : nb bs 9 < 128) (hf : 12 + 4 * bN bs 10 2 ≤ n) (hg : bN bs 10 2 = N) (hst : St w [] [(igmp3_t2_k0 b23 bs A5 c5 AQ N cQ)] [Byt A5 n c5 bs, Cel AQ N cQ 1 (rowX (fun j => [.slice (cutA A5 c5 (12 + (j * 4))) ((16 + (j * 4)) - (12 + (j * 4))) (c5 - (12 + (j * 4)))]) N)] w) : Calls Tryz.prog 47 #[(.iface 63 (.pointer (some ⟨b23, 0, none⟩))), (.slice none 0 0)] w (IP w (Byt A5 n c5 bs) (some (some ⟨[nb bs 0, (nb bs 1) * 100000000, bN bs 2 2, ((nb bs 8) / 8) &&& 1, (nb bs 8) &&& 7, (nb bs 9) * 100000000, 0, bN bs 10 2, 3], [sl bs 4 8], ((List.range N).map (fun j => ([], sl bs (12 + (4 * j)) (16 + (4 * j))))), []⟩))) := by
  have hnc00 : n ≤ c5 := (hst.fact (j := 0) rfl).2.1
  have hbl : n = bs.length := (hst.fact (j := 0) rfl).1
  refine enter (vs := [(.iface 63 (.pointer (some ⟨b23, 0, none⟩))), (.slice none 0 0)]) Tryz.func47 rfl rfl rfl hst ?_
  refine HT.seq ?_
  refine HT.plain ?_
  refine sl_ (l_alloc (by decide) zero_29 fun b4 => ?_)
  refine sAs rfl rfl ?_
  refine send ?_
  refine eseq ?_
  refine HT.seq ?_
  refine HT.plain ?_
  refine sMv rfl rfl ?_
  refine sqS (q_call (vs := [(.slice none 0 0)]) (v := (.slice none 0 0)) rfl ca_60 (fun w h => cloneNil w   (St.enter (sp := []) (Kc := []) (bi := []) h rfl rfl rfl))) rfl ?_
  refine sqS (q_build (vs := [(3, (.slice none 0 0))]) (v := (.agg #[(.slice none 0 0), (.slice none 0 0), (.slice none 0 0), (.slice none 0 0)])) rfl (fun _ => by kernel_rfl)) rfl ?_
  refine sl_ (l_box (by decide) rfl fun b50 => ?_)
  refine sAs rfl rfl ?_
  refine send ?_
  refine eseq ?_
  refine HT.seq ?_
  refine HT.seq ?_
  refine HT.plain ?_
  refine sMv rfl rfl ?_
  refine send ?_
  refine eseq ?_
  refine HT.block ?_
  refine HT.seq ?_
  refine HT.plain ?_
  refine sqS (q_isnt (T := 63) (z := (.pointer none)) rfl Tryz.underlying66 (fun _ h => nomatch h) (by decide) zero_66) rfl ?_
  refine sqS (q_extract (vs := [(.pointer none), (.bool false)]) (i := 1) rfl rfl) rfl ?_
  refine sqS (q_extract (vs := [(.pointer none), (.bool false)]) (i := 0) rfl rfl) rfl ?_
  refine send ?_
  refine eseq ?_
  refine HT.no rfl ?_
  refine HT.seq ?_
  refine HT.plain ?_
  refine sqS (q_isnt (T := 63) (z := (.pointer none)) rfl Tryz.underlying73 (fun _ h => nomatch h) (by decide) zero_73) rfl ?_
  refine sqS (q_extract (vs := [(.pointer none), (.bool false)]) (i := 1) rfl rfl) rfl ?_
  refine sqS (q_extract (vs := [(.pointer none), (.bool false)]) (i := 0) rfl rfl) rfl ?_
  refine send ?_
  refine eseq ?_
  refine HT.no rfl ?_
  refine HT.seq ?_
  refine HT.plain ?_
  refine sqS (q_isnt (T := 63) (z := (.pointer none)) rfl Tryz.underlying78 (fun _ h => nomatch h) (by decide) zero_78) rfl ?_
  refine sqS (q_extract (vs := [(.pointer none), (.bool false)]) (i := 1) rfl rfl) rfl ?_
  refine sqS (q_extract (vs := [(.pointer none), (.bool false)]) (i := 0) rfl rfl) rfl ?_
  refine send ?_
  refine eseq ?_
  refine HT.no rfl ?_
  refine HT.seq ?_
  refine HT.plain ?_
  refine sqS (q_isnt (T := 63) (z := (.pointer none)) rfl Tryz.underlying81 (fun _ h => nomatch h) (by decide) zero_81) rfl ?_
  refine sqS (q_extract (vs := [(.pointer none), (.bool false)]) (i := 1) rfl rfl) rfl ?_
  refine sqS (q_extract (vs := [(.pointer none), (.bool false)]) (i := 0) rfl rfl) rfl ?_
  refine send ?_
  refine eseq ?_
  refine HT.no rfl ?_
  refine HT.seq ?_
  refine HT.plain ?_
  refine sqS (q_isnt (T := 63) (z := (.pointer none)) rfl Tryz.underlying85 (fun _ h => nomatch h) (by decide) zero_85) rfl ?_
  refine sqS (q_extract (vs := [(.pointer none), (.bool false)]) (i := 1) rfl rfl) rfl ?_
  refine sqS (q_extract (vs := [(.pointer none), (.bool false)]) (i := 0) rfl rfl) rfl ?_
  refine send ?_
  refine eseq ?_
  refine HT.no rfl ?_
  refine HT.seq ?_
  refine HT.plain ?_
  refine sqS (q_isnt (T := 63) (z := (.pointer none)) rfl Tryz.underlying89 (fun _ h => nomatch h) (by decide) zero_89) rfl ?_
  refine sqS (q_extract (vs := [(.pointer none), (.bool false)]) (i := 1) rfl rfl) rfl ?_
  refine sqS (q_extract (vs := [(.pointer none), (.bool false)]) (i := 0) rfl rfl) rfl ?_
  refine send ?_
  refine eseq ?_
  refine HT.no rfl ?_
  refine HT.seq ?_
  refine HT.plain ?_
  refine sqS (q_isnt (T := 63) (z := (.pointer none)) rfl Tryz.underlying94 (fun _ h => nomatch h) (by decide) zero_94) rfl ?_
  refine sqS (q_extract (vs := [(.pointer none), (.bool false)]) (i := 1) rfl rfl) rfl ?_
  refine sqS (q_extract (vs := [(.pointer none), (.bool false)]) (i := 0) rfl rfl) rfl ?_
  refine send ?_
  refine eseq ?_
  refine HT.no rfl ?_
  refine HT.seq ?_
  refine HT.plain ?_
  refine sqS (q_isnt (T := 63) (z := (.pointer none)) rfl Tryz.underlying95 (fun _ h => nomatch h) (by decide) zero_95) rfl ?_
  refine sqS (q_extract (vs := [(.pointer none), (.bool false)]) (i := 1) rfl rfl) rfl ?_
  refine sqS (q_extract (vs := [(.pointer none), (.bool false)]) (i := 0) rfl rfl) rfl ?_
  refine send ?_
  refine eseq ?_
  refine HT.no rfl ?_
  refine HT.seq ?_
  refine HT.plain ?_
  refine sqS (q_isnt (T := 63) (z := (.pointer none)) rfl Tryz.underlying99 (fun _ h => nomatch h) (by decide) zero_99) rfl ?_
  refine sqS (q_extract (vs := [(.pointer none), (.bool false)]) (i := 1) rfl rfl) rfl ?_
  refine sqS (q_extract (vs := [(.pointer none), (.bool false)]) (i := 0) rfl rfl) rfl ?_
  refine send ?_
  refine eseq ?_
  refine HT.no rfl ?_
  refine HT.seq ?_
  refine HT.plain ?_
  refine sqS (q_isnt (T := 63) (z := (.pointer none)) rfl Tryz.underlying105 (fun _ h => nomatch h) (by decide) zero_105) rfl ?_
  refine sqS (q_extract (vs := [(.pointer none), (.bool false)]) (i := 1) rfl rfl) rfl ?_
  refine sqS (q_extract (vs := [(.pointer none), (.bool false)]) (i := 0) rfl rfl) rfl ?_
  refine send ?_
  refine eseq ?_
  refine HT.no rfl ?_
  refine HT.seq ?_
  refine HT.plain ?_
  refine sqS (q_isnt (T := 63) (z := (.pointer none)) rfl Tryz.underlying110 (fun _ h => nomatch h) (by decide) zero_110) rfl ?_
  refine sqS (q_extract (vs := [(.pointer none), (.bool false)]) (i := 1) rfl rfl) rfl ?_
  refine sqS (q_extract (vs := [(.pointer none), (.bool false)]) (i := 0) rfl rfl) rfl ?_
  refine send ?_
  refine eseq ?_
  refine HT.no rfl ?_
  refine HT.seq ?_
  refine HT.plain ?_
  refine sqS (q_isnt (T := 63) (z := (.pointer none)) rfl Tryz.underlying114 (fun _ h => nomatch h) (by decide) zero_114) rfl ?_
  refine sqS (q_extract (vs := [(.pointer none), (.bool false)]) (i := 1) rfl rfl) rfl ?_
  refine sqS (q_extract (vs := [(.pointer none), (.bool false)]) (i := 0) rfl rfl) rfl ?_
  refine send ?_
  refine eseq ?_
  refine HT.no rfl ?_
  refine HT.seq ?_
  refine HT.plain ?_
  refine sqS (q_isnt (T := 63) (z := (.pointer none)) rfl Tryz.underlying121 (fun _ h => nomatch h) (by decide) zero_121) rfl ?_
  refine sqS (q_extract (vs := [(.pointer none), (.bool false)]) (i := 1) rfl rfl) rfl ?_
  refine sqS (q_extract (vs := [(.pointer none), (.bool false)]) (i := 0) rfl rfl) rfl ?_
  refine send ?_
  refine eseq ?_
  refine HT.no rfl ?_
  refine HT.seq ?_
  refine HT.plain ?_
  refine sqS (q_isnt (T := 63) (z := (.pointer none)) rfl Tryz.underlying127 (fun _ h => nomatch h) (by decide) zero_127) rfl ?_
  refine sqS (q_extract (vs := [(.pointer none), (.bool false)]) (i := 1) rfl rfl) rfl ?_
  refine sqS (q_extract (vs := [(.pointer none), (.bool false)]) (i := 0) rfl rfl) rfl ?_
  refine send ?_
  refine eseq ?_
  refine HT.no rfl ?_
  refine HT.seq ?_
  refine HT.plain ?_
  refine sqS (q_isnt (T := 63) (z := (.pointer none)) rfl Tryz.underlying130 (fun _ h => nomatch h) (by decide) zero_130) rfl ?_
  refine sqS (q_extract (vs := [(.pointer none), (.bool false)]) (i := 1) rfl rfl) rfl ?_
  refine sqS (q_extract (vs := [(.pointer none), (.bool false)]) (i := 0) rfl rfl) rfl ?_
  refine send ?_
  refine eseq ?_
  refine HT.no rfl ?_
  refine HT.seq ?_
  refine HT.plain ?_
  refine sqS (q_isnt (T := 63) (z := (.pointer none)) rfl Tryz.underlying133 (fun _ h => nomatch h) (by decide) zero_133) rfl ?_
  refine sqS (q_extract (vs := [(.pointer none), (.bool false)]) (i := 1) rfl rfl) rfl ?_
  refine sqS (q_extract (vs := [(.pointer none), (.bool false)]) (i := 0) rfl rfl) rfl ?_
  refine send ?_
  refine eseq ?_
  refine HT.no rfl ?_
  refine HT.seq ?_
  refine HT.plain ?_
  refine sqS (q_isnt (T := 63) (z := (.pointer none)) rfl Tryz.underlying137 (fun _ h => nomatch h) (by decide) zero_137) rfl ?_
  refine sqS (q_extract (vs := [(.pointer none), (.bool false)]) (i := 1) rfl rfl) rfl ?_
  refine sqS (q_extract (vs := [(.pointer none), (.bool false)]) (i := 0) rfl rfl) rfl ?_
  refine send ?_
  refine eseq ?_
  refine HT.no rfl ?_
  refine HT.seq ?_
  refine HT.plain ?_
  refine sqS (q_isnt (T := 63) (z := (.pointer none)) rfl Tryz.underlying153 (fun _ h => nomatch h) (by decide) zero_153) rfl ?_
  refine sqS (q_extract (vs := [(.pointer none), (.bool false)]) (i := 1) rfl rfl) rfl ?_
  refine sqS (q_extract (vs := [(.pointer none), (.bool false)]) (i := 0) rfl rfl) rfl ?_
  refine send ?_
  refine eseq ?_
  refine HT.no rfl ?_
  refine HT.seq ?_
  refine HT.plain ?_
  refine sqS (q_isnt (T := 63) (z := (.pointer none)) rfl Tryz.underlying165 (fun _ h => nomatch h) (by decide) zero_165) rfl ?_
  refine sqS (q_extract (vs := [(.pointer none), (.bool false)]) (i := 1) rfl rfl) rfl ?_
  refine sqS (q_extract (vs := [(.pointer none), (.bool false)]) (i := 0) rfl rfl) rfl ?_
  refine send ?_
  refine eseq ?_
  refine HT.no rfl ?_
  refine HT.seq ?_
  refine HT.plain ?_
  refine sqS (q_isnt (T := 63) (z := (.pointer none)) rfl Tryz.underlying172 (fun _ h => nomatch h) (by decide) zero_172) rfl ?_
  refine sqS (q_extract (vs := [(.pointer none), (.bool false)]) (i := 1) rfl rfl) rfl ?_
  refine sqS (q_extract (vs := [(.pointer none), (.bool false)]) (i := 0) rfl rfl) rfl ?_
  refine send ?_
  refine eseq ?_
  refine HT.no rfl ?_
  refine HT.seq ?_
  refine HT.plain ?_
  refine sqS (q_is rfl Tryz.underlying63 (fun _ h => nomatch h)) rfl ?_
  refine sqS (q_extract (vs := [(.pointer (some ⟨b23, 0, none⟩)), (.bool true)]) (i := 1) rfl rfl) rfl ?_
  refine sqS (q_extract (vs := [(.pointer (some ⟨b23, 0, none⟩)), (.bool true)]) (i := 0) rfl rfl) rfl ?_
  refine send ?_
  refine eseq ?_
  refine HT.yes rfl ?_
  refine HT.seq ?_
  refine HT.plain ?_
  refine sAs rfl rfl ?_
  refine send ?_
  refine eseq ?_
  refine HT.seq ?_
  refine HT.drawn mixed (St.closed _ _ _ _) (St w [] [(igmp3_t2_k0 b23 bs A5 c5 AQ N cQ), (igmp3_t2_k2 b4), ⟨b50, 29, [none, some (.slice none 0 0), some (.slice none 0 0), some (.slice none 0 0)], true⟩] [Byt A5 n c5 bs, Cel AQ N cQ 1 (rowX (fun j => [.slice (cutA A5 c5 (12 + (j * 4))) ((16 + (j * 4)) - (12 + (j * 4))) (c5 - (12 + (j * 4)))]) N)]) ?_
  refine dtake (f := 4) [0, 1, 2, 3, 4, 5, 6, 7, 8, 9, 10, 11, 12, 13, 14, 15, 16, 17, 18, 19, 20, 21, 22, 23, 24, 25, 26, 27, 28, 29, 30, 31, 32, 33, 34, 35, 36, 37, 38, 39, 40, 41, 42, 43, 44, 45] (by kernel_rfl) (St.closed _ _ _ _) (fun _ h => (h.wk [(0, []), (1, []), (2, [0])] rfl)) (by kernel_rfl) ?_
  refine dq rfl (q_move rfl) ?_
  refine dq rfl (q_move rfl) ?_
  refine dq rfl (q_nil rfl) ?_
  refine dq rfl (q_field (b := b23) (off := 0) rfl fo_179_1) ?_
  refine dq rfl (q_load (b := b23) (off := 2) (j := 0) rfl nagg_173 (fun _ h => h) rfl rfl rfl) ?_
  refine dq rfl (q_convn (p := nb bs 0) rfl Tryz.underlying173 Tryz.underlying39 (show nb bs 0 < 18446744073709551616 by have := nb_lt bs 0; omega)) ?_
  refine dq rfl (q_move rfl) ?_
  refine dq rfl (q_nil rfl) ?_
  refine dq rfl (q_field (b := b23) (off := 0) rfl fo_179_2) ?_
  refine dq rfl (q_load (b := b23) (off := 3) (j := 0) rfl nagg_174 (fun _ h => h) rfl rfl rfl) ?_
  refine dq rfl (q_convn (p := 100000000 * (nb bs 1)) rfl Tryz.underlying174 Tryz.underlying39 (show 100000000 * (nb bs 1) < 18446744073709551616 by omega)) ?_
  refine dq rfl (q_move rfl) ?_
  refine dq rfl (q_nil rfl) ?_
  refine dq rfl (q_field (b := b23) (off := 0) rfl fo_179_3) ?_
  refine dq rfl (q_load (b := b23) (off := 4) (j := 0) rfl nagg_70 (fun _ h => h) rfl rfl rfl) ?_
  refine dq rfl (q_convn (p := bN bs 2 2) rfl Tryz.underlying70 Tryz.underlying39 (show bN bs 2 2 < 18446744073709551616 by have := bN_lt bs 2 2 65536 rfl; omega)) ?_
  refine dq rfl (q_move rfl) ?_
  refine dq rfl (q_nil rfl) ?_
  refine dq rfl (q_field (b := b23) (off := 0) rfl fo_179_5) ?_
  refine dq rfl (q_load (b := b23) (off := 6) (j := 0) rfl nagg_4 (fun _ h => h) rfl rfl rfl) ?_
  refine dq rfl (q_call (vs := [(.bool (decide ((nb bs 8) &&& 8 ≠ 0)))]) (v := (.int .u64 ((bitN (decide ((nb bs 8) &&& 8 ≠ 0)) : Nat) : Int))) rfl ca_61 (fun w h => bitC w (decide ((nb bs 8) &&& 8 ≠ 0))  (St.enter (sp := []) (Kc := []) (bi := []) h rfl rfl rfl))) ?_
  refine dq rfl (q_move rfl) ?_
  refine dq rfl (q_nil rfl) ?_
  refine dq rfl (q_field (b := b23) (off := 0) rfl fo_179_6) ?_
  refine dq rfl (q_load (b := b23) (off := 7) (j := 0) rfl nagg_5 (fun _ h => h) rfl rfl rfl) ?_
  refine dq rfl (q_convn (p := (nb bs 8) &&& 7) rfl Tryz.underlying5 Tryz.underlying39 (show (nb bs 8) &&& 7 < 18446744073709551616 by have := nb_lt bs 8; have := zm7 (nb bs 8); have := Nat.and_le_left (n := nb bs 8) (m := 7); have := Nat.and_le_right (n := nb bs 8) (m := 7); omega)) ?_
  refine dq rfl (q_move rfl) ?_
  refine dq rfl (q_nil rfl) ?_
  refine dq rfl (q_field (b := b23) (off := 0) rfl fo_179_7) ?_
  refine dq rfl (q_load (b := b23) (off := 8) (j := 0) rfl nagg_174 (fun _ h => h) rfl rfl rfl) ?_
  refine dq rfl (q_convn (p := 100000000 * (nb bs 9)) rfl Tryz.underlying174 Tryz.underlying39 (show 100000000 * (nb bs 9) < 18446744073709551616 by omega)) ?_
  refine dq rfl (q_move rfl) ?_
  refine dq rfl (q_nil rfl) ?_
  refine dq rfl (q_field (b := b23) (off := 0) rfl fo_179_9) ?_
  refine dq rfl (q_load (b := b23) (off := 10) (j := 0) rfl nagg_70 (fun _ h => h) rfl rfl rfl) ?_
  refine dq rfl (q_convn (p := 0) rfl Tryz.underlying70 Tryz.underlying39 (by decide)) ?_
  refine dq rfl (q_move rfl) ?_
  refine dq rfl (q_nil rfl) ?_
  refine dq rfl (q_field (b := b23) (off := 0) rfl fo_179_10) ?_
  refine dq rfl (q_load (b := b23) (off := 11) (j := 0) rfl nagg_70 (fun _ h => h) rfl rfl rfl) ?_
  refine dq rfl (q_convn (p := bN bs 10 2) rfl Tryz.underlying70 Tryz.underlying39 (show bN bs 10 2 < 18446744073709551616 by have := bN_lt bs 10 2 65536 rfl; omega)) ?_
  refine dq rfl (q_move rfl) ?_
  refine dq rfl (q_nil rfl) ?_
  refine dq rfl (q_field (b := b23) (off := 0) rfl fo_179_12) ?_
  refine dq rfl (q_load (b := b23) (off := 13) (j := 0) rfl nagg_5 (fun _ h => h) rfl rfl rfl) ?_
  refine dq rfl (q_convn (p := 3) rfl Tryz.underlying5 Tryz.underlying39 (by decide)) ?_
  refine QL.nil ?_
  refine RG.step1 46 (by kernel_rfl) ?_
  refine dop rfl (l_buildSlice (e := 39) (vs := [(0, (.int .u64 ((nb bs 0 : Nat) : Int))), (1, (.int .u64 ((100000000 * (nb bs 1) : Nat) : Int))), (2, (.int .u64 ((bN bs 2 2 : Nat) : Int))), (3, (.int .u64 ((bitN (decide ((nb bs 8) &&& 8 ≠ 0)) : Nat) : Int))), (4, (.int .u64 (((nb bs 8) &&& 7 : Nat) : Int))), (5, (.int .u64 ((100000000 * (nb bs 9) : Nat) : Int))), (6, (.int .u64 ((0 : Nat) : Int))), (7, (.int .u64 ((bN bs 10 2 : Nat) : Int))), (8, (.int .u64 ((3 : Nat) : Int)))]) (cs := [(.int .u64 ((nb bs 0 : Nat) : Int)), (.int .u64 ((100000000 * (nb bs 1) : Nat) : Int)), (.int .u64 ((bN bs 2 2 : Nat) : Int)), (.int .u64 ((bitN (decide ((nb bs 8) &&& 8 ≠ 0)) : Nat) : Int)), (.int .u64 (((nb bs 8) &&& 7 : Nat) : Int)), (.int .u64 ((100000000 * (nb bs 9) : Nat) : Int)), (.int .u64 ((0 : Nat) : Int)), (.int .u64 ((bN bs 10 2 : Nat) : Int)), (.int .u64 ((3 : Nat) : Int))]) (by decide) rfl (fun _ => by kernel_rfl) fun b1020 => ⟨(fun _ h => (h.wk [(0, []), (1, []), (2, [0])] rfl)), ?_⟩)
  refine dtake (f := 1) [47, 48] (by kernel_rfl) (St.closed _ _ _ _) (fun _ h => (h.wk [(0, []), (1, []), (2, [0])] rfl)) (by kernel_rfl) ?_
  refine dq rfl (q_nil rfl) ?_
  refine dq rfl (q_field (b := b50) (off := 0) rfl fo_29_0) ?_
  refine QL.nil ?_
  refine RG.step1 49 (by kernel_rfl) ?_
  refine dop rfl (l_store (b := b50) (off := 0) (j := 2) rfl rfl nagg_25 rfl rfl rfl rfl (dlt rfl) ⟨(fun _ h => (h.wk [(0, []), (1, []), (2, [0])] rfl)), ?_⟩)
  refine dend (by kernel_rfl) ?_
  refine eseq ?_
  refine HT.seq ?_
  refine HT.plain ?_
  refine sMv rfl rfl ?_
  refine sMv rfl rfl ?_
  refine sqS (q_nil rfl) rfl ?_
  refine sqS (q_field (b := b23) (off := 0) rfl fo_179_4) rfl ?_
  refine sqS (q_load (b := b23) (off := 5) (j := 0) rfl nagg_171 (fun _ h => h) rfl rfl rfl) rfl ?_
  refine sl_ (l_callX2 (vs := [(.slice (cutA A5 c5 4) (8 - 4) (c5 - 4))]) (Kc := []) (Bc := [Byt (cutA A5 c5 4) (8 - 4) (c5 - 4) (sl bs 4 8)]) [] [2] [Byt A5 n c5 bs, Cel AQ N cQ 1 (rowX (fun j => [.slice (cutA A5 c5 (12 + (j * 4))) ((16 + (j * 4)) - (12 + (j * 4))) (c5 - (12 + (j * 4)))]) N), Byt (cutA A5 c5 4) (8 - 4) (c5 - 4) (sl bs 4 8)] (fun A5_1 c5_1 => [(igmp3_t2_k0 b23 bs A5 c5 AQ N cQ), (igmp3_t2_k2 b4), ⟨b50, 29, [some (.slice (some ⟨b1020, 0, none⟩) 9 9), some (.slice none 0 0), some (.slice none 0 0), some (.slice none 0 0)], true⟩, (igmp3_t2_k1 b1020 bs)]) (fun A5_1 c5_1 => [Byt A5 n c5 bs, Cel AQ N cQ 1 (rowX (fun j => [.slice (cutA A5 c5 (12 + (j * 4))) ((16 + (j * 4)) - (12 + (j * 4))) (c5 - (12 + (j * 4)))]) N), Byt A5_1 (8 - 4) c5_1 (sl bs 4 8)]) (by decide) rfl ca_60 (fun _ h => (h.cut (j := 0) (lo := 4) (hi := 8) rfl (by omega) (by omega))) rfl rfl rfl rfl (fun w h => clone w (cutA A5 c5 4) (8 - 4) (c5 - 4) (sl bs 4 8) (by omega) h) (fun _ _ => rfl) (fun _ _ => rfl) (fun _ _ => rfl) (fun _ _ => rfl) fun A5_1 c5_1 hf1 he2 => ?_)
  have hnc3 : (8 - 4) ≤ c5_1 := by obtain ⟨w, h⟩ := he2; exact (h _ List.mem_cons_self).2.1
  refine sl_ (l_buildSlice (e := 22) (vs := [(0, (.slice A5_1 (8 - 4) c5_1))]) (cs := [(.slice A5_1 (8 - 4) c5_1)]) (by decide) rfl (fun _ => by kernel_rfl) fun b1029 => ?_)
  refine sqS (q_nil rfl) rfl ?_
  refine sqS (q_field (b := b50) (off := 0) rfl fo_29_1) rfl ?_
  refine sl_ (l_store (b := b50) (off := 1) (j := 2) rfl rfl nagg_26 rfl rfl rfl rfl (dlt rfl) ?_)
  refine send ?_
  refine eseq ?_
  refine HT.seq ?_
  refine HT.seq ?_
  refine HT.plain ?_
  refine sMv rfl rfl ?_
  refine sqS (q_nil rfl) rfl ?_
  refine sqS (q_field (b := b23) (off := 0) rfl fo_179_8) rfl ?_
  refine sqS (q_load (b := b23) (off := 9) (j := 0) rfl nagg_168 (fun _ h => h) rfl rfl rfl) rfl ?_
  refine sqS (q_len (len := N) rfl Tryz.underlying168) rfl ?_
  refine sMv rfl rfl ?_
  refine send ?_
  refine eseq ?_
  refine HT.block ?_
  refine HT.loop (ι := {p : Nat × Value × List Kb × List (NI × BI) // TSt w.heap.size (fun j => ([], sl bs (12 + (4 * j)) (16 + (4 * j)))) N p.1 p.2.1 p.2.2.1 p.2.2.2}) (fun p => [(4, (.pointer (some ⟨b4, 0, none⟩))), (5, (.bool false)), (6, (.pointer (some ⟨b50, 0, none⟩))), (34, (.pointer (some ⟨b23, 0, none⟩))), (1035, (.slice AQ N cQ)), (1036, (.int .i64 ((N : Nat) : Int))), (1037, (.int .i64 ((p.1.1 : Nat) : Int)))]) (fun p => St w [] ([(igmp3_t2_k0 b23 bs A5 c5 AQ N cQ), (igmp3_t2_k2 b4), ⟨b50, 29, [some (.slice (some ⟨b1020, 0, none⟩) 9 9), some (.slice (some ⟨b1029, 0, none⟩) 1 1), some p.1.2.1, some (.slice none 0 0)], true⟩, (igmp3_t2_k1 b1020 bs), ⟨b1029, 22, [some (.slice A5_1 (8 - 4) c5_1)], true⟩] ++ p.1.2.2.1) [Byt A5 n c5 bs, Cel AQ N cQ 1 (rowX (fun j => [.slice (cutA A5 c5 (12 + (j * 4))) ((16 + (j * 4)) - (12 + (j * 4))) (c5 - (12 + (j * 4)))]) N), Byt A5_1 (8 - 4) c5_1 (sl bs 4 8), psF p.1.2.2.2]) (fun p => N - p.1.1) ⟨(0, .slice none 0 0, [], []), TSt.nil⟩ ⟨rfl, rfl, rfl, rfl, rfl, rfl, rfl, trivial⟩ (fun _ h => psF_nil h) fun ⟨⟨i, v, Kr, ps⟩, hp⟩ => ?_
  replace hp : TSt w.heap.size (fun j => ([], sl bs (12 + (4 * j)) (16 + (4 * j)))) N i v Kr ps := hp
  have hil : i ≤ N := hp.le
  have hr : RowS 49 2 i (psV ps) v Kr := hp.row
  show HT _ _ _ [(4, (.pointer (some ⟨b4, 0, none⟩))), (5, (.bool false)), (6, (.pointer (some ⟨b50, 0, none⟩))), (34, (.pointer (some ⟨b23, 0, none⟩))), (1035, (.slice AQ N cQ)), (1036, (.int .i64 ((N : Nat) : Int))), (1037, (.int .i64 ((i : Nat) : Int)))] (St w [] ([(igmp3_t2_k0 b23 bs A5 c5 AQ N cQ), (igmp3_t2_k2 b4), (igmp3_t2_k3 b50 b1020 b1029 v), (igmp3_t2_k1 b1020 bs), ⟨b1029, 22, [some (.slice A5_1 (8 - 4) c5_1)], true⟩] ++ Kr) [Byt A5 n c5 bs, Cel AQ N cQ 1 (rowX (fun j => [.slice (cutA A5 c5 (12 + (j * 4))) ((16 + (j * 4)) - (12 + (j * 4))) (c5 - (12 + (j * 4)))]) N), Byt A5_1 (8 - 4) c5_1 (sl bs 4 8), psF ps]) _
  refine HT.seq ?_
  refine HT.plain ?_
  refine sqS (q_lt (p := i) (q := N) rfl rfl) rfl ?_
  refine send ?_
  refine eseq ?_
  refine HT.seq ?_
  refine condd rfl (fun h4 => ?_) (fun h4 => ?_)
  · refine HT.skip ?_
    refine eseq ?_
    refine HT.seq ?_
    refine HT.block ?_
    refine HT.seq ?_
    refine HT.plain ?_
    refine sqS (q_indexC (i := i) (sz := 1) rfl rfl Tryz.underlying168 size_171 (fun _ h => h.fact (j := 1) rfl) (by decide) (by omega)) rfl ?_
    refine sqS (q_celLoad (i := i * 1) rfl nagg_171 (fun _ h => h.fact (j := 1) rfl) (rowX_get _ _ _ (by omega))) rfl ?_
    refine sAs rfl rfl ?_
    refine send ?_
    refine eseq ?_
    refine HT.drawn mixed (St.closed _ _ _ _) (St w [] [(igmp3_t2_k0 b23 bs A5 c5 AQ N cQ), (igmp3_t2_k2 b4), ⟨b50, 29, [some (.slice (some ⟨b1020, 0, none⟩) 9 9), some (.slice (some ⟨b1029, 0, none⟩) 1 1), none, some (.slice none 0 0)], true⟩, (igmp3_t2_k1 b1020 bs), ⟨b1029, 22, [some (.slice A5_1 (8 - 4) c5_1)], true⟩] [Byt A5 n c5 bs, Cel AQ N cQ 1 (rowX (fun j => [.slice (cutA A5 c5 (12 + (j * 4))) ((16 + (j * 4)) - (12 + (j * 4))) (c5 - (12 + (j * 4)))]) N), Byt A5_1 (8 - 4) c5_1 (sl bs 4 8), psF ps]) ?_
    refine dtake (f := 8) [0, 1, 2, 3, 5] (by kernel_rfl) (St.closed _ _ _ _) (fun _ h => (St.wk (St.untail (K := [(igmp3_t2_k0 b23 bs A5 c5 AQ N cQ), (igmp3_t2_k2 b4), (igmp3_t2_k3 b50 b1020 b1029 v), (igmp3_t2_k1 b1020 bs), ⟨b1029, 22, [some (.slice A5_1 (8 - 4) c5_1)], true⟩]) (Kr := Kr) h) [(0, []), (1, []), (2, [2]), (3, []), (4, [])] rfl)) (by kernel_rfl) ?_
    refine dq rfl (q_move rfl) ?_
    refine dq rfl (q_move rfl) ?_
    refine dq rfl (q_nil rfl) ?_
    refine dq rfl (q_field (b := b50) (off := 0) rfl fo_29_2) ?_
    refine dq rfl (q_move rfl) ?_
    refine QL.nil ?_
    refine RG.step2 4 6 (by kernel_rfl) ?_ ?_
    · refine dop rfl (l_q _ (by simp) (St.closed _ _ _ _) (q_load (b := b50) (off := 2) (j := 2) rfl nagg_27 (fun _ h => h) rfl rfl rfl) ⟨(fun _ h => (St.wk (St.untail (K := [(igmp3_t2_k0 b23 bs A5 c5 AQ N cQ), (igmp3_t2_k2 b4), (igmp3_t2_k3 b50 b1020 b1029 v), (igmp3_t2_k1 b1020 bs), ⟨b1029, 22, [some (.slice A5_1 (8 - 4) c5_1)], true⟩]) (Kr := Kr) h) [(0, []), (1, []), (2, [2]), (3, []), (4, [])] rfl)), ?_⟩)
      refine RG.step1 6 (by kernel_rfl) ?_
      refine dop rfl (l_callT2 (K := [(igmp3_t2_k0 b23 bs A5 c5 AQ N cQ), (igmp3_t2_k2 b4), (igmp3_t2_k3 b50 b1020 b1029 v), (igmp3_t2_k1 b1020 bs), ⟨b1029, 22, [some (.slice A5_1 (8 - 4) c5_1)], true⟩]) (Kr := Kr) (vs := [(.slice (cutA A5 c5 (12 + (i * 4))) ((16 + (i * 4)) - (12 + (i * 4))) (c5 - (12 + (i * 4))))]) (Bc := [Byt (cutA A5 c5 (12 + (i * 4))) ((16 + (i * 4)) - (12 + (i * 4))) (c5 - (12 + (i * 4))) (sl bs (12 + (i * 4)) (16 + (i * 4)))]) (Bx := [Byt A5 n c5 bs, Cel AQ N cQ 1 (rowX (fun j => [.slice (cutA A5 c5 (12 + (j * 4))) ((16 + (j * 4)) - (12 + (j * 4))) (c5 - (12 + (j * 4)))]) N), Byt A5_1 (8 - 4) c5_1 (sl bs 4 8), psF ps, Byt (cutA A5 c5 (12 + (i * 4))) ((16 + (i * 4)) - (12 + (i * 4))) (c5 - (12 + (i * 4))) (sl bs (12 + (i * 4)) (16 + (i * 4)))]) [4] (fun A5_2 c5_2 => [Byt A5 n c5 bs, Cel AQ N cQ 1 (rowX (fun j => [.slice (cutA A5 c5 (12 + (j * 4))) ((16 + (j * 4)) - (12 + (j * 4))) (c5 - (12 + (j * 4)))]) N), Byt A5_1 (8 - 4) c5_1 (sl bs 4 8), psF ps, Byt A5_2 ((16 + (i * 4)) - (12 + (i * 4))) c5_2 (sl bs (12 + (i * 4)) (16 + (i * 4)))]) (by decide) rfl ca_60 (fun _ h => (h.cut (j := 0) (lo := 12 + (i * 4)) (hi := 16 + (i * 4)) rfl (by have := bN_lt bs 10 2 65536 rfl; have := hil; omega) (by have := bN_lt bs 10 2 65536 rfl; have := hil; omega))) rfl (fun w h => clone w (cutA A5 c5 (12 + (i * 4))) ((16 + (i * 4)) - (12 + (i * 4))) (c5 - (12 + (i * 4))) (sl bs (12 + (i * 4)) (16 + (i * 4))) (by have := bN_lt bs 10 2 65536 rfl; have := hil; omega) h) (fun _ _ => rfl) fun A5_2 c5_2 hf5 he6 => ⟨(fun _ h => (St.selF (St.wk (St.untail (K := [(igmp3_t2_k0 b23 bs A5 c5 AQ N cQ), (igmp3_t2_k2 b4), (igmp3_t2_k3 b50 b1020 b1029 v), (igmp3_t2_k1 b1020 bs), ⟨b1029, 22, [some (.slice A5_1 (8 - 4) c5_1)], true⟩]) (Kr := Kr) h) [(0, []), (1, []), (2, [2]), (3, []), (4, [])] rfl) [0, 1, 2, 3] rfl)), ?_⟩)
      have hnc7 : ((16 + (i * 4)) - (12 + (i * 4))) ≤ c5_2 := by obtain ⟨w, h⟩ := he6; exact (h _ List.mem_cons_self).2.1
      refine dtake (f := 5) [7] (by kernel_rfl) (St.closed _ _ _ _) (fun _ h => (St.selF (St.wk (St.untail (K := [(igmp3_t2_k0 b23 bs A5 c5 AQ N cQ), (igmp3_t2_k2 b4), (igmp3_t2_k3 b50 b1020 b1029 v), (igmp3_t2_k1 b1020 bs), ⟨b1029, 22, [some (.slice A5_1 (8 - 4) c5_1)], true⟩]) (Kr := Kr) h) [(0, []), (1, []), (2, [2]), (3, []), (4, [])] rfl) [0, 1, 2, 3] rfl)) (by kernel_rfl) ?_
      refine dq rfl (q_build (vs := [(1, (.slice A5_2 ((16 + (i * 4)) - (12 + (i * 4))) c5_2))]) (v := (.agg #[(.slice none 0 0), (.slice A5_2 ((16 + (i * 4)) - (12 + (i * 4))) c5_2)])) rfl (fun _ => by kernel_rfl)) ?_
      refine QL.nil ?_
      refine RG.step1 8 (by kernel_rfl) ?_
      refine dop rfl (l_buildSliceT (K := [(igmp3_t2_k0 b23 bs A5 c5 AQ N cQ), (igmp3_t2_k2 b4), (igmp3_t2_k3 b50 b1020 b1029 v), (igmp3_t2_k1 b1020 bs), ⟨b1029, 22, [some (.slice A5_1 (8 - 4) c5_1)], true⟩]) (Kr := Kr) (e := 49) (vs := [(0, (.agg #[(.slice none 0 0), (.slice A5_2 ((16 + (i * 4)) - (12 + (i * 4))) c5_2)]))]) (cs := [(.slice none 0 0), (.slice A5_2 ((16 + (i * 4)) - (12 + (i * 4))) c5_2)]) (by decide) rfl (fun _ => by kernel_rfl) fun b1049 => ⟨(fun _ h => (St.selF (St.wk (St.untail (K := [(igmp3_t2_k0 b23 bs A5 c5 AQ N cQ), (igmp3_t2_k2 b4), (igmp3_t2_k3 b50 b1020 b1029 v), (igmp3_t2_k1 b1020 bs), ⟨b1029, 22, [some (.slice A5_1 (8 - 4) c5_1)], true⟩, (igmp3_t2_k4 b1049 A5_2 i c5_2)]) (Kr := Kr) h) [(0, []), (1, []), (2, [2]), (3, []), (4, [])] rfl) [0, 1, 2, 3] rfl)), ?_⟩)
      refine RG.step1 9 (by kernel_rfl) ?_
      refine dop rfl (l_appendR (K0 := [(igmp3_t2_k0 b23 bs A5 c5 AQ N cQ), (igmp3_t2_k2 b4), (igmp3_t2_k3 b50 b1020 b1029 v), (igmp3_t2_k1 b1020 bs), ⟨b1029, 22, [some (.slice A5_1 (8 - 4) c5_1)], true⟩, (igmp3_t2_k4 b1049 A5_2 i c5_2)]) (Kr := Kr) (k := i) (xs := (psV ps)) (jq := 5) (news := [(.slice none 0 0), (.slice A5_2 ((16 + (i * 4)) - (12 + (i * 4))) c5_2)]) (by decide) rfl rfl Tryz.underlying27 rowT_49 (by decide) hr (by have := hil; have := bN_lt bs 10 2 65536 rfl; omega) rfl rfl (by simp [Value.one1]) fun v1050 Kr1050 hr1050 => ⟨(fun _ h => (St.selF (St.wk (St.untail (K := [(igmp3_t2_k0 b23 bs A5 c5 AQ N cQ), (igmp3_t2_k2 b4), (igmp3_t2_k3 b50 b1020 b1029 v), (igmp3_t2_k1 b1020 bs), ⟨b1029, 22, [some (.slice A5_1 (8 - 4) c5_1)], true⟩, (igmp3_t2_k4 b1049 A5_2 i c5_2)]) (Kr := Kr1050) h) [(0, []), (1, []), (2, [2]), (3, []), (4, [])] rfl) [0, 1, 2, 3] rfl)), ?_⟩)
      refine dtake (f := 1) [10, 11] (by kernel_rfl) (St.closed _ _ _ _) (fun _ h => (St.selF (St.wk (St.untail (K := [(igmp3_t2_k0 b23 bs A5 c5 AQ N cQ), (igmp3_t2_k2 b4), (igmp3_t2_k3 b50 b1020 b1029 v), (igmp3_t2_k1 b1020 bs), ⟨b1029, 22, [some (.slice A5_1 (8 - 4) c5_1)], true⟩, (igmp3_t2_k4 b1049 A5_2 i c5_2)]) (Kr := Kr1050) h) [(0, []), (1, []), (2, [2]), (3, []), (4, [])] rfl) [0, 1, 2, 3] rfl)) (by kernel_rfl) ?_
      refine dq rfl (q_nil rfl) ?_
      refine dq rfl (q_field (b := b50) (off := 0) rfl fo_29_2) ?_
      refine QL.nil ?_
      refine RG.step1 12 (by kernel_rfl) ?_
      refine dop rfl (l_store (b := b50) (off := 2) (j := 2) rfl rfl nagg_27 hr1050.one rfl rfl rfl (dlt rfl) ⟨(fun _ h => (St.selF (St.wk (St.untail (K := [(igmp3_t2_k0 b23 bs A5 c5 AQ N cQ), (igmp3_t2_k2 b4), (igmp3_t2_k5 b50 b1020 b1029 v1050), (igmp3_t2_k1 b1020 bs), ⟨b1029, 22, [some (.slice A5_1 (8 - 4) c5_1)], true⟩, (igmp3_t2_k4 b1049 A5_2 i c5_2)]) (Kr := Kr1050) h) [(0, []), (1, []), (2, [2]), (3, []), (4, [])] rfl) [0, 1, 2, 3] rfl)), ?_⟩)
      refine dend (by kernel_rfl) ?_
      refine ein ?_
      refine eseq ?_
      refine HT.norm ([(igmp3_t2_k0 b23 bs A5 c5 AQ N cQ), (igmp3_t2_k2 b4), (igmp3_t2_k5 b50 b1020 b1029 v1050), (igmp3_t2_k1 b1020 bs), ⟨b1029, 22, [some (.slice A5_1 (8 - 4) c5_1)], true⟩, (igmp3_t2_k4 b1049 A5_2 i c5_2)] ++ Kr1050) [Byt A5 n c5 bs, Cel AQ N cQ 1 (rowX (fun j => [.slice (cutA A5 c5 (12 + (j * 4))) ((16 + (j * 4)) - (12 + (j * 4))) (c5 - (12 + (j * 4)))]) N), Byt A5_1 (8 - 4) c5_1 (sl bs 4 8), psF ps, Byt A5_2 ((16 + (i * 4)) - (12 + (i * 4))) c5_2 (sl bs (12 + (i * 4)) (16 + (i * 4)))] rfl rfl ?_
      refine HT.plain ?_
      refine sqS (q_add (p := i) (q := 1) rfl rfl (show i + 1 < 9223372036854775808 by have := bN_lt bs 10 2 65536 rfl; have := hil; omega)) rfl ?_
      refine sMv rfl rfl ?_
      refine send ?_
      exact fun a ha w' hw => eround2 ⟨(i + 1, _, _, _), TSt.step0 hp (b := ⟨A5_2, ((16 + (i * 4)) - (12 + (i * 4))), c5_2, (sl bs (12 + (i * 4)) (16 + (i * 4)))⟩) (by omega) hr1050 (hf5 _ List.mem_cons_self) (show ([], (sl bs (12 + (i * 4)) (16 + (i * 4)))) = ([], sl bs (12 + (4 * i)) (16 + (4 * i))) from pdt rfl (by omega) (by omega))⟩ (show N - (i + 1) < N - i by omega) (ha.sub ⟨rfl, rfl, rfl, rfl, rfl, rfl, rfl, trivial⟩) (St.psF_snoc0 (B := [Byt A5 n c5 bs, Cel AQ N cQ 1 (rowX (fun j => [.slice (cutA A5 c5 (12 + (j * 4))) ((16 + (j * 4)) - (12 + (j * 4))) (c5 - (12 + (j * 4)))]) N), Byt A5_1 (8 - 4) c5_1 (sl bs 4 8)]) (ps := ps) (b := ⟨A5_2, ((16 + (i * 4)) - (12 + (i * 4))), c5_2, (sl bs (12 + (i * 4)) (16 + (i * 4)))⟩) (St.drop (X := [(igmp3_t2_k0 b23 bs A5 c5 AQ N cQ), (igmp3_t2_k2 b4), (igmp3_t2_k5 b50 b1020 b1029 v1050), (igmp3_t2_k1 b1020 bs), ⟨b1029, 22, [some (.slice A5_1 (8 - 4) c5_1)], true⟩]) (Y := [(igmp3_t2_k4 b1049 A5_2 i c5_2)]) (Z := Kr1050) hw))
    · refine dop rfl (l_callT2 (K := [(igmp3_t2_k0 b23 bs A5 c5 AQ N cQ), (igmp3_t2_k2 b4), (igmp3_t2_k3 b50 b1020 b1029 v), (igmp3_t2_k1 b1020 bs), ⟨b1029, 22, [some (.slice A5_1 (8 - 4) c5_1)], true⟩]) (Kr := Kr) (vs := [(.slice (cutA A5 c5 (12 + (i * 4))) ((16 + (i * 4)) - (12 + (i * 4))) (c5 - (12 + (i * 4))))]) (Bc := [Byt (cutA A5 c5 (12 + (i * 4))) ((16 + (i * 4)) - (12 + (i * 4))) (c5 - (12 + (i * 4))) (sl bs (12 + (i * 4)) (16 + (i * 4)))]) (Bx := [Byt A5 n c5 bs, Cel AQ N cQ 1 (rowX (fun j => [.slice (cutA A5 c5 (12 + (j * 4))) ((16 + (j * 4)) - (12 + (j * 4))) (c5 - (12 + (j * 4)))]) N), Byt A5_1 (8 - 4) c5_1 (sl bs 4 8), psF ps, Byt (cutA A5 c5 (12 + (i * 4))) ((16 + (i * 4)) - (12 + (i * 4))) (c5 - (12 + (i * 4))) (sl bs (12 + (i * 4)) (16 + (i * 4)))]) [4] (fun A5_2 c5_2 => [Byt A5 n c5 bs, Cel AQ N cQ 1 (rowX (fun j => [.slice (cutA A5 c5 (12 + (j * 4))) ((16 + (j * 4)) - (12 + (j * 4))) (c5 - (12 + (j * 4)))]) N), Byt A5_1 (8 - 4) c5_1 (sl bs 4 8), psF ps, Byt A5_2 ((16 + (i * 4)) - (12 + (i * 4))) c5_2 (sl bs (12 + (i * 4)) (16 + (i * 4)))]) (by decide) rfl ca_60 (fun _ h => (h.cut (j := 0) (lo := 12 + (i * 4)) (hi := 16 + (i * 4)) rfl (by have := bN_lt bs 10 2 65536 rfl; have := hil; omega) (by have := bN_lt bs 10 2 65536 rfl; have := hil; omega))) rfl (fun w h => clone w (cutA A5 c5 (12 + (i * 4))) ((16 + (i * 4)) - (12 + (i * 4))) (c5 - (12 + (i * 4))) (sl bs (12 + (i * 4)) (16 + (i * 4))) (by have := bN_lt bs 10 2 65536 rfl; have := hil; omega) h) (fun _ _ => rfl) fun A5_2 c5_2 hf8 he9 => ⟨(fun _ h => (St.selF (St.wk (St.untail (K := [(igmp3_t2_k0 b23 bs A5 c5 AQ N cQ), (igmp3_t2_k2 b4), (igmp3_t2_k3 b50 b1020 b1029 v), (igmp3_t2_k1 b1020 bs), ⟨b1029, 22, [some (.slice A5_1 (8 - 4) c5_1)], true⟩]) (Kr := Kr) h) [(0, []), (1, []), (2, [2]), (3, []), (4, [])] rfl) [0, 1, 2, 3] rfl)), ?_⟩)
      have hnc10 : ((16 + (i * 4)) - (12 + (i * 4))) ≤ c5_2 := by obtain ⟨w, h⟩ := he9; exact (h _ List.mem_cons_self).2.1
      refine dtake (f := 6) [7] (by kernel_rfl) (St.closed _ _ _ _) (fun _ h => (St.selF (St.wk (St.untail (K := [(igmp3_t2_k0 b23 bs A5 c5 AQ N cQ), (igmp3_t2_k2 b4), (igmp3_t2_k3 b50 b1020 b1029 v), (igmp3_t2_k1 b1020 bs), ⟨b1029, 22, [some (.slice A5_1 (8 - 4) c5_1)], true⟩]) (Kr := Kr) h) [(0, []), (1, []), (2, [2]), (3, []), (4, [])] rfl) [0, 1, 2, 3] rfl)) (by kernel_rfl) ?_
      refine dq rfl (q_build (vs := [(1, (.slice A5_2 ((16 + (i * 4)) - (12 + (i * 4))) c5_2))]) (v := (.agg #[(.slice none 0 0), (.slice A5_2 ((16 + (i * 4)) - (12 + (i * 4))) c5_2)])) rfl (fun _ => by kernel_rfl)) ?_
      refine QL.nil ?_
      refine RG.step2 4 8 (by kernel_rfl) ?_ ?_
      · refine dop rfl (l_q _ (by simp) (St.closed _ _ _ _) (q_load (b := b50) (off := 2) (j := 2) rfl nagg_27 (fun _ h => h) rfl rfl rfl) ⟨(fun _ h => (St.selF (St.wk (St.untail (K := [(igmp3_t2_k0 b23 bs A5 c5 AQ N cQ), (igmp3_t2_k2 b4), (igmp3_t2_k3 b50 b1020 b1029 v), (igmp3_t2_k1 b1020 bs), ⟨b1029, 22, [some (.slice A5_1 (8 - 4) c5_1)], true⟩]) (Kr := Kr) h) [(0, []), (1, []), (2, [2]), (3, []), (4, [])] rfl) [0, 1, 2, 3] rfl)), ?_⟩)
        refine RG.step1 8 (by kernel_rfl) ?_
        refine dop rfl (l_buildSliceT (K := [(igmp3_t2_k0 b23 bs A5 c5 AQ N cQ), (igmp3_t2_k2 b4), (igmp3_t2_k3 b50 b1020 b1029 v), (igmp3_t2_k1 b1020 bs), ⟨b1029, 22, [some (.slice A5_1 (8 - 4) c5_1)], true⟩]) (Kr := Kr) (e := 49) (vs := [(0, (.agg #[(.slice none 0 0), (.slice A5_2 ((16 + (i * 4)) - (12 + (i * 4))) c5_2)]))]) (cs := [(.slice none 0 0), (.slice A5_2 ((16 + (i * 4)) - (12 + (i * 4))) c5_2)]) (by decide) rfl (fun _ => by kernel_rfl) fun b1049 => ⟨(fun _ h => (St.selF (St.wk (St.untail (K := [(igmp3_t2_k0 b23 bs A5 c5 AQ N cQ), (igmp3_t2_k2 b4), (igmp3_t2_k3 b50 b1020 b1029 v), (igmp3_t2_k1 b1020 bs), ⟨b1029, 22, [some (.slice A5_1 (8 - 4) c5_1)], true⟩, (igmp3_t2_k4 b1049 A5_2 i c5_2)]) (Kr := Kr) h) [(0, []), (1, []), (2, [2]), (3, []), (4, [])] rfl) [0, 1, 2, 3] rfl)), ?_⟩)
        refine RG.step1 9 (by kernel_rfl) ?_
        refine dop rfl (l_appendR (K0 := [(igmp3_t2_k0 b23 bs A5 c5 AQ N cQ), (igmp3_t2_k2 b4), (igmp3_t2_k3 b50 b1020 b1029 v), (igmp3_t2_k1 b1020 bs), ⟨b1029, 22, [some (.slice A5_1 (8 - 4) c5_1)], true⟩, (igmp3_t2_k4 b1049 A5_2 i c5_2)]) (Kr := Kr) (k := i) (xs := (psV ps)) (jq := 5) (news := [(.slice none 0 0), (.slice A5_2 ((16 + (i * 4)) - (12 + (i * 4))) c5_2)]) (by decide) rfl rfl Tryz.underlying27 rowT_49 (by decide) hr (by have := hil; have := bN_lt bs 10 2 65536 rfl; omega) rfl rfl (by simp [Value.one1]) fun v1050 Kr1050 hr1050 => ⟨(fun _ h => (St.selF (St.wk (St.untail (K := [(igmp3_t2_k0 b23 bs A5 c5 AQ N cQ), (igmp3_t2_k2 b4), (igmp3_t2_k3 b50 b1020 b1029 v), (igmp3_t2_k1 b1020 bs), ⟨b1029, 22, [some (.slice A5_1 (8 - 4) c5_1)], true⟩, (igmp3_t2_k4 b1049 A5_2 i c5_2)]) (Kr := Kr1050) h) [(0, []), (1, []), (2, [2]), (3, []), (4, [])] rfl) [0, 1, 2, 3] rfl)), ?_⟩)
        refine dtake (f := 1) [10, 11] (by kernel_rfl) (St.closed _ _ _ _) (fun _ h => (St.selF (St.wk (St.untail (K := [(igmp3_t2_k0 b23 bs A5 c5 AQ N cQ), (igmp3_t2_k2 b4), (igmp3_t2_k3 b50 b1020 b1029 v), (igmp3_t2_k1 b1020 bs), ⟨b1029, 22, [some (.slice A5_1 (8 - 4) c5_1)], true⟩, (igmp3_t2_k4 b1049 A5_2 i c5_2)]) (Kr := Kr1050) h) [(0, []), (1, []), (2, [2]), (3, []), (4, [])] rfl) [0, 1, 2, 3] rfl)) (by kernel_rfl) ?_
        refine dq rfl (q_nil rfl) ?_
        refine dq rfl (q_field (b := b50) (off := 0) rfl fo_29_2) ?_
        refine QL.nil ?_
        refine RG.step1 12 (by kernel_rfl) ?_
        refine dop rfl (l_store (b := b50) (off := 2) (j := 2) rfl rfl nagg_27 hr1050.one rfl rfl rfl (dlt rfl) ⟨(fun _ h => (St.selF (St.wk (St.untail (K := [(igmp3_t2_k0 b23 bs A5 c5 AQ N cQ), (igmp3_t2_k2 b4), (igmp3_t2_k5 b50 b1020 b1029 v1050), (igmp3_t2_k1 b1020 bs), ⟨b1029, 22, [some (.slice A5_1 (8 - 4) c5_1)], true⟩, (igmp3_t2_k4 b1049 A5_2 i c5_2)]) (Kr := Kr1050) h) [(0, []), (1, []), (2, [2]), (3, []), (4, [])] rfl) [0, 1, 2, 3] rfl)), ?_⟩)
        refine dend (by kernel_rfl) ?_
        refine ein ?_
        refine eseq ?_
        refine HT.norm ([(igmp3_t2_k0 b23 bs A5 c5 AQ N cQ), (igmp3_t2_k2 b4), (igmp3_t2_k5 b50 b1020 b1029 v1050), (igmp3_t2_k1 b1020 bs), ⟨b1029, 22, [some (.slice A5_1 (8 - 4) c5_1)], true⟩, (igmp3_t2_k4 b1049 A5_2 i c5_2)] ++ Kr1050) [Byt A5 n c5 bs, Cel AQ N cQ 1 (rowX (fun j => [.slice (cutA A5 c5 (12 + (j * 4))) ((16 + (j * 4)) - (12 + (j * 4))) (c5 - (12 + (j * 4)))]) N), Byt A5_1 (8 - 4) c5_1 (sl bs 4 8), psF ps, Byt A5_2 ((16 + (i * 4)) - (12 + (i * 4))) c5_2 (sl bs (12 + (i * 4)) (16 + (i * 4)))] rfl rfl ?_
        refine HT.plain ?_
        refine sqS (q_add (p := i) (q := 1) rfl rfl (show i + 1 < 9223372036854775808 by have := bN_lt bs 10 2 65536 rfl; have := hil; omega)) rfl ?_
        refine sMv rfl rfl ?_
        refine send ?_
        exact fun a ha w' hw => eround2 ⟨(i + 1, _, _, _), TSt.step0 hp (b := ⟨A5_2, ((16 + (i * 4)) - (12 + (i * 4))), c5_2, (sl bs (12 + (i * 4)) (16 + (i * 4)))⟩) (by omega) hr1050 (hf8 _ List.mem_cons_self) (show ([], (sl bs (12 + (i * 4)) (16 + (i * 4)))) = ([], sl bs (12 + (4 * i)) (16 + (4 * i))) from pdt rfl (by omega) (by omega))⟩ (show N - (i + 1) < N - i by omega) (ha.sub ⟨rfl, rfl, rfl, rfl, rfl, rfl, rfl, trivial⟩) (St.psF_snoc0 (B := [Byt A5 n c5 bs, Cel AQ N cQ 1 (rowX (fun j => [.slice (cutA A5 c5 (12 + (j * 4))) ((16 + (j * 4)) - (12 + (j * 4))) (c5 - (12 + (j * 4)))]) N), Byt A5_1 (8 - 4) c5_1 (sl bs 4 8)]) (ps := ps) (b := ⟨A5_2, ((16 + (i * 4)) - (12 + (i * 4))), c5_2, (sl bs (12 + (i * 4)) (16 + (i * 4)))⟩) (St.drop (X := [(igmp3_t2_k0 b23 bs A5 c5 AQ N cQ), (igmp3_t2_k2 b4), (igmp3_t2_k5 b50 b1020 b1029 v1050), (igmp3_t2_k1 b1020 bs), ⟨b1029, 22, [some (.slice A5_1 (8 - 4) c5_1)], true⟩]) (Y := [(igmp3_t2_k4 b1049 A5_2 i c5_2)]) (Z := Kr1050) hw))
      · refine dop rfl (l_buildSliceT (K := [(igmp3_t2_k0 b23 bs A5 c5 AQ N cQ), (igmp3_t2_k2 b4), (igmp3_t2_k3 b50 b1020 b1029 v), (igmp3_t2_k1 b1020 bs), ⟨b1029, 22, [some (.slice A5_1 (8 - 4) c5_1)], true⟩]) (Kr := Kr) (e := 49) (vs := [(0, (.agg #[(.slice none 0 0), (.slice A5_2 ((16 + (i * 4)) - (12 + (i * 4))) c5_2)]))]) (cs := [(.slice none 0 0), (.slice A5_2 ((16 + (i * 4)) - (12 + (i * 4))) c5_2)]) (by decide) rfl (fun _ => by kernel_rfl) fun b1049 => ⟨(fun _ h => (St.selF (St.wk (St.untail (K := [(igmp3_t2_k0 b23 bs A5 c5 AQ N cQ), (igmp3_t2_k2 b4), (igmp3_t2_k3 b50 b1020 b1029 v), (igmp3_t2_k1 b1020 bs), ⟨b1029, 22, [some (.slice A5_1 (8 - 4) c5_1)], true⟩, (igmp3_t2_k4 b1049 A5_2 i c5_2)]) (Kr := Kr) h) [(0, []), (1, []), (2, [2]), (3, []), (4, [])] rfl) [0, 1, 2, 3] rfl)), ?_⟩)
        refine RG.step1 4 (by kernel_rfl) ?_
        refine dop rfl (l_q _ (by simp) (St.closed _ _ _ _) (q_load (b := b50) (off := 2) (j := 2) rfl nagg_27 (fun _ h => h) rfl rfl rfl) ⟨(fun _ h => (St.selF (St.wk (St.untail (K := [(igmp3_t2_k0 b23 bs A5 c5 AQ N cQ), (igmp3_t2_k2 b4), (igmp3_t2_k3 b50 b1020 b1029 v), (igmp3_t2_k1 b1020 bs), ⟨b1029, 22, [some (.slice A5_1 (8 - 4) c5_1)], true⟩, (igmp3_t2_k4 b1049 A5_2 i c5_2)]) (Kr := Kr) h) [(0, []), (1, []), (2, [2]), (3, []), (4, [])] rfl) [0, 1, 2, 3] rfl)), ?_⟩)
        refine RG.step1 9 (by kernel_rfl) ?_
        refine dop rfl (l_appendR (K0 := [(igmp3_t2_k0 b23 bs A5 c5 AQ N cQ), (igmp3_t2_k2 b4), (igmp3_t2_k3 b50 b1020 b1029 v), (igmp3_t2_k1 b1020 bs), ⟨b1029, 22, [some (.slice A5_1 (8 - 4) c5_1)], true⟩, (igmp3_t2_k4 b1049 A5_2 i c5_2)]) (Kr := Kr) (k := i) (xs := (psV ps)) (jq := 5) (news := [(.slice none 0 0), (.slice A5_2 ((16 + (i * 4)) - (12 + (i * 4))) c5_2)]) (by decide) rfl rfl Tryz.underlying27 rowT_49 (by decide) hr (by have := hil; have := bN_lt bs 10 2 65536 rfl; omega) rfl rfl (by simp [Value.one1]) fun v1050 Kr1050 hr1050 => ⟨(fun _ h => (St.selF (St.wk (St.untail (K := [(igmp3_t2_k0 b23 bs A5 c5 AQ N cQ), (igmp3_t2_k2 b4), (igmp3_t2_k3 b50 b1020 b1029 v), (igmp3_t2_k1 b1020 bs), ⟨b1029, 22, [some (.slice A5_1 (8 - 4) c5_1)], true⟩, (igmp3_t2_k4 b1049 A5_2 i c5_2)]) (Kr := Kr1050) h) [(0, []), (1, []), (2, [2]), (3, []), (4, [])] rfl) [0, 1, 2, 3] rfl)), ?_⟩)
        refine dtake (f := 1) [10, 11] (by kernel_rfl) (St.closed _ _ _ _) (fun _ h => (St.selF (St.wk (St.untail (K := [(igmp3_t2_k0 b23 bs A5 c5 AQ N cQ), (igmp3_t2_k2 b4), (igmp3_t2_k3 b50 b1020 b1029 v), (igmp3_t2_k1 b1020 bs), ⟨b1029, 22, [some (.slice A5_1 (8 - 4) c5_1)], true⟩, (igmp3_t2_k4 b1049 A5_2 i c5_2)]) (Kr := Kr1050) h) [(0, []), (1, []), (2, [2]), (3, []), (4, [])] rfl) [0, 1, 2, 3] rfl)) (by kernel_rfl) ?_
        refine dq rfl (q_nil rfl) ?_
        refine dq rfl (q_field (b := b50) (off := 0) rfl fo_29_2) ?_
        refine QL.nil ?_
        refine RG.step1 12 (by kernel_rfl) ?_
        refine dop rfl (l_store (b := b50) (off := 2) (j := 2) rfl rfl nagg_27 hr1050.one rfl rfl rfl (dlt rfl) ⟨(fun _ h => (St.selF (St.wk (St.untail (K := [(igmp3_t2_k0 b23 bs A5 c5 AQ N cQ), (igmp3_t2_k2 b4), (igmp3_t2_k5 b50 b1020 b1029 v1050), (igmp3_t2_k1 b1020 bs), ⟨b1029, 22, [some (.slice A5_1 (8 - 4) c5_1)], true⟩, (igmp3_t2_k4 b1049 A5_2 i c5_2)]) (Kr := Kr1050) h) [(0, []), (1, []), (2, [2]), (3, []), (4, [])] rfl) [0, 1, 2, 3] rfl)), ?_⟩)
        refine dend (by kernel_rfl) ?_
        refine ein ?_
        refine eseq ?_
        refine HT.norm ([(igmp3_t2_k0 b23 bs A5 c5 AQ N cQ), (igmp3_t2_k2 b4), (igmp3_t2_k5 b50 b1020 b1029 v1050), (igmp3_t2_k1 b1020 bs), ⟨b1029, 22, [some (.slice A5_1 (8 - 4) c5_1)], true⟩, (igmp3_t2_k4 b1049 A5_2 i c5_2)] ++ Kr1050) [Byt A5 n c5 bs, Cel AQ N cQ 1 (rowX (fun j => [.slice (cutA A5 c5 (12 + (j * 4))) ((16 + (j * 4)) - (12 + (j * 4))) (c5 - (12 + (j * 4)))]) N), Byt A5_1 (8 - 4) c5_1 (sl bs 4 8), psF ps, Byt A5_2 ((16 + (i * 4)) - (12 + (i * 4))) c5_2 (sl bs (12 + (i * 4)) (16 + (i * 4)))] rfl rfl ?_
        refine HT.plain ?_
        refine sqS (q_add (p := i) (q := 1) rfl rfl (show i + 1 < 9223372036854775808 by have := bN_lt bs 10 2 65536 rfl; have := hil; omega)) rfl ?_
        refine sMv rfl rfl ?_
        refine send ?_
        exact fun a ha w' hw => eround2 ⟨(i + 1, _, _, _), TSt.step0 hp (b := ⟨A5_2, ((16 + (i * 4)) - (12 + (i * 4))), c5_2, (sl bs (12 + (i * 4)) (16 + (i * 4)))⟩) (by omega) hr1050 (hf8 _ List.mem_cons_self) (show ([], (sl bs (12 + (i * 4)) (16 + (i * 4)))) = ([], sl bs (12 + (4 * i)) (16 + (4 * i))) from pdt rfl (by omega) (by omega))⟩ (show N - (i + 1) < N - i by omega) (ha.sub ⟨rfl, rfl, rfl, rfl, rfl, rfl, rfl, trivial⟩) (St.psF_snoc0 (B := [Byt A5 n c5 bs, Cel AQ N cQ 1 (rowX (fun j => [.slice (cutA A5 c5 (12 + (j * 4))) ((16 + (j * 4)) - (12 + (j * 4))) (c5 - (12 + (j * 4)))]) N), Byt A5_1 (8 - 4) c5_1 (sl bs 4 8)]) (ps := ps) (b := ⟨A5_2, ((16 + (i * 4)) - (12 + (i * 4))), c5_2, (sl bs (12 + (i * 4)) (16 + (i * 4)))⟩) (St.drop (X := [(igmp3_t2_k0 b23 bs A5 c5 AQ N cQ), (igmp3_t2_k2 b4), (igmp3_t2_k5 b50 b1020 b1029 v1050), (igmp3_t2_k1 b1020 bs), ⟨b1029, 22, [some (.slice A5_1 (8 - 4) c5_1)], true⟩]) (Y := [(igmp3_t2_k4 b1049 A5_2 i c5_2)]) (Z := Kr1050) hw))
  · refine HT.exit ?_
    refine ex_then ?_
    refine ex_then ?_
    refine ex_in ?_
    refine eseq ?_
    have hiN : N = i := by omega
    subst hiN
    refine HT.seq ?_
    refine HT.plain ?_
    refine sMv rfl rfl ?_
    refine sqS (q_nil rfl) rfl ?_
    refine sqS (q_field (b := b23) (off := 0) rfl fo_179_11) rfl ?_
    refine sqS (q_load (b := b23) (off := 12) (j := 0) rfl nagg_177 (fun _ h => h) rfl rfl rfl) rfl ?_
    refine sqS (q_len (len := 0) rfl Tryz.underlying177) rfl ?_
    refine sMv rfl rfl ?_
    refine send ?_
    refine eseq ?_
    refine HT.block ?_
    refine HT.loop (ι := Unit) (fun _ => [(4, (.pointer (some ⟨b4, 0, none⟩))), (5, (.bool false)), (6, (.pointer (some ⟨b50, 0, none⟩))), (1057, (.slice none 0 0)), (1058, (.int .i64 ((0 : Nat) : Int))), (1059, (.int .i64 ((0 : Nat) : Int)))]) (fun _ => St w [] ([(igmp3_t2_k0 b23 bs A5 c5 AQ N cQ), (igmp3_t2_k2 b4), (igmp3_t2_k3 b50 b1020 b1029 v), (igmp3_t2_k1 b1020 bs), ⟨b1029, 22, [some (.slice A5_1 (8 - 4) c5_1)], true⟩] ++ Kr) [Byt A5 n c5 bs, Cel AQ N cQ 1 (rowX (fun j => [.slice (cutA A5 c5 (12 + (j * 4))) ((16 + (j * 4)) - (12 + (j * 4))) (c5 - (12 + (j * 4)))]) N), Byt A5_1 (8 - 4) c5_1 (sl bs 4 8), psF ps]) (fun _ => 0) () ⟨rfl, rfl, rfl, rfl, rfl, rfl, trivial⟩ (fun _ h => h) fun _ => ?_
    refine HT.seq ?_
    refine HT.plain ?_
    refine sqS (q_F (q_lt (p := 0) (q := 0) rfl rfl) (by decide)) rfl ?_
    refine send ?_
    refine eseq ?_
    refine HT.seq ?_
    refine HT.no rfl ?_
    refine HT.exit ?_
    refine ex_then ?_
    refine ex_then ?_
    refine ex_in ?_
    refine ein ?_
    refine eseq ?_
    refine HT.rowFact (K := [(igmp3_t2_k0 b23 bs A5 c5 AQ N cQ), (igmp3_t2_k2 b4), (igmp3_t2_k3 b50 b1020 b1029 v), (igmp3_t2_k1 b1020 bs), ⟨b1029, 22, [some (.slice A5_1 (8 - 4) c5_1)], true⟩]) (Kr := Kr) hr (fun _ h => nomatch h) fun AR cR hvR hncR hfR => ?_
    subst hvR
    refine HT.seq ?_
    refine HT.plain ?_
    refine sMv rfl rfl ?_
    refine sqS (q_nil rfl) rfl ?_
    refine sqS (q_loadAgg (b := b50) (off := 0) (j := 2) (vs := [(.slice (some ⟨b1020, 0, none⟩) 9 9), (.slice (some ⟨b1029, 0, none⟩) 1 1), (.slice AR N cR), (.slice none 0 0)]) rfl aggs_29 (fun _ h => h) rfl rfl rfl) rfl ?_
    refine sl_ (l_storeAgg (b := b4) (off := 0) (j := 1) (vs := [(.slice (some ⟨b1020, 0, none⟩) 9 9), (.slice (some ⟨b1029, 0, none⟩) 1 1), (.slice AR N cR), (.slice none 0 0)]) rfl rfl aggs_29 (by simp [Value.one1]) rfl rfl rfl (Nat.le_of_ble_eq_true rfl) ?_)
    refine sAs rfl rfl ?_
    refine send ?_
    refine eseq ?_
    refine HT.ret ?_
    have hnums : [nb bs 0, 100000000 * (nb bs 1), bN bs 2 2, bitN (decide ((nb bs 8) &&& 8 ≠ 0)), (nb bs 8) &&& 7, 100000000 * (nb bs 9), 0, bN bs 10 2, 3] = [nb bs 0, (nb bs 1) * 100000000, bN bs 2 2, ((nb bs 8) / 8) &&& 1, (nb bs 8) &&& 7, (nb bs 9) * 100000000, 0, bN bs 10 2, 3] := (lc rfl (lc (show 100000000 * (nb bs 1) = (nb bs 1) * 100000000 from by (have := nb_lt bs 1; first | omega | ((try simp only [zd224, zd240, zd192, zd24, zd56, zd65520, zd4, zd8, zd48, zd112]) <;> (try simp only [zt1, zt2, zt4, zt8, zt16, zt32, zt64, zt128, zt256, zt512, zt1024, zt2048, zt4096, zt8192]) <;> (try simp only [zm1, zm3, zm7, zm15, zm31, zm63, zm127, zm255, zm1023, zm4095, zm1048575, zb1, zb2, zb4, zb8, zb16, zb32, zb64, zb128, zb256, zb512, zb1024, zb2048, zb4096, zb8192, bitN, cond_true, cond_false]) <;> omega) | ((try simp only [zd224, zd240, zd192, zd24, zd56, zd65520, zd4, zd8, zd48, zd112]) <;> (try simp only [zt1, zt2, zt4, zt8, zt16, zt32, zt64, zt128, zt256, zt512, zt1024, zt2048, zt4096, zt8192]) <;> (try simp only [zm1, zm3, zm7, zm15, zm31, zm63, zm127, zm255, zm1023, zm4095, zm1048575, zb1, zb2, zb4, zb8, zb16, zb32, zb64, zb128, zb256, zb512, zb1024, zb2048, zb4096, zb8192, bitN, cond_true, cond_false, lN, bN, Nat.zero_mul, Nat.zero_add, Nat.add_zero, Nat.reduceAdd, Nat.reduceDiv, Nat.reduceMul]) <;> omega))) (lc rfl (lc (show bitN (decide ((nb bs 8) &&& 8 ≠ 0)) = ((nb bs 8) / 8) &&& 1 from by (have := nb_lt bs 8; first | omega | ((try simp only [zd224, zd240, zd192, zd24, zd56, zd65520, zd4, zd8, zd48, zd112]) <;> (try simp only [zt1, zt2, zt4, zt8, zt16, zt32, zt64, zt128, zt256, zt512, zt1024, zt2048, zt4096, zt8192]) <;> (try simp only [zm1, zm3, zm7, zm15, zm31, zm63, zm127, zm255, zm1023, zm4095, zm1048575, zb1, zb2, zb4, zb8, zb16, zb32, zb64, zb128, zb256, zb512, zb1024, zb2048, zb4096, zb8192, bitN, cond_true, cond_false]) <;> omega) | ((try simp only [zd224, zd240, zd192, zd24, zd56, zd65520, zd4, zd8, zd48, zd112]) <;> (try simp only [zt1, zt2, zt4, zt8, zt16, zt32, zt64, zt128, zt256, zt512, zt1024, zt2048, zt4096, zt8192]) <;> (try simp only [zm1, zm3, zm7, zm15, zm31, zm63, zm127, zm255, zm1023, zm4095, zm1048575, zb1, zb2, zb4, zb8, zb16, zb32, zb64, zb128, zb256, zb512, zb1024, zb2048, zb4096, zb8192, bitN, cond_true, cond_false, lN, bN, Nat.zero_mul, Nat.zero_add, Nat.add_zero, Nat.reduceAdd, Nat.reduceDiv, Nat.reduceMul]) <;> omega))) (lc rfl (lc (show 100000000 * (nb bs 9) = (nb bs 9) * 100000000 from by (have := nb_lt bs 9; first | omega | ((try simp only [zd224, zd240, zd192, zd24, zd56, zd65520, zd4, zd8, zd48, zd112]) <;> (try simp only [zt1, zt2, zt4, zt8, zt16, zt32, zt64, zt128, zt256, zt512, zt1024, zt2048, zt4096, zt8192]) <;> (try simp only [zm1, zm3, zm7, zm15, zm31, zm63, zm127, zm255, zm1023, zm4095, zm1048575, zb1, zb2, zb4, zb8, zb16, zb32, zb64, zb128, zb256, zb512, zb1024, zb2048, zb4096, zb8192, bitN, cond_true, cond_false]) <;> omega) | ((try simp only [zd224, zd240, zd192, zd24, zd56, zd65520, zd4, zd8, zd48, zd112]) <;> (try simp only [zt1, zt2, zt4, zt8, zt16, zt32, zt64, zt128, zt256, zt512, zt1024, zt2048, zt4096, zt8192]) <;> (try simp only [zm1, zm3, zm7, zm15, zm31, zm63, zm127, zm255, zm1023, zm4095, zm1048575, zb1, zb2, zb4, zb8, zb16, zb32, zb64, zb128, zb256, zb512, zb1024, zb2048, zb4096, zb8192, bitN, cond_true, cond_false, lN, bN, Nat.zero_mul, Nat.zero_add, Nat.add_zero, Nat.reduceAdd, Nat.reduceDiv, Nat.reduceMul]) <;> omega))) (lc rfl (lc rfl (lc rfl rfl)))))))))
    exact fun a ha w' hw => fin_ ha (resc2 ha Tryz.results47 rfl (ld_ aggs_29 hw (j := 1) rfl rfl (vs := [(.slice (some ⟨b1020, 0, none⟩) 9 9), (.slice (some ⟨b1029, 0, none⟩) 1 1), (.slice AR N cR), (.slice none 0 0)]) rfl) rfl) ⟨⟨⟨some ⟨b1020, 0, none⟩, 9, 9, [nb bs 0, 100000000 * (nb bs 1), bN bs 2 2, bitN (decide ((nb bs 8) &&& 8 ≠ 0)), (nb bs 8) &&& 7, 100000000 * (nb bs 9), 0, bN bs 10 2, 3]⟩, some ⟨b1029, 0, none⟩, 1, 1, [⟨A5_1, (8 - 4), c5_1, (sl bs 4 8)⟩], AR, N, cR, ps, bi0⟩, rfl, hw.pres, Own.lay6 (Own.cel hw (j := 3) (sz := 1) (r := []) rfl rfl rfl rfl (Nat.le_refl _)) (Own.cel hw (j := 4) (sz := 1) (r := []) rfl rfl rfl rfl (Nat.le_refl _)) (Own.byt hw (j := 4) rfl (fun i h => .inl (hfR i h))) Own.nilByt (all1 (Own.byt hw (j := 2) rfl (fun b h => .inl ((hf1 _ List.mem_cons_self) b h))) all0) (psOwn hw (j := 3) rfl hp.told.new), LD_eq hnums (lc (show (sl bs 4 8) = sl bs 4 8 from by first | rfl | (congr 1 <;> omega)) rfl) hp.told.data rfl⟩

theorem igmp3_I2 (w : World) (A : Option Addr) (n : Nat) (c : Nat) (bs : List UInt8) (N : Nat) (hn : n ≤ 400) (ha : 8 ≤ n) (hb : nb bs 0 = 17) (hc : 12 ≤ n) (hd : nb bs 1 < 128) (he : nb bs 9 < 128) (hf : 12 + 4 * bN bs 10 2 ≤ n) (hg : bN bs 10 2 = N) (hst : St w [] [] [Byt A n c bs] w) : Calls Tryz.prog 27 #[(.string ⟨#[105, 103, 109, 112, 51]⟩), (.slice A n c)] w (IP w (Byt A n c bs) (some (some ⟨[nb bs 0, (nb bs 1) * 100000000, bN bs 2 2, ((nb bs 8) / 8) &&& 1, (nb bs 8) &&& 7, (nb bs 9) * 100000000, 0, bN bs 10 2, 3], [sl bs 4 8], ((List.range N).map (fun j => ([], sl bs (12 + (4 * j)) (16 + (4 * j))))), []⟩))) := by
  have hnc00 : n ≤ c := (hst.fact (j := 0) rfl).2.1
  have hbl : n = bs.length := (hst.fact (j := 0) rfl).1
  refine enter (vs := [(.string ⟨#[105, 103, 109, 112, 51]⟩), (.slice A n c)]) Tryz.func27 rfl rfl rfl hst ?_
  refine HT.seq ?_
  refine HT.plain ?_
  refine sl_ (l_alloc (by decide) zero_29 fun b4 => ?_)
  refine sAs rfl rfl ?_
  refine send ?_
  refine eseq ?_
  refine HT.seq ?_
  refine HT.plain ?_
  refine sMv rfl rfl ?_
  refine sMv rfl rfl ?_
  refine sl_ (l_callX5 (vs := [(.string ⟨#[105, 103, 109, 112, 51]⟩), (.slice A n c)]) (Kc := []) (Bc := [Byt A n c bs]) [] [0] [Byt A n c bs] (fun b23 A5 c5 AQ cQ => [⟨b4, 29, [some (.slice none 0 0), some (.slice none 0 0), some (.slice none 0 0), some (.slice none 0 0)], true⟩, ⟨b23, 179, [some (.slice none 0 0), some (.slice none 0 0), some (.int .u8 ((nb bs 0 : Nat) : Int)), some (.int .i64 ((100000000 * (nb bs 1) : Nat) : Int)), some (.int .u16 ((bN bs 2 2 : Nat) : Int)), some (.slice (cutA A5 c5 4) (8 - 4) (c5 - 4)), some (.bool (decide ((nb bs 8) &&& 8 ≠ 0))), some (.int .u8 (((nb bs 8) &&& 7 : Nat) : Int)), some (.int .i64 ((100000000 * (nb bs 9) : Nat) : Int)), some (.slice AQ N cQ), some (.int .u16 ((0 : Nat) : Int)), some (.int .u16 ((bN bs 10 2 : Nat) : Int)), some (.slice none 0 0), some (.int .u8 ((3 : Nat) : Int))], true⟩]) (fun b23 A5 c5 AQ cQ => [Byt A n c bs, Byt A5 n c5 bs, Cel AQ N cQ 1 (rowX (fun j => [.slice (cutA A5 c5 (12 + (j * 4))) ((16 + (j * 4)) - (12 + (j * 4))) (c5 - (12 + (j * 4)))]) N)]) (by decide) rfl ca_46 (fun _ h => h) rfl rfl rfl rfl (fun w h => igmp3_e2 w A n c bs N (by omega) (by omega) (by omega) (by omega) (by omega) (by omega) (by omega) (by omega) h) (fun _ _ _ _ _ => rfl) (fun _ _ _ _ _ => rfl) (fun _ _ _ _ _ => rfl) (fun _ _ _ _ _ => rfl) fun b23 A5 c5 AQ cQ hf1 he2 => ?_)
  have hnc3 : n ≤ c5 := by obtain ⟨w, h⟩ := he2; exact (h _ List.mem_cons_self).2.1
  have hnc4 : N ≤ cQ := by obtain ⟨w, h⟩ := he2; exact (h _ (List.mem_cons_of_mem _ List.mem_cons_self)).2.1
  refine sMv rfl rfl ?_
  refine sqS (q_extract (vs := [(.iface 63 (.pointer (some ⟨b23, 0, none⟩))), (.bool true)]) (i := 0) rfl rfl) rfl ?_
  refine sqS (q_extract (vs := [(.iface 63 (.pointer (some ⟨b23, 0, none⟩))), (.bool true)]) (i := 1) rfl rfl) rfl ?_
  refine sAs rfl rfl ?_
  refine sAs rfl rfl ?_
  refine send ?_
  refine eseq ?_
  refine HT.seq ?_
  refine HT.seq ?_
  refine HT.plain ?_
  refine sMv rfl rfl ?_
  refine sqS (q_not rfl) rfl ?_
  refine send ?_
  refine eseq ?_
  refine HT.no rfl ?_
  refine HT.skip ?_
  refine eseq ?_
  refine HT.seq ?_
  refine HT.plain ?_
  refine sMv rfl rfl ?_
  refine sMv rfl rfl ?_
  refine sqS (q_invoke (vs := []) (v := (.slice none 0 0)) rfl (fun w => me_63_LayerPayload _ w) rfl ca_120 (fun w h => layPay0 w b23 179 _ _ _ (h.ro (j := 1) rfl))) rfl ?_
  refine sl_ (l_callLay (vs := [(.iface 63 (.pointer (some ⟨b23, 0, none⟩))), (.slice none 0 0)]) (tup := fun L => .tuple #[L.val, .bool true]) 1 (by decide) rfl ca_47 rfl (fun w h => igmp3_t2 w A5 n c5 bs N b23 AQ cQ (by omega) (by omega) (by omega) (by omega) (by omega) (by omega) (by omega) (by omega) (h.ro2 (j := 1) rfl (bi := [1, 2]) rfl)) fun L20 hfr hda hoL => ?_)
  refine sqS (q_extract (vs := [(.agg #[(L20.nums.val), (.slice L20.dA L20.dn L20.dc), (.slice L20.pA L20.pn L20.pc), (L20.pay.val)]), (.bool true)]) (i := 0) rfl rfl) rfl ?_
  refine sqS (q_extract (vs := [(.agg #[(L20.nums.val), (.slice L20.dA L20.dn L20.dc), (.slice L20.pA L20.pn L20.pc), (L20.pay.val)]), (.bool true)]) (i := 1) rfl rfl) rfl ?_
  refine sl_ (l_storeAgg (b := b4) (off := 0) (j := 0) (vs := [(L20.nums.val), (.slice L20.dA L20.dn L20.dc), (.slice L20.pA L20.pn L20.pc), (L20.pay.val)]) rfl rfl aggs_29 (by simp [Value.one1]) rfl rfl rfl (Nat.le_of_ble_eq_true rfl) ?_)
  refine sAs rfl rfl ?_
  refine send ?_
  refine eseq ?_
  refine HT.ret ?_
  exact fun a ha w' hw => fin_ ha (resc2 ha Tryz.results27 rfl (ld_ aggs_29 hw (j := 0) rfl rfl (vs := [(L20.nums.val), (.slice L20.dA L20.dn L20.dc), (.slice L20.pA L20.pn L20.pc), (L20.pay.val)]) rfl) rfl) ⟨L20, rfl, hw.pres, ⟨hw.fact (j := 3) rfl, fun i hi => (hfr i hi).elim .inl (fun h => .inl ((hf1 _ List.mem_cons_self) i h))⟩, hda⟩
end Go.Proofs.YtfkaafbeeegenaaGreat.Zed
