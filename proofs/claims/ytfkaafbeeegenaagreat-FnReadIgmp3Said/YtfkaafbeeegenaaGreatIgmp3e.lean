/- igmp3: the package, case 4 -/
import Derived.Test.YtfkaafbeeegenaaGreatIgmp30
import Derived.Test.YtfkaafbeeegenaaGreatRec2
import Derived.KernelRfl
namespace Go.Proofs.YtfkaafbeeegenaaGreat.Zed
set_option linter.unusedVariables false
set_option linter.unusedSimpArgs false
set_option maxRecDepth 100000
set_option maxHeartbeats 60000000


theorem igmp3_c4 (w : World) (A : Option Addr) (n : Nat) (c : Nat) (bs : List UInt8) (N : Nat) (hn : n ≤ 400) (ha : 8 ≤ n) (hb : nb bs 0 = 34) (hc : ∀ i, i < N → rof bs i + 8 ≤ n ∧ nb bs (rof bs i + 1) = 0 ∧ rof bs (i + 1) ≤ n) (hd : bN bs 6 2 = N) (hst : St w [] [] [Byt A n c bs] w) : Calls Tryz.prog 57 #[(.string ⟨#[105, 103, 109, 112, 51]⟩), (.slice A n c)] w (fun e w' => e = .returned (.bool true) ∧ Pres [] w w') := by
  have hnc00 : n ≤ c := (hst.fact (j := 0) rfl).2.1
  have hbl : n = bs.length := (hst.fact (j := 0) rfl).1
  refine enter (vs := [(.string ⟨#[105, 103, 109, 112, 51]⟩), (.slice A n c)]) Tryz.func57 rfl rfl rfl hst ?_
  refine HT.seq ?_
  refine HT.plain ?_
  refine sAs rfl rfl ?_
  refine send ?_
  refine eseq ?_
  refine HT.seq ?_
  refine HT.seq ?_
  refine HT.plain ?_
  refine sMv rfl rfl ?_
  refine send ?_
  refine eseq ?_
  refine HT.block ?_
  refine HT.seq ?_
  refine HT.plain ?_
  refine sqS (q_eqs rfl rfl (r := false) (by kernel_rfl)) rfl ?_
  refine sAs rfl rfl ?_
  refine send ?_
  refine eseq ?_
  refine HT.no rfl ?_
  refine HT.seq ?_
  refine HT.plain ?_
  refine sqS (q_eqs rfl rfl (r := false) (by kernel_rfl)) rfl ?_
  refine sAs rfl rfl ?_
  refine send ?_
  refine eseq ?_
  refine HT.no rfl ?_
  refine HT.seq ?_
  refine HT.plain ?_
  refine sqS (q_eqs rfl rfl (r := false) (by kernel_rfl)) rfl ?_
  refine sAs rfl rfl ?_
  refine send ?_
  refine eseq ?_
  refine HT.no rfl ?_
  refine HT.seq ?_
  refine HT.plain ?_
  refine sqS (q_eqs rfl rfl (r := false) (by kernel_rfl)) rfl ?_
  refine sAs rfl rfl ?_
  refine send ?_
  refine eseq ?_
  refine HT.no rfl ?_
  refine HT.seq ?_
  refine HT.plain ?_
  refine sqS (q_eqs rfl rfl (r := false) (by kernel_rfl)) rfl ?_
  refine sAs rfl rfl ?_
  refine send ?_
  refine eseq ?_
  refine HT.no rfl ?_
  refine HT.seq ?_
  refine HT.seq ?_
  refine HT.plain ?_
  refine sqS (q_eqs rfl rfl (r := false) (by kernel_rfl)) rfl ?_
  refine sAs rfl rfl ?_
  refine send ?_
  refine eseq ?_
  refine HT.no rfl ?_
  refine HT.seq ?_
  refine HT.plain ?_
  refine sqS (q_eqs rfl rfl (r := false) (by kernel_rfl)) rfl ?_
  refine sAs rfl rfl ?_
  refine send ?_
  refine eseq ?_
  refine HT.no rfl ?_
  refine HT.plain ?_
  refine sqS (q_eqs rfl rfl (r := false) (by kernel_rfl)) rfl ?_
  refine sAs rfl rfl ?_
  refine send ?_
  refine eseq ?_
  refine HT.no rfl ?_
  refine HT.seq ?_
  refine HT.plain ?_
  refine sqS (q_eqs rfl rfl (r := false) (by kernel_rfl)) rfl ?_
  refine sAs rfl rfl ?_
  refine send ?_
  refine eseq ?_
  refine HT.no rfl ?_
  refine HT.seq ?_
  refine HT.plain ?_
  refine sqS (q_eqs rfl rfl (r := false) (by kernel_rfl)) rfl ?_
  refine sAs rfl rfl ?_
  refine send ?_
  refine eseq ?_
  refine HT.no rfl ?_
  refine HT.seq ?_
  refine HT.plain ?_
  refine sqS (q_eqs rfl rfl (r := false) (by kernel_rfl)) rfl ?_
  refine sAs rfl rfl ?_
  refine send ?_
  refine eseq ?_
  refine HT.no rfl ?_
  refine HT.seq ?_
  refine HT.plain ?_
  refine sqS (q_eqs rfl rfl (r := false) (by kernel_rfl)) rfl ?_
  refine sAs rfl rfl ?_
  refine send ?_
  refine eseq ?_
  refine HT.no rfl ?_
  refine HT.seq ?_
  refine HT.plain ?_
  refine sqS (q_eqs rfl rfl (r := false) (by kernel_rfl)) rfl ?_
  refine sAs rfl rfl ?_
  refine send ?_
  refine eseq ?_
  refine HT.no rfl ?_
  refine HT.seq ?_
  refine HT.plain ?_
  refine sqS (q_eqs rfl rfl (r := false) (by kernel_rfl)) rfl ?_
  refine sAs rfl rfl ?_
  refine send ?_
  refine eseq ?_
  refine HT.no rfl ?_
  refine HT.skip ?_
  refine ein ?_
  refine eseq ?_
  refine HT.seq ?_
  refine HT.plain ?_
  refine sAs rfl rfl ?_
  refine send ?_
  refine eseq ?_
  refine HT.ret ?_
  exact fun a ha w' hw => fin_ ha (res1 ha Tryz.results57 rfl) ⟨rfl, hw.pres⟩

abbrev igmp3_m1_4_k0 (rb : Nat) (bs : List UInt8) (v : Value) : Kb := ⟨rb, 179, [some (.slice none 0 0), some (.slice none 0 0), some (.int .u8 ((nb bs 0 : Nat) : Int)), some (.int .i64 ((0 : Nat) : Int)), some (.int .u16 ((bN bs 2 2 : Nat) : Int)), some (.slice none 0 0), some (.bool false), some (.int .u8 ((0 : Nat) : Int)), some (.int .i64 ((0 : Nat) : Int)), some (.slice none 0 0), some (.int .u16 ((bN bs 6 2 : Nat) : Int)), some (.int .u16 ((0 : Nat) : Int)), some v, some (.int .u8 ((3 : Nat) : Int))], true⟩
abbrev igmp3_m1_4_k1 (b7 : Nat) (bs : List UInt8) (i : Nat) (A : Option Addr) (c : Nat) (AS : Option Addr) (cS : Nat) : Kb := ⟨b7, 182, [some (.int .u8 ((nb bs (rof bs i) : Nat) : Int)), some (.int .u8 ((nb bs ((rof bs i) + 1) : Nat) : Int)), some (.int .u16 ((bN bs ((rof bs i) + 2) 2 : Nat) : Int)), some (.slice (cutA A c ((rof bs i) + 4)) (((rof bs i) + 8) - ((rof bs i) + 4)) (c - ((rof bs i) + 4))), some (.slice AS (bN bs (rof bs i + 2) 2) cS), some (.int .u32 ((0 : Nat) : Int))], true⟩
abbrev igmp3_m1_4_k2 (b112 : Nat) (bs : List UInt8) (i : Nat) (A : Option Addr) (c : Nat) (AS : Option Addr) (cS : Nat) : Kb := ⟨b112, 182, [some (.int .u8 ((nb bs (rof bs i) : Nat) : Int)), some (.int .u8 ((nb bs ((rof bs i) + 1) : Nat) : Int)), some (.int .u16 ((bN bs ((rof bs i) + 2) 2 : Nat) : Int)), some (.slice (cutA A c ((rof bs i) + 4)) (((rof bs i) + 8) - ((rof bs i) + 4)) (c - ((rof bs i) + 4))), some (.slice AS (bN bs (rof bs i + 2) 2) cS), some (.int .u32 ((0 : Nat) : Int))], true⟩
abbrev igmp3_m1_4_k3 (rb : Nat) (bs : List UInt8) (v113 : Value) : Kb := ⟨rb, 179, [some (.slice none 0 0), some (.slice none 0 0), some (.int .u8 ((nb bs 0 : Nat) : Int)), some (.int .i64 ((0 : Nat) : Int)), some (.int .u16 ((bN bs 2 2 : Nat) : Int)), some (.slice none 0 0), some (.bool false), some (.int .u8 ((0 : Nat) : Int)), some (.int .i64 ((0 : Nat) : Int)), some (.slice none 0 0), some (.int .u16 ((bN bs 6 2 : Nat) : Int)), some (.int .u16 ((0 : Nat) : Int)), some v113, some (.int .u8 ((3 : Nat) : Int))], true⟩
abbrev igmp3_m1_4_k4 (b7 : Nat) (bs : List UInt8) (i : Nat) (A : Option Addr) (c : Nat) (v2 : Value) : Kb := ⟨b7, 182, [some (.int .u8 ((nb bs (rof bs i) : Nat) : Int)), some (.int .u8 ((nb bs ((rof bs i) + 1) : Nat) : Int)), some (.int .u16 ((bN bs ((rof bs i) + 2) 2 : Nat) : Int)), some (.slice (cutA A c ((rof bs i) + 4)) (((rof bs i) + 8) - ((rof bs i) + 4)) (c - ((rof bs i) + 4))), some v2, some (.int .u32 ((0 : Nat) : Int))], true⟩
abbrev igmp3_m1_4_k5 (b103 : Nat) (A : Option Addr) (c : Nat) (bs : List UInt8) (i : Nat) (q : Nat) : Kb := ⟨b103, 171, [some (.slice (cutA A c (((rof bs i) + 8) + (q * 4))) ((((rof bs i) + 12) + (q * 4)) - (((rof bs i) + 8) + (q * 4))) (c - (((rof bs i) + 8) + (q * 4))))], true⟩

theorem igmp3_m1_4 (w : World) (A : Option Addr) (n : Nat) (c : Nat) (bs : List UInt8) (N : Nat) (rb : Nat) (hn : n ≤ 400) (ha : 8 ≤ n) (hb : nb bs 0 = 34) (hc : ∀ i, i < N → rof bs i + 8 ≤ n ∧ nb bs (rof bs i + 1) = 0 ∧ rof bs (i + 1) ≤ n) (hd : bN bs 6 2 = N) (hst : St w [rb] [⟨rb, 179, [some (.slice none 0 0), some (.slice none 0 0), some (.int .u8 ((nb bs 0 : Nat) : Int)), some (.int .i64 ((0 : Nat) : Int)), some (.int .u16 ((0 : Nat) : Int)), some (.slice none 0 0), some (.bool false), some (.int .u8 ((0 : Nat) : Int)), some (.int .i64 ((0 : Nat) : Int)), some (.slice none 0 0), some (.int .u16 ((0 : Nat) : Int)), some (.int .u16 ((0 : Nat) : Int)), some (.slice none 0 0), some (.int .u8 ((3 : Nat) : Int))], true⟩] [Byt A n c bs] w) : Calls Tryz.prog 123 #[(.pointer (some ⟨rb, 0, none⟩)), (.slice A n c)] w (CP4 w [rb] [Byt A n c bs] (fun AQ cQ al ga => .nilIface) (fun AQ cQ al ga => [⟨rb, 179, [some (.slice none 0 0), some (.slice none 0 0), some (.int .u8 ((nb bs 0 : Nat) : Int)), some (.int .i64 ((0 : Nat) : Int)), some (.int .u16 ((bN bs 2 2 : Nat) : Int)), some (.slice none 0 0), some (.bool false), some (.int .u8 ((0 : Nat) : Int)), some (.int .i64 ((0 : Nat) : Int)), some (.slice none 0 0), some (.int .u16 ((bN bs 6 2 : Nat) : Int)), some (.int .u16 ((0 : Nat) : Int)), some (.slice AQ N cQ), some (.int .u8 ((3 : Nat) : Int))], true⟩]) (fun AQ cQ al ga => [Cel AQ N cQ 6 (rowX (fun j => (fun j a d => [.int .u8 ((nb bs (rof bs j) : Nat) : Int), .int .u8 ((nb bs (rof bs j + 1) : Nat) : Int), .int .u16 ((bN bs (rof bs j + 2) 2 : Nat) : Int), .slice (cutA A c (rof bs j + 4)) ((rof bs j + 8) - (rof bs j + 4)) (c - (rof bs j + 4)), .slice a (bN bs (rof bs j + 2) 2) d, .int .u32 ((0 : Nat) : Int)]) j (al j) (ga j)) N), SF al ga (fun j => bN bs (rof bs j + 2) 2) (fun j => rowX (fun t => [.slice (cutA A c ((rof bs j + 8) + (t * 4))) (((rof bs j + 12) + (t * 4)) - ((rof bs j + 8) + (t * 4))) (c - ((rof bs j + 8) + (t * 4)))]) (bN bs (rof bs j + 2) 2)) N])) := by
  have hnc00 : n ≤ c := (hst.fact (j := 0) rfl).2.1
  have hbl : n = bs.length := (hst.fact (j := 0) rfl).1
  refine enter (vs := [(.pointer (some ⟨rb, 0, none⟩)), (.slice A n c)]) Tryz.func123 rfl rfl rfl hst ?_
  refine HT.seq ?_
  refine HT.plain ?_
  refine sAs rfl rfl ?_
  refine send ?_
  refine eseq ?_
  refine HT.seq ?_
  refine HT.seq ?_
  refine HT.plain ?_
  refine sMv rfl rfl ?_
  refine sqS (q_len (len := n) rfl Tryz.underlying22) rfl ?_
  refine sqS (q_F (q_lt (p := n) (q := 8) rfl rfl) (by omega)) rfl ?_
  refine send ?_
  refine eseq ?_
  refine HT.no rfl ?_
  refine HT.skip ?_
  refine eseq ?_
  refine HT.seq ?_
  refine HT.drawn mixed (St.closed _ _ _ _) (St w [rb] [⟨rb, 179, [some (.slice none 0 0), some (.slice none 0 0), some (.int .u8 ((nb bs 0 : Nat) : Int)), some (.int .i64 ((0 : Nat) : Int)), none, some (.slice none 0 0), some (.bool false), some (.int .u8 ((0 : Nat) : Int)), some (.int .i64 ((0 : Nat) : Int)), some (.slice none 0 0), some (.int .u16 ((0 : Nat) : Int)), some (.int .u16 ((0 : Nat) : Int)), some (.slice none 0 0), some (.int .u8 ((3 : Nat) : Int))], true⟩] [Byt A n c bs]) ?_
  refine dtake (f := 1) [0, 1, 2, 3, 4, 5, 6] (by kernel_rfl) (St.closed _ _ _ _) (fun _ h => (h.wk [(0, [4])] rfl)) (by kernel_rfl) ?_
  refine dq rfl (q_move rfl) ?_
  refine dq rfl (q_loadEmpty rfl aggs_210) ?_
  refine dq rfl (q_move rfl) ?_
  refine dq rfl (q_slice (lo := 2) (hi := 4) rfl Tryz.underlying22 nagg_5 (.inr ⟨_, _, rfl, rfl⟩) (.inr ⟨_, _, rfl, rfl⟩) (by omega) (by omega)) ?_
  refine dq rfl (q_call (vs := [(.agg #[]), (.slice (cutA A c 2) (4 - 2) (c - 2))]) (v := (.int .u16 ((bN bs 2 2 : Nat) : Int))) rfl ca_91 (fun w h => U16 w A n c bs (lo := 2) (hi := 4) (h.fact (j := 0) rfl) (by omega) (by omega))) ?_
  refine dq rfl (q_nil rfl) ?_
  refine dq rfl (q_field (b := rb) (off := 0) rfl fo_179_3) ?_
  refine QL.nil ?_
  refine RG.step1 7 (by kernel_rfl) ?_
  refine dop rfl (l_store (b := rb) (off := 4) (j := 0) rfl rfl nagg_70 rfl rfl rfl rfl (dlt rfl) ⟨(fun _ h => (h.wk [(0, [4])] rfl)), ?_⟩)
  refine dend (by kernel_rfl) ?_
  refine eseq ?_
  refine HT.norm [⟨rb, 179, [some (.slice none 0 0), some (.slice none 0 0), some (.int .u8 ((nb bs 0 : Nat) : Int)), some (.int .i64 ((0 : Nat) : Int)), some (.int .u16 ((bN bs 2 2 : Nat) : Int)), some (.slice none 0 0), some (.bool false), some (.int .u8 ((0 : Nat) : Int)), some (.int .i64 ((0 : Nat) : Int)), some (.slice none 0 0), some (.int .u16 ((0 : Nat) : Int)), some (.int .u16 ((0 : Nat) : Int)), some (.slice none 0 0), some (.int .u8 ((3 : Nat) : Int))], true⟩] [Byt A n c bs] rfl rfl ?_
  refine HT.seq ?_
  refine HT.drawn mixed (St.closed _ _ _ _) (St w [rb] [⟨rb, 179, [some (.slice none 0 0), some (.slice none 0 0), some (.int .u8 ((nb bs 0 : Nat) : Int)), some (.int .i64 ((0 : Nat) : Int)), some (.int .u16 ((bN bs 2 2 : Nat) : Int)), some (.slice none 0 0), some (.bool false), some (.int .u8 ((0 : Nat) : Int)), some (.int .i64 ((0 : Nat) : Int)), some (.slice none 0 0), none, some (.int .u16 ((0 : Nat) : Int)), some (.slice none 0 0), some (.int .u8 ((3 : Nat) : Int))], true⟩] [Byt A n c bs]) ?_
  refine dtake (f := 1) [0, 1, 2, 3, 4, 5, 6] (by kernel_rfl) (St.closed _ _ _ _) (fun _ h => (h.wk [(0, [10])] rfl)) (by kernel_rfl) ?_
  refine dq rfl (q_move rfl) ?_
  refine dq rfl (q_loadEmpty rfl aggs_210) ?_
  refine dq rfl (q_move rfl) ?_
  refine dq rfl (q_slice (lo := 6) (hi := 8) rfl Tryz.underlying22 nagg_5 (.inr ⟨_, _, rfl, rfl⟩) (.inr ⟨_, _, rfl, rfl⟩) (by omega) (by omega)) ?_
  refine dq rfl (q_call (vs := [(.agg #[]), (.slice (cutA A c 6) (8 - 6) (c - 6))]) (v := (.int .u16 ((bN bs 6 2 : Nat) : Int))) rfl ca_91 (fun w h => U16 w A n c bs (lo := 6) (hi := 8) (h.fact (j := 0) rfl) (by omega) (by omega))) ?_
  refine dq rfl (q_nil rfl) ?_
  refine dq rfl (q_field (b := rb) (off := 0) rfl fo_179_9) ?_
  refine QL.nil ?_
  refine RG.step1 7 (by kernel_rfl) ?_
  refine dop rfl (l_store (b := rb) (off := 10) (j := 0) rfl rfl nagg_70 rfl rfl rfl rfl (dlt rfl) ⟨(fun _ h => (h.wk [(0, [10])] rfl)), ?_⟩)
  refine dend (by kernel_rfl) ?_
  refine eseq ?_
  refine HT.norm [⟨rb, 179, [some (.slice none 0 0), some (.slice none 0 0), some (.int .u8 ((nb bs 0 : Nat) : Int)), some (.int .i64 ((0 : Nat) : Int)), some (.int .u16 ((bN bs 2 2 : Nat) : Int)), some (.slice none 0 0), some (.bool false), some (.int .u8 ((0 : Nat) : Int)), some (.int .i64 ((0 : Nat) : Int)), some (.slice none 0 0), some (.int .u16 ((bN bs 6 2 : Nat) : Int)), some (.int .u16 ((0 : Nat) : Int)), some (.slice none 0 0), some (.int .u8 ((3 : Nat) : Int))], true⟩] [Byt A n c bs] rfl rfl ?_
  refine HT.seq ?_
  refine HT.plain ?_
  refine sAs rfl rfl ?_
  refine send ?_
  refine eseq ?_
  refine HT.seq ?_
  refine HT.seq ?_
  refine HT.plain ?_
  refine sAs rfl rfl ?_
  refine send ?_
  refine eseq ?_
  refine HT.block ?_
  refine HT.loop (ι := {p : Nat × Value × List Kb × (Nat → Option Addr) × (Nat → Nat) // RSt w.heap.size 182 6 (fun j a d => [.int .u8 ((nb bs (rof bs j) : Nat) : Int), .int .u8 ((nb bs (rof bs j + 1) : Nat) : Int), .int .u16 ((bN bs (rof bs j + 2) 2 : Nat) : Int), .slice (cutA A c (rof bs j + 4)) ((rof bs j + 8) - (rof bs j + 4)) (c - (rof bs j + 4)), .slice a (bN bs (rof bs j + 2) 2) d, .int .u32 ((0 : Nat) : Int)]) (fun j => bN bs (rof bs j + 2) 2) (fun j => rowX (fun t => [.slice (cutA A c ((rof bs j + 8) + (t * 4))) (((rof bs j + 12) + (t * 4)) - ((rof bs j + 8) + (t * 4))) (c - ((rof bs j + 8) + (t * 4)))]) (bN bs (rof bs j + 2) 2)) N p.1 p.2.1 p.2.2.1 p.2.2.2.1 p.2.2.2.2}) (fun p => [(0, (.pointer (some ⟨rb, 0, none⟩))), (1, (.slice A n c)), (5, (.int .i64 ((rof bs p.1.1 : Nat) : Int))), (6, (.int .i64 ((p.1.1 : Nat) : Int)))]) (fun p => St w [rb] ([⟨rb, 179, [some (.slice none 0 0), some (.slice none 0 0), some (.int .u8 ((nb bs 0 : Nat) : Int)), some (.int .i64 ((0 : Nat) : Int)), some (.int .u16 ((bN bs 2 2 : Nat) : Int)), some (.slice none 0 0), some (.bool false), some (.int .u8 ((0 : Nat) : Int)), some (.int .i64 ((0 : Nat) : Int)), some (.slice none 0 0), some (.int .u16 ((bN bs 6 2 : Nat) : Int)), some (.int .u16 ((0 : Nat) : Int)), some p.1.2.1, some (.int .u8 ((3 : Nat) : Int))], true⟩] ++ p.1.2.2.1) [Byt A n c bs, SF p.1.2.2.2.1 p.1.2.2.2.2 (fun j => bN bs (rof bs j + 2) 2) (fun j => rowX (fun t => [.slice (cutA A c ((rof bs j + 8) + (t * 4))) (((rof bs j + 12) + (t * 4)) - ((rof bs j + 8) + (t * 4))) (c - ((rof bs j + 8) + (t * 4)))]) (bN bs (rof bs j + 2) 2)) p.1.1]) (fun p => N - p.1.1) ⟨(0, .slice none 0 0, [], fun _ => none, fun _ => 0), RSt.nil⟩ ⟨rfl, rfl, rfl, rfl, trivial⟩ (fun _ h => SF_zero h) fun ⟨⟨i, v, Kr, al, ga⟩, hp⟩ => ?_
  replace hp : RSt w.heap.size 182 6 (fun j a d => [.int .u8 ((nb bs (rof bs j) : Nat) : Int), .int .u8 ((nb bs (rof bs j + 1) : Nat) : Int), .int .u16 ((bN bs (rof bs j + 2) 2 : Nat) : Int), .slice (cutA A c (rof bs j + 4)) ((rof bs j + 8) - (rof bs j + 4)) (c - (rof bs j + 4)), .slice a (bN bs (rof bs j + 2) 2) d, .int .u32 ((0 : Nat) : Int)]) (fun j => bN bs (rof bs j + 2) 2) (fun j => rowX (fun t => [.slice (cutA A c ((rof bs j + 8) + (t * 4))) (((rof bs j + 12) + (t * 4)) - ((rof bs j + 8) + (t * 4))) (c - ((rof bs j + 8) + (t * 4)))]) (bN bs (rof bs j + 2) 2)) N i v Kr al ga := hp
  have hil : i ≤ N := hp.le
  have hr : RowS 182 6 i (rowX (fun j => (fun j a d => [.int .u8 ((nb bs (rof bs j) : Nat) : Int), .int .u8 ((nb bs (rof bs j + 1) : Nat) : Int), .int .u16 ((bN bs (rof bs j + 2) 2 : Nat) : Int), .slice (cutA A c (rof bs j + 4)) ((rof bs j + 8) - (rof bs j + 4)) (c - (rof bs j + 4)), .slice a (bN bs (rof bs j + 2) 2) d, .int .u32 ((0 : Nat) : Int)]) j (al j) (ga j)) i) v Kr := hp.row
  have ho := rof_succ bs i
  have hge := rof_ge bs i
  have hal : rof bs i ≤ n := og_le (by omega) (fun j hj => (hc j hj).2.2) i (by omega)
  have hc := hc i
  have h65 := bN_lt bs (rof bs i + 2) 2 65536 rfl
  have h66 := bN_lt bs 6 2 65536 rfl
  show HT _ _ _ [(0, (.pointer (some ⟨rb, 0, none⟩))), (1, (.slice A n c)), (5, (.int .i64 ((rof bs i : Nat) : Int))), (6, (.int .i64 ((i : Nat) : Int)))] (St w [rb] ([(igmp3_m1_4_k0 rb bs v)] ++ Kr) [Byt A n c bs, SF al ga (fun j => bN bs (rof bs j + 2) 2) (fun j => rowX (fun t => [.slice (cutA A c ((rof bs j + 8) + (t * 4))) (((rof bs j + 12) + (t * 4)) - ((rof bs j + 8) + (t * 4))) (c - ((rof bs j + 8) + (t * 4)))]) (bN bs (rof bs j + 2) 2)) i]) _
  refine HT.seq ?_
  refine HT.seq ?_
  refine HT.plain ?_
  refine sMv rfl rfl ?_
  refine sMv rfl rfl ?_
  refine sqS (q_nil rfl) rfl ?_
  refine sqS (q_field (b := rb) (off := 0) rfl fo_179_9) rfl ?_
  refine sqS (q_load (b := rb) (off := 10) (j := 0) rfl nagg_70 (fun _ h => h) rfl rfl rfl) rfl ?_
  refine sqS (q_convn (p := bN bs 6 2) rfl Tryz.underlying70 Tryz.underlying3 (show bN bs 6 2 < 9223372036854775808 by have := bN_lt bs 6 2 65536 rfl; omega)) rfl ?_
  refine sqS (q_lt (p := i) (q := bN bs 6 2) rfl rfl) rfl ?_
  refine send ?_
  refine eseq ?_
  refine condd rfl (fun h1 => ?_) (fun h1 => ?_)
  · refine HT.skip ?_
    refine eseq ?_
    refine HT.seq ?_
    refine HT.block ?_
    refine HT.seq ?_
    refine HT.seq ?_
    refine HT.plain ?_
    refine sMv rfl rfl ?_
    refine sqS (q_len (len := n) rfl Tryz.underlying22) rfl ?_
    refine sMv rfl rfl ?_
    refine sqS (q_add (p := rof bs i) (q := 8) rfl rfl (show (rof bs i) + 8 < 9223372036854775808 by omega)) rfl ?_
    refine sqS (q_F (q_lt (p := n) (q := (rof bs i) + 8) rfl rfl) (by omega)) rfl ?_
    refine send ?_
    refine eseq ?_
    refine HT.no rfl ?_
    refine HT.skip ?_
    refine eseq ?_
    refine HT.seq ?_
    refine HT.plain ?_
    refine sl_ (l_allocT (K := [(igmp3_m1_4_k0 rb bs v)]) (Kr := Kr) (by decide) zero_182 fun b7 => ?_)
    refine send ?_
    refine eseq ?_
    refine HT.norm ([(igmp3_m1_4_k0 rb bs v), ⟨b7, 182, [some (.int .u8 ((0 : Nat) : Int)), some (.int .u8 ((0 : Nat) : Int)), some (.int .u16 ((0 : Nat) : Int)), some (.slice none 0 0), some (.slice none 0 0), some (.int .u32 ((0 : Nat) : Int))], true⟩] ++ Kr) [Byt A n c bs, SF al ga (fun j => bN bs (rof bs j + 2) 2) (fun j => rowX (fun t => [.slice (cutA A c ((rof bs j + 8) + (t * 4))) (((rof bs j + 12) + (t * 4)) - ((rof bs j + 8) + (t * 4))) (c - ((rof bs j + 8) + (t * 4)))]) (bN bs (rof bs j + 2) 2)) i] rfl rfl ?_
    refine HT.seq ?_
    refine HT.plain ?_
    refine sMv rfl rfl ?_
    refine sMv rfl rfl ?_
    refine sqS (q_index (i := rof bs i) (j := 0) rfl rfl Tryz.underlying22 nagg_5 (fun _ h => h) rfl (by omega)) rfl ?_
    refine sqS (q_byte (i := rof bs i) (j := 0) rfl nagg_5 (fun _ h => h) rfl (by omega)) rfl ?_
    refine sqS (q_field (b := b7) (off := 0) rfl fo_182_0) rfl ?_
    refine sl_ (l_store (b := b7) (off := 0) (j := 1) rfl rfl nagg_180 rfl rfl rfl rfl (dlt rfl) ?_)
    refine send ?_
    refine eseq ?_
    refine HT.norm ([(igmp3_m1_4_k0 rb bs v), ⟨b7, 182, [some (.int .u8 ((nb bs (rof bs i) : Nat) : Int)), some (.int .u8 ((0 : Nat) : Int)), some (.int .u16 ((0 : Nat) : Int)), some (.slice none 0 0), some (.slice none 0 0), some (.int .u32 ((0 : Nat) : Int))], true⟩] ++ Kr) [Byt A n c bs, SF al ga (fun j => bN bs (rof bs j + 2) 2) (fun j => rowX (fun t => [.slice (cutA A c ((rof bs j + 8) + (t * 4))) (((rof bs j + 12) + (t * 4)) - ((rof bs j + 8) + (t * 4))) (c - ((rof bs j + 8) + (t * 4)))]) (bN bs (rof bs j + 2) 2)) i] rfl rfl ?_
    refine HT.seq ?_
    refine HT.plain ?_
    refine sMv rfl rfl ?_
    refine sMv rfl rfl ?_
    refine sqS (q_add (p := rof bs i) (q := 1) rfl rfl (show (rof bs i) + 1 < 9223372036854775808 by omega)) rfl ?_
    refine sqS (q_index (i := (rof bs i) + 1) (j := 0) rfl rfl Tryz.underlying22 nagg_5 (fun _ h => h) rfl (by omega)) rfl ?_
    refine sqS (q_byte (i := (rof bs i) + 1) (j := 0) rfl nagg_5 (fun _ h => h) rfl (by omega)) rfl ?_
    refine sqS (q_field (b := b7) (off := 0) rfl fo_182_1) rfl ?_
    refine sl_ (l_store (b := b7) (off := 1) (j := 1) rfl rfl nagg_5 rfl rfl rfl rfl (dlt rfl) ?_)
    refine send ?_
    refine eseq ?_
    refine HT.norm ([(igmp3_m1_4_k0 rb bs v), ⟨b7, 182, [some (.int .u8 ((nb bs (rof bs i) : Nat) : Int)), some (.int .u8 ((nb bs ((rof bs i) + 1) : Nat) : Int)), some (.int .u16 ((0 : Nat) : Int)), some (.slice none 0 0), some (.slice none 0 0), some (.int .u32 ((0 : Nat) : Int))], true⟩] ++ Kr) [Byt A n c bs, SF al ga (fun j => bN bs (rof bs j + 2) 2) (fun j => rowX (fun t => [.slice (cutA A c ((rof bs j + 8) + (t * 4))) (((rof bs j + 12) + (t * 4)) - ((rof bs j + 8) + (t * 4))) (c - ((rof bs j + 8) + (t * 4)))]) (bN bs (rof bs j + 2) 2)) i] rfl rfl ?_
    refine HT.seq ?_
    refine HT.drawn mixed (St.closed _ _ _ _) (St w [rb] [(igmp3_m1_4_k0 rb bs v), ⟨b7, 182, [some (.int .u8 ((nb bs (rof bs i) : Nat) : Int)), some (.int .u8 ((nb bs ((rof bs i) + 1) : Nat) : Int)), none, some (.slice none 0 0), some (.slice none 0 0), some (.int .u32 ((0 : Nat) : Int))], true⟩] [Byt A n c bs, SF al ga (fun j => bN bs (rof bs j + 2) 2) (fun j => rowX (fun t => [.slice (cutA A c ((rof bs j + 8) + (t * 4))) (((rof bs j + 12) + (t * 4)) - ((rof bs j + 8) + (t * 4))) (c - ((rof bs j + 8) + (t * 4)))]) (bN bs (rof bs j + 2) 2)) i]) ?_
    refine dtake (f := 1) [0, 1, 2, 3, 4, 5, 6, 7, 8] (by kernel_rfl) (St.closed _ _ _ _) (fun _ h => (St.wk (St.untail (K := [(igmp3_m1_4_k0 rb bs v), ⟨b7, 182, [some (.int .u8 ((nb bs (rof bs i) : Nat) : Int)), some (.int .u8 ((nb bs ((rof bs i) + 1) : Nat) : Int)), some (.int .u16 ((0 : Nat) : Int)), some (.slice none 0 0), some (.slice none 0 0), some (.int .u32 ((0 : Nat) : Int))], true⟩]) (Kr := Kr) h) [(0, []), (1, [2])] rfl)) (by kernel_rfl) ?_
    refine dq rfl (q_loadEmpty rfl aggs_210) ?_
    refine dq rfl (q_move rfl) ?_
    refine dq rfl (q_move rfl) ?_
    refine dq rfl (q_add (p := rof bs i) (q := 2) rfl rfl (show (rof bs i) + 2 < 9223372036854775808 by omega)) ?_
    refine dq rfl (q_move rfl) ?_
    refine dq rfl (q_add (p := rof bs i) (q := 4) rfl rfl (show (rof bs i) + 4 < 9223372036854775808 by omega)) ?_
    refine dq rfl (q_slice (lo := (rof bs i) + 2) (hi := (rof bs i) + 4) rfl Tryz.underlying22 nagg_5 (.inr ⟨_, _, rfl, rfl⟩) (.inr ⟨_, _, rfl, rfl⟩) (by omega) (by omega)) ?_
    refine dq rfl (q_call (vs := [(.agg #[]), (.slice (cutA A c ((rof bs i) + 2)) (((rof bs i) + 4) - ((rof bs i) + 2)) (c - ((rof bs i) + 2)))]) (v := (.int .u16 ((bN bs ((rof bs i) + 2) 2 : Nat) : Int))) rfl ca_91 (fun w h => U16 w A n c bs (lo := (rof bs i) + 2) (hi := (rof bs i) + 4) (h.fact (j := 0) rfl) (by omega) (by omega))) ?_
    refine dq rfl (q_field (b := b7) (off := 0) rfl fo_182_2) ?_
    refine QL.nil ?_
    refine RG.step1 9 (by kernel_rfl) ?_
    refine dop rfl (l_store (b := b7) (off := 2) (j := 1) rfl rfl nagg_70 rfl rfl rfl rfl (dlt rfl) ⟨(fun _ h => (St.wk (St.untail (K := [(igmp3_m1_4_k0 rb bs v), ⟨b7, 182, [some (.int .u8 ((nb bs (rof bs i) : Nat) : Int)), some (.int .u8 ((nb bs ((rof bs i) + 1) : Nat) : Int)), some (.int .u16 ((bN bs ((rof bs i) + 2) 2 : Nat) : Int)), some (.slice none 0 0), some (.slice none 0 0), some (.int .u32 ((0 : Nat) : Int))], true⟩]) (Kr := Kr) h) [(0, []), (1, [2])] rfl)), ?_⟩)
    refine dend (by kernel_rfl) ?_
    refine eseq ?_
    refine HT.norm ([(igmp3_m1_4_k0 rb bs v), ⟨b7, 182, [some (.int .u8 ((nb bs (rof bs i) : Nat) : Int)), some (.int .u8 ((nb bs ((rof bs i) + 1) : Nat) : Int)), some (.int .u16 ((bN bs ((rof bs i) + 2) 2 : Nat) : Int)), some (.slice none 0 0), some (.slice none 0 0), some (.int .u32 ((0 : Nat) : Int))], true⟩] ++ Kr) [Byt A n c bs, SF al ga (fun j => bN bs (rof bs j + 2) 2) (fun j => rowX (fun t => [.slice (cutA A c ((rof bs j + 8) + (t * 4))) (((rof bs j + 12) + (t * 4)) - ((rof bs j + 8) + (t * 4))) (c - ((rof bs j + 8) + (t * 4)))]) (bN bs (rof bs j + 2) 2)) i] rfl rfl ?_
    refine HT.seq ?_
    refine HT.plain ?_
    refine sMv rfl rfl ?_
    refine sMv rfl rfl ?_
    refine sqS (q_add (p := rof bs i) (q := 4) rfl rfl (show (rof bs i) + 4 < 9223372036854775808 by omega)) rfl ?_
    refine sMv rfl rfl ?_
    refine sqS (q_add (p := rof bs i) (q := 8) rfl rfl (show (rof bs i) + 8 < 9223372036854775808 by omega)) rfl ?_
    refine sqS (q_slice (lo := (rof bs i) + 4) (hi := (rof bs i) + 8) rfl Tryz.underlying22 nagg_5 (.inr ⟨_, _, rfl, rfl⟩) (.inr ⟨_, _, rfl, rfl⟩) (by omega) (by omega)) rfl ?_
    refine sqS (q_field (b := b7) (off := 0) rfl fo_182_3) rfl ?_
    refine sl_ (l_store (b := b7) (off := 3) (j := 1) rfl rfl nagg_171 rfl rfl rfl rfl (dlt rfl) ?_)
    refine send ?_
    refine eseq ?_
    refine HT.norm ([(igmp3_m1_4_k0 rb bs v), ⟨b7, 182, [some (.int .u8 ((nb bs (rof bs i) : Nat) : Int)), some (.int .u8 ((nb bs ((rof bs i) + 1) : Nat) : Int)), some (.int .u16 ((bN bs ((rof bs i) + 2) 2 : Nat) : Int)), some (.slice (cutA A c ((rof bs i) + 4)) (((rof bs i) + 8) - ((rof bs i) + 4)) (c - ((rof bs i) + 4))), some (.slice none 0 0), some (.int .u32 ((0 : Nat) : Int))], true⟩] ++ Kr) [Byt A n c bs, SF al ga (fun j => bN bs (rof bs j + 2) 2) (fun j => rowX (fun t => [.slice (cutA A c ((rof bs j + 8) + (t * 4))) (((rof bs j + 12) + (t * 4)) - ((rof bs j + 8) + (t * 4))) (c - ((rof bs j + 8) + (t * 4)))]) (bN bs (rof bs j + 2) 2)) i] rfl rfl ?_
    refine HT.seq ?_
    refine HT.seq ?_
    refine HT.plain ?_
    refine sMv rfl rfl ?_
    refine sqS (q_len (len := n) rfl Tryz.underlying22) rfl ?_
    refine sMv rfl rfl ?_
    refine sqS (q_add (p := rof bs i) (q := 8) rfl rfl (show (rof bs i) + 8 < 9223372036854775808 by omega)) rfl ?_
    refine sqS (q_field (b := b7) (off := 0) rfl fo_182_2) rfl ?_
    refine sqS (q_load (b := b7) (off := 2) (j := 1) rfl nagg_70 (fun _ h => h) rfl rfl rfl) rfl ?_
    refine sqS (q_convn (p := bN bs ((rof bs i) + 2) 2) rfl Tryz.underlying70 Tryz.underlying3 (show bN bs ((rof bs i) + 2) 2 < 9223372036854775808 by have := bN_lt bs ((rof bs i) + 2) 2 65536 rfl; omega)) rfl ?_
    refine sqS (q_mul (p := bN bs ((rof bs i) + 2) 2) (q := 4) rfl rfl (show (bN bs ((rof bs i) + 2) 2) * 4 < 9223372036854775808 by have := bN_lt bs ((rof bs i) + 2) 2 65536 rfl; omega)) rfl ?_
    refine sqS (q_add (p := (rof bs i) + 8) (q := (bN bs ((rof bs i) + 2) 2) * 4) rfl rfl (show ((rof bs i) + 8) + ((bN bs ((rof bs i) + 2) 2) * 4) < 9223372036854775808 by have := bN_lt bs ((rof bs i) + 2) 2 65536 rfl; omega)) rfl ?_
    refine sqS (q_F (q_lt (p := n) (q := ((rof bs i) + 8) + ((bN bs ((rof bs i) + 2) 2) * 4)) rfl rfl) (by have := bN_lt bs ((rof bs i) + 2) 2 65536 rfl; omega)) rfl ?_
    refine send ?_
    refine eseq ?_
    refine HT.no rfl ?_
    refine HT.skip ?_
    refine eseq ?_
    refine HT.seq ?_
    refine HT.seq ?_
    refine HT.plain ?_
    refine sAs rfl rfl ?_
    refine send ?_
    refine eseq ?_
    refine HT.block ?_
    refine HT.loop (ι := {p : Nat × Value × List Kb // p.1 ≤ bN bs (rof bs i + 2) 2 ∧ RowS 171 1 p.1 (rowX (fun t => [.slice (cutA A c ((rof bs i + 8) + (t * 4))) (((rof bs i + 12) + (t * 4)) - ((rof bs i + 8) + (t * 4))) (c - ((rof bs i + 8) + (t * 4)))]) p.1) p.2.1 p.2.2}) (fun p => [(0, (.pointer (some ⟨rb, 0, none⟩))), (1, (.slice A n c)), (5, (.int .i64 ((rof bs i : Nat) : Int))), (6, (.int .i64 ((i : Nat) : Int))), (7, (.pointer (some ⟨b7, 0, none⟩))), (8, (.int .i64 ((p.1.1 : Nat) : Int)))]) (fun p => St w [rb] ([(igmp3_m1_4_k0 rb bs v), ⟨b7, 182, [some (.int .u8 ((nb bs (rof bs i) : Nat) : Int)), some (.int .u8 ((nb bs ((rof bs i) + 1) : Nat) : Int)), some (.int .u16 ((bN bs ((rof bs i) + 2) 2 : Nat) : Int)), some (.slice (cutA A c ((rof bs i) + 4)) (((rof bs i) + 8) - ((rof bs i) + 4)) (c - ((rof bs i) + 4))), some p.1.2.1, some (.int .u32 ((0 : Nat) : Int))], true⟩] ++ (Kr ++ p.1.2.2)) [Byt A n c bs, SF al ga (fun j => bN bs (rof bs j + 2) 2) (fun j => rowX (fun t => [.slice (cutA A c ((rof bs j + 8) + (t * 4))) (((rof bs j + 12) + (t * 4)) - ((rof bs j + 8) + (t * 4))) (c - ((rof bs j + 8) + (t * 4)))]) (bN bs (rof bs j + 2) 2)) i]) (fun p => bN bs (rof bs i + 2) 2 - p.1.1) ⟨(0, .slice none 0 0, []), Nat.zero_le _, RowS.nil 171 1⟩ ⟨rfl, rfl, rfl, rfl, rfl, rfl, trivial⟩ (fun _ h => St.nilTail (X := [(igmp3_m1_4_k0 rb bs v), ⟨b7, 182, [some (.int .u8 ((nb bs (rof bs i) : Nat) : Int)), some (.int .u8 ((nb bs ((rof bs i) + 1) : Nat) : Int)), some (.int .u16 ((bN bs ((rof bs i) + 2) 2 : Nat) : Int)), some (.slice (cutA A c ((rof bs i) + 4)) (((rof bs i) + 8) - ((rof bs i) + 4)) (c - ((rof bs i) + 4))), some (.slice none 0 0), some (.int .u32 ((0 : Nat) : Int))], true⟩]) h) fun ⟨⟨q, v2, Kr2⟩, hql, hr2⟩ => ?_
    replace hql : q ≤ bN bs (rof bs i + 2) 2 := hql
    replace hr2 : RowS 171 1 q (rowX (fun t => [.slice (cutA A c ((rof bs i + 8) + (t * 4))) (((rof bs i + 12) + (t * 4)) - ((rof bs i + 8) + (t * 4))) (c - ((rof bs i + 8) + (t * 4)))]) q) v2 Kr2 := hr2
    show HT _ _ _ [(0, (.pointer (some ⟨rb, 0, none⟩))), (1, (.slice A n c)), (5, (.int .i64 ((rof bs i : Nat) : Int))), (6, (.int .i64 ((i : Nat) : Int))), (7, (.pointer (some ⟨b7, 0, none⟩))), (8, (.int .i64 ((q : Nat) : Int)))] (St w [rb] ([(igmp3_m1_4_k0 rb bs v), (igmp3_m1_4_k4 b7 bs i A c v2)] ++ (Kr ++ Kr2)) [Byt A n c bs, SF al ga (fun j => bN bs (rof bs j + 2) 2) (fun j => rowX (fun t => [.slice (cutA A c ((rof bs j + 8) + (t * 4))) (((rof bs j + 12) + (t * 4)) - ((rof bs j + 8) + (t * 4))) (c - ((rof bs j + 8) + (t * 4)))]) (bN bs (rof bs j + 2) 2)) i]) _
    refine HT.seq ?_
    refine HT.seq ?_
    refine HT.plain ?_
    refine sMv rfl rfl ?_
    refine sqS (q_field (b := b7) (off := 0) rfl fo_182_2) rfl ?_
    refine sqS (q_load (b := b7) (off := 2) (j := 1) rfl nagg_70 (fun _ h => h) rfl rfl rfl) rfl ?_
    refine sqS (q_convn (p := bN bs ((rof bs i) + 2) 2) rfl Tryz.underlying70 Tryz.underlying3 (show bN bs ((rof bs i) + 2) 2 < 9223372036854775808 by have := bN_lt bs ((rof bs i) + 2) 2 65536 rfl; omega)) rfl ?_
    refine sqS (q_lt (p := q) (q := bN bs ((rof bs i) + 2) 2) rfl rfl) rfl ?_
    refine send ?_
    refine eseq ?_
    refine condd rfl (fun h2 => ?_) (fun h2 => ?_)
    · refine HT.skip ?_
      refine eseq ?_
      refine HT.seq ?_
      refine HT.block ?_
      refine HT.seq ?_
      refine HT.plain ?_
      refine sMv rfl rfl ?_
      refine sMv rfl rfl ?_
      refine sqS (q_add (p := rof bs i) (q := 8) rfl rfl (show (rof bs i) + 8 < 9223372036854775808 by omega)) rfl ?_
      refine sMv rfl rfl ?_
      refine sqS (q_mul (p := q) (q := 4) rfl rfl (show q * 4 < 9223372036854775808 by have := bN_lt bs (rof bs i + 2) 2 65536 rfl; have := hql; omega)) rfl ?_
      refine sqS (q_add (p := (rof bs i) + 8) (q := q * 4) rfl rfl (show ((rof bs i) + 8) + (q * 4) < 9223372036854775808 by have := bN_lt bs (rof bs i + 2) 2 65536 rfl; have := hql; omega)) rfl ?_
      refine sMv rfl rfl ?_
      refine sqS (q_add (p := rof bs i) (q := 12) rfl rfl (show (rof bs i) + 12 < 9223372036854775808 by omega)) rfl ?_
      refine sMv rfl rfl ?_
      refine sqS (q_mul (p := q) (q := 4) rfl rfl (show q * 4 < 9223372036854775808 by have := bN_lt bs (rof bs i + 2) 2 65536 rfl; have := hql; omega)) rfl ?_
      refine sqS (q_add (p := (rof bs i) + 12) (q := q * 4) rfl rfl (show ((rof bs i) + 12) + (q * 4) < 9223372036854775808 by have := bN_lt bs (rof bs i + 2) 2 65536 rfl; have := hql; omega)) rfl ?_
      refine sqS (q_slice (lo := ((rof bs i) + 8) + (q * 4)) (hi := ((rof bs i) + 12) + (q * 4)) rfl Tryz.underlying22 nagg_5 (.inr ⟨_, _, rfl, rfl⟩) (.inr ⟨_, _, rfl, rfl⟩) (by have := bN_lt bs (rof bs i + 2) 2 65536 rfl; have := hql; omega) (by have := bN_lt bs (rof bs i + 2) 2 65536 rfl; have := hql; omega)) rfl ?_
      refine sAs rfl rfl ?_
      refine send ?_
      refine eseq ?_
      refine HT.plain ?_
      refine sqS (q_field (b := b7) (off := 0) rfl fo_182_4) rfl ?_
      refine sqS (q_load (b := b7) (off := 4) (j := 1) rfl nagg_168 (fun _ h => h) rfl rfl rfl) rfl ?_
      refine sMv rfl rfl ?_
      refine sl_ (l_buildSliceT (K := [(igmp3_m1_4_k0 rb bs v), (igmp3_m1_4_k4 b7 bs i A c v2)]) (Kr := (Kr ++ Kr2)) (e := 171) (vs := [(0, (.slice (cutA A c (((rof bs i) + 8) + (q * 4))) ((((rof bs i) + 12) + (q * 4)) - (((rof bs i) + 8) + (q * 4))) (c - (((rof bs i) + 8) + (q * 4)))))]) (cs := [(.slice (cutA A c (((rof bs i) + 8) + (q * 4))) ((((rof bs i) + 12) + (q * 4)) - (((rof bs i) + 8) + (q * 4))) (c - (((rof bs i) + 8) + (q * 4))))]) (by decide) rfl (fun _ => by kernel_rfl) fun b103 => ?_)
      refine sl_ (l_appendR (K0 := ([(igmp3_m1_4_k0 rb bs v), (igmp3_m1_4_k4 b7 bs i A c v2), (igmp3_m1_4_k5 b103 A c bs i q)] ++ Kr)) (Kr := Kr2) (k := q) (xs := (rowX (fun t => [.slice (cutA A c ((rof bs i + 8) + (t * 4))) (((rof bs i + 12) + (t * 4)) - ((rof bs i + 8) + (t * 4))) (c - ((rof bs i + 8) + (t * 4)))]) q)) (jq := 2) (news := [(.slice (cutA A c (((rof bs i) + 8) + (q * 4))) ((((rof bs i) + 12) + (q * 4)) - (((rof bs i) + 8) + (q * 4))) (c - (((rof bs i) + 8) + (q * 4))))]) (by decide) rfl rfl Tryz.underlying168 rowT_171 (by decide) hr2 (by have := hql; have := bN_lt bs (rof bs i + 2) 2 65536 rfl; omega) rfl rfl (by simp [Value.one1]) fun v104 Kr104 hr104 => ?_)
      refine sqS (q_field (b := b7) (off := 0) rfl fo_182_4) rfl ?_
      refine sl_ (l_store (b := b7) (off := 4) (j := 1) rfl rfl nagg_168 hr104.one rfl rfl rfl (dlt rfl) ?_)
      refine send ?_
      refine ein ?_
      refine eseq ?_
      refine HT.norm ([(igmp3_m1_4_k0 rb bs v), ⟨b7, 182, [some (.int .u8 ((nb bs (rof bs i) : Nat) : Int)), some (.int .u8 ((nb bs ((rof bs i) + 1) : Nat) : Int)), some (.int .u16 ((bN bs ((rof bs i) + 2) 2 : Nat) : Int)), some (.slice (cutA A c ((rof bs i) + 4)) (((rof bs i) + 8) - ((rof bs i) + 4)) (c - ((rof bs i) + 4))), some v104, some (.int .u32 ((0 : Nat) : Int))], true⟩, (igmp3_m1_4_k5 b103 A c bs i q)] ++ (Kr ++ Kr104)) [Byt A n c bs, SF al ga (fun j => bN bs (rof bs j + 2) 2) (fun j => rowX (fun t => [.slice (cutA A c ((rof bs j + 8) + (t * 4))) (((rof bs j + 12) + (t * 4)) - ((rof bs j + 8) + (t * 4))) (c - ((rof bs j + 8) + (t * 4)))]) (bN bs (rof bs j + 2) 2)) i] rfl rfl ?_
      refine HT.plain ?_
      refine sMv rfl rfl ?_
      refine sqS (q_add (p := q) (q := 1) rfl rfl (show q + 1 < 9223372036854775808 by have := bN_lt bs (rof bs i + 2) 2 65536 rfl; have := hql; omega)) rfl ?_
      refine sAs rfl rfl ?_
      refine send ?_
      exact eround ⟨(q + 1, v104, Kr104), by show q + 1 ≤ bN bs (rof bs i + 2) 2; omega, RowS.succ hr104 rfl⟩ (show bN bs (rof bs i + 2) 2 - (q + 1) < bN bs (rof bs i + 2) 2 - q by omega) ⟨rfl, rfl, rfl, rfl, rfl, rfl, trivial⟩ (fun _ h => St.drop (X := [(igmp3_m1_4_k0 rb bs v), ⟨b7, 182, [some (.int .u8 ((nb bs (rof bs i) : Nat) : Int)), some (.int .u8 ((nb bs ((rof bs i) + 1) : Nat) : Int)), some (.int .u16 ((bN bs ((rof bs i) + 2) 2 : Nat) : Int)), some (.slice (cutA A c ((rof bs i) + 4)) (((rof bs i) + 8) - ((rof bs i) + 4)) (c - ((rof bs i) + 4))), some v104, some (.int .u32 ((0 : Nat) : Int))], true⟩]) (Y := [(igmp3_m1_4_k5 b103 A c bs i q)]) (Z := (Kr ++ Kr104)) h)
    · refine HT.exit ?_
      refine ex_then ?_
      refine ex_then ?_
      refine ex_in ?_
      refine eseq ?_
      have hqk : q = bN bs (rof bs i + 2) 2 := by omega
      subst hqk
      refine HT.rowFact (K := ([(igmp3_m1_4_k0 rb bs v), (igmp3_m1_4_k4 b7 bs i A c v2)] ++ Kr)) (Kr := Kr2) hr2 (fun i hi => by rw [List.mem_singleton.1 hi]; exact ⟨_, List.mem_cons_self, rfl⟩) fun AS cS hvS hncS hfS => ?_
      subst hvS
      refine HT.seq ?_
      refine HT.drawn mixed (St.closed _ _ _ _) (St w [rb] [⟨rb, 179, [some (.slice none 0 0), some (.slice none 0 0), some (.int .u8 ((nb bs 0 : Nat) : Int)), some (.int .i64 ((0 : Nat) : Int)), some (.int .u16 ((bN bs 2 2 : Nat) : Int)), some (.slice none 0 0), some (.bool false), some (.int .u8 ((0 : Nat) : Int)), some (.int .i64 ((0 : Nat) : Int)), some (.slice none 0 0), some (.int .u16 ((bN bs 6 2 : Nat) : Int)), some (.int .u16 ((0 : Nat) : Int)), none, some (.int .u8 ((3 : Nat) : Int))], true⟩, (igmp3_m1_4_k1 b7 bs i A c AS cS)] [Byt A n c bs, SF al ga (fun j => bN bs (rof bs j + 2) 2) (fun j => rowX (fun t => [.slice (cutA A c ((rof bs j + 8) + (t * 4))) (((rof bs j + 12) + (t * 4)) - ((rof bs j + 8) + (t * 4))) (c - ((rof bs j + 8) + (t * 4)))]) (bN bs (rof bs j + 2) 2)) i, Cel AS (bN bs (rof bs i + 2) 2) cS 1 (rowX (fun t => [.slice (cutA A c ((rof bs i + 8) + (t * 4))) (((rof bs i + 12) + (t * 4)) - ((rof bs i + 8) + (t * 4))) (c - ((rof bs i + 8) + (t * 4)))]) (bN bs (rof bs i + 2) 2))]) ?_
      refine dtake (f := 6) [0, 1, 2, 3, 5] (by kernel_rfl) (St.closed _ _ _ _) (fun _ h => (St.wk (St.untail (K := [(igmp3_m1_4_k0 rb bs v), (igmp3_m1_4_k1 b7 bs i A c AS cS)]) (Kr := Kr) h) [(0, [12]), (1, [])] rfl)) (by kernel_rfl) ?_
      refine dq rfl (q_move rfl) ?_
      refine dq rfl (q_move rfl) ?_
      refine dq rfl (q_nil rfl) ?_
      refine dq rfl (q_field (b := rb) (off := 0) rfl fo_179_11) ?_
      refine dq rfl (q_loadAgg (b := b7) (off := 0) (j := 1) (vs := [(.int .u8 ((nb bs (rof bs i) : Nat) : Int)), (.int .u8 ((nb bs ((rof bs i) + 1) : Nat) : Int)), (.int .u16 ((bN bs ((rof bs i) + 2) 2 : Nat) : Int)), (.slice (cutA A c ((rof bs i) + 4)) (((rof bs i) + 8) - ((rof bs i) + 4)) (c - ((rof bs i) + 4))), (.slice AS (bN bs (rof bs i + 2) 2) cS), (.int .u32 ((0 : Nat) : Int))]) rfl aggs_182 (fun _ h => h) rfl rfl rfl) ?_
      refine QL.nil ?_
      refine RG.step2 4 6 (by kernel_rfl) ?_ ?_
      · refine dop rfl (l_q _ (by simp) (St.closed _ _ _ _) (q_load (b := rb) (off := 12) (j := 0) rfl nagg_177 (fun _ h => h) rfl rfl rfl) ⟨(fun _ h => (St.wk (St.untail (K := [(igmp3_m1_4_k0 rb bs v), (igmp3_m1_4_k1 b7 bs i A c AS cS)]) (Kr := Kr) h) [(0, [12]), (1, [])] rfl)), ?_⟩)
        refine RG.step1 6 (by kernel_rfl) ?_
        refine dop rfl (l_buildSliceT (K := [(igmp3_m1_4_k0 rb bs v), (igmp3_m1_4_k1 b7 bs i A c AS cS)]) (Kr := Kr) (e := 182) (vs := [(0, (.agg #[(.int .u8 ((nb bs (rof bs i) : Nat) : Int)), (.int .u8 ((nb bs ((rof bs i) + 1) : Nat) : Int)), (.int .u16 ((bN bs ((rof bs i) + 2) 2 : Nat) : Int)), (.slice (cutA A c ((rof bs i) + 4)) (((rof bs i) + 8) - ((rof bs i) + 4)) (c - ((rof bs i) + 4))), (.slice AS (bN bs (rof bs i + 2) 2) cS), (.int .u32 ((0 : Nat) : Int))]))]) (cs := [(.int .u8 ((nb bs (rof bs i) : Nat) : Int)), (.int .u8 ((nb bs ((rof bs i) + 1) : Nat) : Int)), (.int .u16 ((bN bs ((rof bs i) + 2) 2 : Nat) : Int)), (.slice (cutA A c ((rof bs i) + 4)) (((rof bs i) + 8) - ((rof bs i) + 4)) (c - ((rof bs i) + 4))), (.slice AS (bN bs (rof bs i + 2) 2) cS), (.int .u32 ((0 : Nat) : Int))]) (by decide) rfl (fun _ => by kernel_rfl) fun b112 => ⟨(fun _ h => (St.wk (St.untail (K := [(igmp3_m1_4_k0 rb bs v), (igmp3_m1_4_k1 b7 bs i A c AS cS), (igmp3_m1_4_k2 b112 bs i A c AS cS)]) (Kr := Kr) h) [(0, [12]), (1, [])] rfl)), ?_⟩)
        refine RG.step1 7 (by kernel_rfl) ?_
        refine dop rfl (l_appendR (K0 := [(igmp3_m1_4_k0 rb bs v), (igmp3_m1_4_k1 b7 bs i A c AS cS), (igmp3_m1_4_k2 b112 bs i A c AS cS)]) (Kr := Kr) (k := i) (xs := (rowX (fun j => (fun j a d => [.int .u8 ((nb bs (rof bs j) : Nat) : Int), .int .u8 ((nb bs (rof bs j + 1) : Nat) : Int), .int .u16 ((bN bs (rof bs j + 2) 2 : Nat) : Int), .slice (cutA A c (rof bs j + 4)) ((rof bs j + 8) - (rof bs j + 4)) (c - (rof bs j + 4)), .slice a (bN bs (rof bs j + 2) 2) d, .int .u32 ((0 : Nat) : Int)]) j (al j) (ga j)) i)) (jq := 2) (news := [(.int .u8 ((nb bs (rof bs i) : Nat) : Int)), (.int .u8 ((nb bs ((rof bs i) + 1) : Nat) : Int)), (.int .u16 ((bN bs ((rof bs i) + 2) 2 : Nat) : Int)), (.slice (cutA A c ((rof bs i) + 4)) (((rof bs i) + 8) - ((rof bs i) + 4)) (c - ((rof bs i) + 4))), (.slice AS (bN bs (rof bs i + 2) 2) cS), (.int .u32 ((0 : Nat) : Int))]) (by decide) rfl rfl Tryz.underlying177 rowT_182 (by decide) hr (by have := hil; have := bN_lt bs 6 2 65536 rfl; omega) rfl rfl (by simp [Value.one1]) fun v113 Kr113 hr113 => ⟨(fun _ h => (St.wk (St.untail (K := [(igmp3_m1_4_k0 rb bs v), (igmp3_m1_4_k1 b7 bs i A c AS cS), (igmp3_m1_4_k2 b112 bs i A c AS cS)]) (Kr := Kr113) h) [(0, [12]), (1, [])] rfl)), ?_⟩)
        refine dtake (f := 1) [8, 9] (by kernel_rfl) (St.closed _ _ _ _) (fun _ h => (St.wk (St.untail (K := [(igmp3_m1_4_k0 rb bs v), (igmp3_m1_4_k1 b7 bs i A c AS cS), (igmp3_m1_4_k2 b112 bs i A c AS cS)]) (Kr := Kr113) h) [(0, [12]), (1, [])] rfl)) (by kernel_rfl) ?_
        refine dq rfl (q_nil rfl) ?_
        refine dq rfl (q_field (b := rb) (off := 0) rfl fo_179_11) ?_
        refine QL.nil ?_
        refine RG.step1 10 (by kernel_rfl) ?_
        refine dop rfl (l_store (b := rb) (off := 12) (j := 0) rfl rfl nagg_177 hr113.one rfl rfl rfl (dlt rfl) ⟨(fun _ h => (St.wk (St.untail (K := [(igmp3_m1_4_k3 rb bs v113), (igmp3_m1_4_k1 b7 bs i A c AS cS), (igmp3_m1_4_k2 b112 bs i A c AS cS)]) (Kr := Kr113) h) [(0, [12]), (1, [])] rfl)), ?_⟩)
        refine dend (by kernel_rfl) ?_
        refine eseq ?_
        refine HT.norm ([(igmp3_m1_4_k3 rb bs v113), (igmp3_m1_4_k1 b7 bs i A c AS cS), (igmp3_m1_4_k2 b112 bs i A c AS cS)] ++ Kr113) [Byt A n c bs, SF al ga (fun j => bN bs (rof bs j + 2) 2) (fun j => rowX (fun t => [.slice (cutA A c ((rof bs j + 8) + (t * 4))) (((rof bs j + 12) + (t * 4)) - ((rof bs j + 8) + (t * 4))) (c - ((rof bs j + 8) + (t * 4)))]) (bN bs (rof bs j + 2) 2)) i, Cel AS (bN bs (rof bs i + 2) 2) cS 1 (rowX (fun t => [.slice (cutA A c ((rof bs i + 8) + (t * 4))) (((rof bs i + 12) + (t * 4)) - ((rof bs i + 8) + (t * 4))) (c - ((rof bs i + 8) + (t * 4)))]) (bN bs (rof bs i + 2) 2))] rfl rfl ?_
        refine HT.plain ?_
        refine sMv rfl rfl ?_
        refine sqS (q_field (b := b7) (off := 0) rfl fo_182_2) rfl ?_
        refine sqS (q_load (b := b7) (off := 2) (j := 1) rfl nagg_70 (fun _ h => h) rfl rfl rfl) rfl ?_
        refine sqS (q_convn (p := bN bs ((rof bs i) + 2) 2) rfl Tryz.underlying70 Tryz.underlying3 (show bN bs ((rof bs i) + 2) 2 < 9223372036854775808 by have := bN_lt bs ((rof bs i) + 2) 2 65536 rfl; omega)) rfl ?_
        refine sqS (q_mul (p := 4) (q := bN bs ((rof bs i) + 2) 2) rfl rfl (show 4 * (bN bs ((rof bs i) + 2) 2) < 9223372036854775808 by have := bN_lt bs ((rof bs i) + 2) 2 65536 rfl; omega)) rfl ?_
        refine sqS (q_add (p := 8) (q := 4 * (bN bs ((rof bs i) + 2) 2)) rfl rfl (show 8 + (4 * (bN bs ((rof bs i) + 2) 2)) < 9223372036854775808 by have := bN_lt bs ((rof bs i) + 2) 2 65536 rfl; omega)) rfl ?_
        refine sqS (q_add (p := rof bs i) (q := 8 + (4 * (bN bs ((rof bs i) + 2) 2))) rfl rfl (show (rof bs i) + (8 + (4 * (bN bs ((rof bs i) + 2) 2))) < 9223372036854775808 by have := bN_lt bs ((rof bs i) + 2) 2 65536 rfl; omega)) rfl ?_
        refine sAs rfl rfl ?_
        refine send ?_
        refine ein ?_
        refine eseq ?_
        refine HT.plain ?_
        refine sMv rfl rfl ?_
        refine sqS (q_add (p := i) (q := 1) rfl rfl (show i + 1 < 9223372036854775808 by have := hil; omega)) rfl ?_
        refine sAs rfl rfl ?_
        refine send ?_
        exact fun a ha w' hw => eround2 ⟨(i + 1, _, _, _, _), RSt.step hp (A := AS) (c := cS) (by omega) hr113 hfS⟩ (show N - (i + 1) < N - i by omega) (ha.sub ⟨rfl, rfl, inc (n' := rof bs (i + 1)) (by omega), rfl, trivial⟩) (St.sf (B := [Byt A n c bs]) (i := i) (A := AS) (c := cS) (St.drop (X := [(igmp3_m1_4_k3 rb bs v113)]) (Y := [(igmp3_m1_4_k1 b7 bs i A c AS cS), (igmp3_m1_4_k2 b112 bs i A c AS cS)]) (Z := Kr113) hw))
      · refine dop rfl (l_buildSliceT (K := [(igmp3_m1_4_k0 rb bs v), (igmp3_m1_4_k1 b7 bs i A c AS cS)]) (Kr := Kr) (e := 182) (vs := [(0, (.agg #[(.int .u8 ((nb bs (rof bs i) : Nat) : Int)), (.int .u8 ((nb bs ((rof bs i) + 1) : Nat) : Int)), (.int .u16 ((bN bs ((rof bs i) + 2) 2 : Nat) : Int)), (.slice (cutA A c ((rof bs i) + 4)) (((rof bs i) + 8) - ((rof bs i) + 4)) (c - ((rof bs i) + 4))), (.slice AS (bN bs (rof bs i + 2) 2) cS), (.int .u32 ((0 : Nat) : Int))]))]) (cs := [(.int .u8 ((nb bs (rof bs i) : Nat) : Int)), (.int .u8 ((nb bs ((rof bs i) + 1) : Nat) : Int)), (.int .u16 ((bN bs ((rof bs i) + 2) 2 : Nat) : Int)), (.slice (cutA A c ((rof bs i) + 4)) (((rof bs i) + 8) - ((rof bs i) + 4)) (c - ((rof bs i) + 4))), (.slice AS (bN bs (rof bs i + 2) 2) cS), (.int .u32 ((0 : Nat) : Int))]) (by decide) rfl (fun _ => by kernel_rfl) fun b112 => ⟨(fun _ h => (St.wk (St.untail (K := [(igmp3_m1_4_k0 rb bs v), (igmp3_m1_4_k1 b7 bs i A c AS cS), (igmp3_m1_4_k2 b112 bs i A c AS cS)]) (Kr := Kr) h) [(0, [12]), (1, [])] rfl)), ?_⟩)
        refine RG.step1 4 (by kernel_rfl) ?_
        refine dop rfl (l_q _ (by simp) (St.closed _ _ _ _) (q_load (b := rb) (off := 12) (j := 0) rfl nagg_177 (fun _ h => h) rfl rfl rfl) ⟨(fun _ h => (St.wk (St.untail (K := [(igmp3_m1_4_k0 rb bs v), (igmp3_m1_4_k1 b7 bs i A c AS cS), (igmp3_m1_4_k2 b112 bs i A c AS cS)]) (Kr := Kr) h) [(0, [12]), (1, [])] rfl)), ?_⟩)
        refine RG.step1 7 (by kernel_rfl) ?_
        refine dop rfl (l_appendR (K0 := [(igmp3_m1_4_k0 rb bs v), (igmp3_m1_4_k1 b7 bs i A c AS cS), (igmp3_m1_4_k2 b112 bs i A c AS cS)]) (Kr := Kr) (k := i) (xs := (rowX (fun j => (fun j a d => [.int .u8 ((nb bs (rof bs j) : Nat) : Int), .int .u8 ((nb bs (rof bs j + 1) : Nat) : Int), .int .u16 ((bN bs (rof bs j + 2) 2 : Nat) : Int), .slice (cutA A c (rof bs j + 4)) ((rof bs j + 8) - (rof bs j + 4)) (c - (rof bs j + 4)), .slice a (bN bs (rof bs j + 2) 2) d, .int .u32 ((0 : Nat) : Int)]) j (al j) (ga j)) i)) (jq := 2) (news := [(.int .u8 ((nb bs (rof bs i) : Nat) : Int)), (.int .u8 ((nb bs ((rof bs i) + 1) : Nat) : Int)), (.int .u16 ((bN bs ((rof bs i) + 2) 2 : Nat) : Int)), (.slice (cutA A c ((rof bs i) + 4)) (((rof bs i) + 8) - ((rof bs i) + 4)) (c - ((rof bs i) + 4))), (.slice AS (bN bs (rof bs i + 2) 2) cS), (.int .u32 ((0 : Nat) : Int))]) (by decide) rfl rfl Tryz.underlying177 rowT_182 (by decide) hr (by have := hil; have := bN_lt bs 6 2 65536 rfl; omega) rfl rfl (by simp [Value.one1]) fun v113 Kr113 hr113 => ⟨(fun _ h => (St.wk (St.untail (K := [(igmp3_m1_4_k0 rb bs v), (igmp3_m1_4_k1 b7 bs i A c AS cS), (igmp3_m1_4_k2 b112 bs i A c AS cS)]) (Kr := Kr113) h) [(0, [12]), (1, [])] rfl)), ?_⟩)
        refine dtake (f := 1) [8, 9] (by kernel_rfl) (St.closed _ _ _ _) (fun _ h => (St.wk (St.untail (K := [(igmp3_m1_4_k0 rb bs v), (igmp3_m1_4_k1 b7 bs i A c AS cS), (igmp3_m1_4_k2 b112 bs i A c AS cS)]) (Kr := Kr113) h) [(0, [12]), (1, [])] rfl)) (by kernel_rfl) ?_
        refine dq rfl (q_nil rfl) ?_
        refine dq rfl (q_field (b := rb) (off := 0) rfl fo_179_11) ?_
        refine QL.nil ?_
        refine RG.step1 10 (by kernel_rfl) ?_
        refine dop rfl (l_store (b := rb) (off := 12) (j := 0) rfl rfl nagg_177 hr113.one rfl rfl rfl (dlt rfl) ⟨(fun _ h => (St.wk (St.untail (K := [(igmp3_m1_4_k3 rb bs v113), (igmp3_m1_4_k1 b7 bs i A c AS cS), (igmp3_m1_4_k2 b112 bs i A c AS cS)]) (Kr := Kr113) h) [(0, [12]), (1, [])] rfl)), ?_⟩)
        refine dend (by kernel_rfl) ?_
        refine eseq ?_
        refine HT.norm ([(igmp3_m1_4_k3 rb bs v113), (igmp3_m1_4_k1 b7 bs i A c AS cS), (igmp3_m1_4_k2 b112 bs i A c AS cS)] ++ Kr113) [Byt A n c bs, SF al ga (fun j => bN bs (rof bs j + 2) 2) (fun j => rowX (fun t => [.slice (cutA A c ((rof bs j + 8) + (t * 4))) (((rof bs j + 12) + (t * 4)) - ((rof bs j + 8) + (t * 4))) (c - ((rof bs j + 8) + (t * 4)))]) (bN bs (rof bs j + 2) 2)) i, Cel AS (bN bs (rof bs i + 2) 2) cS 1 (rowX (fun t => [.slice (cutA A c ((rof bs i + 8) + (t * 4))) (((rof bs i + 12) + (t * 4)) - ((rof bs i + 8) + (t * 4))) (c - ((rof bs i + 8) + (t * 4)))]) (bN bs (rof bs i + 2) 2))] rfl rfl ?_
        refine HT.plain ?_
        refine sMv rfl rfl ?_
        refine sqS (q_field (b := b7) (off := 0) rfl fo_182_2) rfl ?_
        refine sqS (q_load (b := b7) (off := 2) (j := 1) rfl nagg_70 (fun _ h => h) rfl rfl rfl) rfl ?_
        refine sqS (q_convn (p := bN bs ((rof bs i) + 2) 2) rfl Tryz.underlying70 Tryz.underlying3 (show bN bs ((rof bs i) + 2) 2 < 9223372036854775808 by have := bN_lt bs ((rof bs i) + 2) 2 65536 rfl; omega)) rfl ?_
        refine sqS (q_mul (p := 4) (q := bN bs ((rof bs i) + 2) 2) rfl rfl (show 4 * (bN bs ((rof bs i) + 2) 2) < 9223372036854775808 by have := bN_lt bs ((rof bs i) + 2) 2 65536 rfl; omega)) rfl ?_
        refine sqS (q_add (p := 8) (q := 4 * (bN bs ((rof bs i) + 2) 2)) rfl rfl (show 8 + (4 * (bN bs ((rof bs i) + 2) 2)) < 9223372036854775808 by have := bN_lt bs ((rof bs i) + 2) 2 65536 rfl; omega)) rfl ?_
        refine sqS (q_add (p := rof bs i) (q := 8 + (4 * (bN bs ((rof bs i) + 2) 2))) rfl rfl (show (rof bs i) + (8 + (4 * (bN bs ((rof bs i) + 2) 2))) < 9223372036854775808 by have := bN_lt bs ((rof bs i) + 2) 2 65536 rfl; omega)) rfl ?_
        refine sAs rfl rfl ?_
        refine send ?_
        refine ein ?_
        refine eseq ?_
        refine HT.plain ?_
        refine sMv rfl rfl ?_
        refine sqS (q_add (p := i) (q := 1) rfl rfl (show i + 1 < 9223372036854775808 by have := hil; omega)) rfl ?_
        refine sAs rfl rfl ?_
        refine send ?_
        exact fun a ha w' hw => eround2 ⟨(i + 1, _, _, _, _), RSt.step hp (A := AS) (c := cS) (by omega) hr113 hfS⟩ (show N - (i + 1) < N - i by omega) (ha.sub ⟨rfl, rfl, inc (n' := rof bs (i + 1)) (by omega), rfl, trivial⟩) (St.sf (B := [Byt A n c bs]) (i := i) (A := AS) (c := cS) (St.drop (X := [(igmp3_m1_4_k3 rb bs v113)]) (Y := [(igmp3_m1_4_k1 b7 bs i A c AS cS), (igmp3_m1_4_k2 b112 bs i A c AS cS)]) (Z := Kr113) hw))
  · refine HT.exit ?_
    refine ex_then ?_
    refine ex_then ?_
    refine ex_in ?_
    refine eseq ?_
    have hiN : N = i := by omega
    subst hiN
    refine HT.rowFact (K := [(igmp3_m1_4_k0 rb bs v)]) (Kr := Kr) hr (fun i hi => by rw [List.mem_singleton.1 hi]; exact ⟨_, List.mem_cons_self, rfl⟩) fun AQ cQ hvQ hncQ hfQ => ?_
    subst hvQ
    refine HT.seq ?_
    refine HT.plain ?_
    refine sAs rfl rfl ?_
    refine send ?_
    refine eseq ?_
    refine HT.ret ?_
    exact fun a ha w' hw => fin_ ha (res1 ha Tryz.results123 rfl) ⟨AQ, cQ, al, ga, rfl, (hw.selF [0, 2, 1] rfl), (fr1 hfQ (fr1 hp.new fr0))⟩

theorem igmp3_m2_4 (w : World) (A : Option Addr) (n : Nat) (c : Nat) (bs : List UInt8) (N : Nat) (rb : Nat) (kb : Nat) (hn : n ≤ 400) (ha : 8 ≤ n) (hb : nb bs 0 = 34) (hc : ∀ i, i < N → rof bs i + 8 ≤ n ∧ nb bs (rof bs i + 1) = 0 ∧ rof bs (i + 1) ≤ n) (hd : bN bs 6 2 = N) (hst : St w [rb] [⟨rb, 179, [some (.slice none 0 0), some (.slice none 0 0), some (.int .u8 ((0 : Nat) : Int)), some (.int .i64 ((0 : Nat) : Int)), some (.int .u16 ((0 : Nat) : Int)), some (.slice none 0 0), some (.bool false), some (.int .u8 ((0 : Nat) : Int)), some (.int .i64 ((0 : Nat) : Int)), some (.slice none 0 0), some (.int .u16 ((0 : Nat) : Int)), some (.int .u16 ((0 : Nat) : Int)), some (.slice none 0 0), some (.int .u8 ((3 : Nat) : Int))], true⟩] [Byt A n c bs] w) : Calls Tryz.prog 118 #[(.pointer (some ⟨rb, 0, none⟩)), (.slice A n c), (.iface 199 (.pointer (some ⟨kb, 0, none⟩)))] w (CP4 w [rb] [Byt A n c bs] (fun AQ cQ al ga => .nilIface) (fun AQ cQ al ga => [⟨rb, 179, [some (.slice none 0 0), some (.slice none 0 0), some (.int .u8 ((nb bs 0 : Nat) : Int)), some (.int .i64 ((0 : Nat) : Int)), some (.int .u16 ((bN bs 2 2 : Nat) : Int)), some (.slice none 0 0), some (.bool false), some (.int .u8 ((0 : Nat) : Int)), some (.int .i64 ((0 : Nat) : Int)), some (.slice none 0 0), some (.int .u16 ((bN bs 6 2 : Nat) : Int)), some (.int .u16 ((0 : Nat) : Int)), some (.slice AQ N cQ), some (.int .u8 ((3 : Nat) : Int))], true⟩]) (fun AQ cQ al ga => [Cel AQ N cQ 6 (rowX (fun j => (fun j a d => [.int .u8 ((nb bs (rof bs j) : Nat) : Int), .int .u8 ((nb bs (rof bs j + 1) : Nat) : Int), .int .u16 ((bN bs (rof bs j + 2) 2 : Nat) : Int), .slice (cutA A c (rof bs j + 4)) ((rof bs j + 8) - (rof bs j + 4)) (c - (rof bs j + 4)), .slice a (bN bs (rof bs j + 2) 2) d, .int .u32 ((0 : Nat) : Int)]) j (al j) (ga j)) N), SF al ga (fun j => bN bs (rof bs j + 2) 2) (fun j => rowX (fun t => [.slice (cutA A c ((rof bs j + 8) + (t * 4))) (((rof bs j + 12) + (t * 4)) - ((rof bs j + 8) + (t * 4))) (c - ((rof bs j + 8) + (t * 4)))]) (bN bs (rof bs j + 2) 2)) N])) := by
  have hnc00 : n ≤ c := (hst.fact (j := 0) rfl).2.1
  have hbl : n = bs.length := (hst.fact (j := 0) rfl).1
  refine enter (vs := [(.pointer (some ⟨rb, 0, none⟩)), (.slice A n c), (.iface 199 (.pointer (some ⟨kb, 0, none⟩)))]) Tryz.func118 rfl rfl rfl hst ?_
  refine HT.seq ?_
  refine HT.plain ?_
  refine sAs rfl rfl ?_
  refine send ?_
  refine eseq ?_
  refine HT.seq ?_
  refine HT.seq ?_
  refine HT.plain ?_
  refine sMv rfl rfl ?_
  refine sqS (q_len (len := n) rfl Tryz.underlying22) rfl ?_
  refine sqS (q_F (q_lt (p := n) (q := 1) rfl rfl) (by omega)) rfl ?_
  refine send ?_
  refine eseq ?_
  refine HT.no rfl ?_
  refine HT.skip ?_
  refine eseq ?_
  refine HT.seq ?_
  refine HT.plain ?_
  refine sMv rfl rfl ?_
  refine sMv rfl rfl ?_
  refine sqS (q_index (i := 0) (j := 0) rfl rfl Tryz.underlying22 nagg_5 (fun _ h => h) rfl (by omega)) rfl ?_
  refine sqS (q_byte (i := 0) (j := 0) rfl nagg_5 (fun _ h => h) rfl (by omega)) rfl ?_
  refine sqS (q_nil rfl) rfl ?_
  refine sqS (q_field (b := rb) (off := 0) rfl fo_179_1) rfl ?_
  refine sl_ (l_store (b := rb) (off := 2) (j := 0) rfl rfl nagg_173 rfl rfl rfl rfl (dlt rfl) ?_)
  refine send ?_
  refine eseq ?_
  refine HT.seq ?_
  refine HT.seq ?_
  refine HT.plain ?_
  refine sMv rfl rfl ?_
  refine sqS (q_nil rfl) rfl ?_
  refine sqS (q_field (b := rb) (off := 0) rfl fo_179_1) rfl ?_
  refine sqS (q_load (b := rb) (off := 2) (j := 0) rfl nagg_173 (fun _ h => h) rfl rfl rfl) rfl ?_
  refine send ?_
  refine eseq ?_
  refine HT.block ?_
  refine HT.seq ?_
  refine HT.plain ?_
  refine sqS (q_F (q_eq (p := nb bs 0) (q := 17) rfl rfl) (by have := nb_lt bs 0; omega)) rfl ?_
  refine sAs rfl rfl ?_
  refine send ?_
  refine eseq ?_
  refine HT.no rfl ?_
  refine HT.seq ?_
  refine HT.plain ?_
  refine sqS (q_T (q_eq (p := nb bs 0) (q := 34) rfl rfl) (by have := nb_lt bs 0; omega)) rfl ?_
  refine sAs rfl rfl ?_
  refine send ?_
  refine eseq ?_
  refine HT.yes rfl ?_
  refine HT.plain ?_
  refine sMv rfl rfl ?_
  refine sMv rfl rfl ?_
  refine sl_ (l_callX4 (vs := [(.pointer (some ⟨rb, 0, none⟩)), (.slice A n c)]) (Kc := [⟨rb, 179, [some (.slice none 0 0), some (.slice none 0 0), some (.int .u8 ((nb bs 0 : Nat) : Int)), some (.int .i64 ((0 : Nat) : Int)), some (.int .u16 ((0 : Nat) : Int)), some (.slice none 0 0), some (.bool false), some (.int .u8 ((0 : Nat) : Int)), some (.int .i64 ((0 : Nat) : Int)), some (.slice none 0 0), some (.int .u16 ((0 : Nat) : Int)), some (.int .u16 ((0 : Nat) : Int)), some (.slice none 0 0), some (.int .u8 ((3 : Nat) : Int))], true⟩]) (Bc := [Byt A n c bs]) [0] [0] [Byt A n c bs] (fun AQ cQ al ga => [⟨rb, 179, [some (.slice none 0 0), some (.slice none 0 0), some (.int .u8 ((nb bs 0 : Nat) : Int)), some (.int .i64 ((0 : Nat) : Int)), some (.int .u16 ((bN bs 2 2 : Nat) : Int)), some (.slice none 0 0), some (.bool false), some (.int .u8 ((0 : Nat) : Int)), some (.int .i64 ((0 : Nat) : Int)), some (.slice none 0 0), some (.int .u16 ((bN bs 6 2 : Nat) : Int)), some (.int .u16 ((0 : Nat) : Int)), some (.slice AQ N cQ), some (.int .u8 ((3 : Nat) : Int))], true⟩]) (fun AQ cQ al ga => [Byt A n c bs, Cel AQ N cQ 6 (rowX (fun j => (fun j a d => [.int .u8 ((nb bs (rof bs j) : Nat) : Int), .int .u8 ((nb bs (rof bs j + 1) : Nat) : Int), .int .u16 ((bN bs (rof bs j + 2) 2 : Nat) : Int), .slice (cutA A c (rof bs j + 4)) ((rof bs j + 8) - (rof bs j + 4)) (c - (rof bs j + 4)), .slice a (bN bs (rof bs j + 2) 2) d, .int .u32 ((0 : Nat) : Int)]) j (al j) (ga j)) N), SF al ga (fun j => bN bs (rof bs j + 2) 2) (fun j => rowX (fun t => [.slice (cutA A c ((rof bs j + 8) + (t * 4))) (((rof bs j + 12) + (t * 4)) - ((rof bs j + 8) + (t * 4))) (c - ((rof bs j + 8) + (t * 4)))]) (bN bs (rof bs j + 2) 2)) N]) (by decide) rfl ca_123 (fun _ h => h) rfl rfl rfl rfl (fun w h => igmp3_m1_4 w A n c bs N rb (by omega) (by omega) (by omega) hc (by omega) h) (fun _ _ _ _ => rfl) (fun _ _ _ _ => rfl) (fun _ _ _ _ => rfl) (fun _ _ _ _ => rfl) fun AQ cQ al ga hf1 he2 => ?_)
  have hnc3 : N ≤ cQ := by obtain ⟨w, h⟩ := he2; exact (h _ List.mem_cons_self).2.1
  refine send ?_
  refine ein ?_
  refine eseq ?_
  refine HT.seq ?_
  refine HT.plain ?_
  refine sAs rfl rfl ?_
  refine send ?_
  refine eseq ?_
  refine HT.ret ?_
  exact fun a ha w' hw => fin_ ha (res1 ha Tryz.results118 rfl) ⟨AQ, cQ, al, ga, rfl, hw, (fr1 (hf1 _ List.mem_cons_self) (fr1 (hf1 _ (List.mem_cons_of_mem _ List.mem_cons_self)) fr0))⟩

abbrev igmp3_dd4_k0 (rb : Nat) (bs : List UInt8) (AQ : Option Addr) (N : Nat) (cQ : Nat) : Kb := ⟨rb, 179, [some (.slice none 0 0), some (.slice none 0 0), some (.int .u8 ((nb bs 0 : Nat) : Int)), some (.int .i64 ((0 : Nat) : Int)), some (.int .u16 ((bN bs 2 2 : Nat) : Int)), some (.slice none 0 0), some (.bool false), some (.int .u8 ((0 : Nat) : Int)), some (.int .i64 ((0 : Nat) : Int)), some (.slice none 0 0), some (.int .u16 ((bN bs 6 2 : Nat) : Int)), some (.int .u16 ((0 : Nat) : Int)), some (.slice AQ N cQ), some (.int .u8 ((3 : Nat) : Int))], true⟩

theorem igmp3_dd4 (w : World) (A : Option Addr) (n : Nat) (c : Nat) (bs : List UInt8) (N : Nat) (rb : Nat) (kb : Nat) (hn : n ≤ 400) (ha : 8 ≤ n) (hb : nb bs 0 = 34) (hc : ∀ i, i < N → rof bs i + 8 ≤ n ∧ nb bs (rof bs i + 1) = 0 ∧ rof bs (i + 1) ≤ n) (hd : bN bs 6 2 = N) (hst : St w [rb, kb] [⟨rb, 179, [some (.slice none 0 0), some (.slice none 0 0), some (.int .u8 ((0 : Nat) : Int)), some (.int .i64 ((0 : Nat) : Int)), some (.int .u16 ((0 : Nat) : Int)), some (.slice none 0 0), some (.bool false), some (.int .u8 ((0 : Nat) : Int)), some (.int .i64 ((0 : Nat) : Int)), some (.slice none 0 0), some (.int .u16 ((0 : Nat) : Int)), some (.int .u16 ((0 : Nat) : Int)), some (.slice none 0 0), some (.int .u8 ((3 : Nat) : Int))], true⟩, ⟨kb, 201, [some .nilIface], true⟩] [Byt A n c bs] w) : Calls Tryz.prog 96 #[(.iface 63 (.pointer (some ⟨rb, 0, none⟩))), (.slice A n c), (.iface 199 (.pointer (some ⟨kb, 0, none⟩)))] w (CP4 w [rb, kb] [Byt A n c bs] (fun AQ cQ al ga => .nilIface) (fun AQ cQ al ga => [(igmp3_dd4_k0 rb bs AQ N cQ), ⟨kb, 201, [some (.iface 63 (.pointer (some ⟨rb, 0, none⟩)))], true⟩]) (fun AQ cQ al ga => [Cel AQ N cQ 6 (rowX (fun j => (fun j a d => [.int .u8 ((nb bs (rof bs j) : Nat) : Int), .int .u8 ((nb bs (rof bs j + 1) : Nat) : Int), .int .u16 ((bN bs (rof bs j + 2) 2 : Nat) : Int), .slice (cutA A c (rof bs j + 4)) ((rof bs j + 8) - (rof bs j + 4)) (c - (rof bs j + 4)), .slice a (bN bs (rof bs j + 2) 2) d, .int .u32 ((0 : Nat) : Int)]) j (al j) (ga j)) N), SF al ga (fun j => bN bs (rof bs j + 2) 2) (fun j => rowX (fun t => [.slice (cutA A c ((rof bs j + 8) + (t * 4))) (((rof bs j + 12) + (t * 4)) - ((rof bs j + 8) + (t * 4))) (c - ((rof bs j + 8) + (t * 4)))]) (bN bs (rof bs j + 2) 2)) N])) := by
  have hnc00 : n ≤ c := (hst.fact (j := 0) rfl).2.1
  have hbl : n = bs.length := (hst.fact (j := 0) rfl).1
  refine enter (vs := [(.iface 63 (.pointer (some ⟨rb, 0, none⟩))), (.slice A n c), (.iface 199 (.pointer (some ⟨kb, 0, none⟩)))]) Tryz.func96 rfl rfl rfl hst ?_
  refine HT.seq ?_
  refine HT.plain ?_
  refine sAs rfl rfl ?_
  refine send ?_
  refine eseq ?_
  refine HT.seq ?_
  refine HT.plain ?_
  refine sMv rfl rfl ?_
  refine sMv rfl rfl ?_
  refine sMv rfl rfl ?_
  refine sl_ (l_invX4 (vs := [(.slice A n c), (.iface 199 (.pointer (some ⟨kb, 0, none⟩)))]) (Kc := [⟨rb, 179, [some (.slice none 0 0), some (.slice none 0 0), some (.int .u8 ((0 : Nat) : Int)), some (.int .i64 ((0 : Nat) : Int)), some (.int .u16 ((0 : Nat) : Int)), some (.slice none 0 0), some (.bool false), some (.int .u8 ((0 : Nat) : Int)), some (.int .i64 ((0 : Nat) : Int)), some (.slice none 0 0), some (.int .u16 ((0 : Nat) : Int)), some (.int .u16 ((0 : Nat) : Int)), some (.slice none 0 0), some (.int .u8 ((3 : Nat) : Int))], true⟩]) (Bc := [Byt A n c bs]) [0] [0] [Byt A n c bs] (fun AQ cQ al ga => [⟨kb, 201, [some .nilIface], true⟩, (igmp3_dd4_k0 rb bs AQ N cQ)]) (fun AQ cQ al ga => [Byt A n c bs, Cel AQ N cQ 6 (rowX (fun j => (fun j a d => [.int .u8 ((nb bs (rof bs j) : Nat) : Int), .int .u8 ((nb bs (rof bs j + 1) : Nat) : Int), .int .u16 ((bN bs (rof bs j + 2) 2 : Nat) : Int), .slice (cutA A c (rof bs j + 4)) ((rof bs j + 8) - (rof bs j + 4)) (c - (rof bs j + 4)), .slice a (bN bs (rof bs j + 2) 2) d, .int .u32 ((0 : Nat) : Int)]) j (al j) (ga j)) N), SF al ga (fun j => bN bs (rof bs j + 2) 2) (fun j => rowX (fun t => [.slice (cutA A c ((rof bs j + 8) + (t * 4))) (((rof bs j + 12) + (t * 4)) - ((rof bs j + 8) + (t * 4))) (c - ((rof bs j + 8) + (t * 4)))]) (bN bs (rof bs j + 2) 2)) N]) (by decide) rfl (fun w => me_63_DecodeFromBytes _ w) rfl ca_118 (fun _ h => h) rfl rfl rfl rfl (fun w h => igmp3_m2_4 w A n c bs N rb kb (by omega) (by omega) (by omega) hc (by omega) h) (fun _ _ _ _ => rfl) (fun _ _ _ _ => rfl) (fun _ _ _ _ => rfl) (fun _ _ _ _ => rfl) fun AQ cQ al ga hf1 he2 => ?_)
  have hnc3 : N ≤ cQ := by obtain ⟨w, h⟩ := he2; exact (h _ List.mem_cons_self).2.1
  refine sAs rfl rfl ?_
  refine send ?_
  refine eseq ?_
  refine HT.seq ?_
  refine HT.seq ?_
  refine HT.plain ?_
  refine sMv rfl rfl ?_
  refine sqS (q_notNil rfl rfl Tryz.underlying59) rfl ?_
  refine send ?_
  refine eseq ?_
  refine HT.no rfl ?_
  refine HT.skip ?_
  refine eseq ?_
  refine HT.seq ?_
  refine HT.plain ?_
  refine sMv rfl rfl ?_
  refine sMv rfl rfl ?_
  refine sl_ (l_invX0 (vs := [(.iface 63 (.pointer (some ⟨rb, 0, none⟩)))]) (Kc := [⟨kb, 201, [some .nilIface], true⟩]) (Bc := []) [0] [] [Byt A n c bs, Cel AQ N cQ 6 (rowX (fun j => (fun j a d => [.int .u8 ((nb bs (rof bs j) : Nat) : Int), .int .u8 ((nb bs (rof bs j + 1) : Nat) : Int), .int .u16 ((bN bs (rof bs j + 2) 2 : Nat) : Int), .slice (cutA A c (rof bs j + 4)) ((rof bs j + 8) - (rof bs j + 4)) (c - (rof bs j + 4)), .slice a (bN bs (rof bs j + 2) 2) d, .int .u32 ((0 : Nat) : Int)]) j (al j) (ga j)) N), SF al ga (fun j => bN bs (rof bs j + 2) 2) (fun j => rowX (fun t => [.slice (cutA A c ((rof bs j + 8) + (t * 4))) (((rof bs j + 12) + (t * 4)) - ((rof bs j + 8) + (t * 4))) (c - ((rof bs j + 8) + (t * 4)))]) (bN bs (rof bs j + 2) 2)) N] ([(igmp3_dd4_k0 rb bs AQ N cQ), ⟨kb, 201, [some (.iface 63 (.pointer (some ⟨rb, 0, none⟩)))], true⟩]) ([Byt A n c bs, Cel AQ N cQ 6 (rowX (fun j => (fun j a d => [.int .u8 ((nb bs (rof bs j) : Nat) : Int), .int .u8 ((nb bs (rof bs j + 1) : Nat) : Int), .int .u16 ((bN bs (rof bs j + 2) 2 : Nat) : Int), .slice (cutA A c (rof bs j + 4)) ((rof bs j + 8) - (rof bs j + 4)) (c - (rof bs j + 4)), .slice a (bN bs (rof bs j + 2) 2) d, .int .u32 ((0 : Nat) : Int)]) j (al j) (ga j)) N), SF al ga (fun j => bN bs (rof bs j + 2) 2) (fun j => rowX (fun t => [.slice (cutA A c ((rof bs j + 8) + (t * 4))) (((rof bs j + 12) + (t * 4)) - ((rof bs j + 8) + (t * 4))) (c - ((rof bs j + 8) + (t * 4)))]) (bN bs (rof bs j + 2) 2)) N]) (by decide) rfl (fun w => me_199_AddLayer _ w) rfl ca_166 (fun _ h => h) rfl rfl rfl rfl (fun w h => addLayer w kb 63 rb  h) rfl rfl rfl rfl fun hf5 he6 => ?_)
  refine send ?_
  refine eseq ?_
  refine HT.seq ?_
  refine HT.plain ?_
  refine sAs rfl rfl ?_
  refine send ?_
  refine eseq ?_
  refine HT.ret ?_
  exact fun a ha w' hw => fin_ ha (res1 ha Tryz.results96 rfl) ⟨AQ, cQ, al, ga, rfl, hw, (fr1 (hf1 _ List.mem_cons_self) (fr1 (hf1 _ (List.mem_cons_of_mem _ List.mem_cons_self)) fr0))⟩

theorem igmp3_d4 (w : World) (A : Option Addr) (n : Nat) (c : Nat) (bs : List UInt8) (N : Nat) (kb : Nat) (hn : n ≤ 400) (ha : 8 ≤ n) (hb : nb bs 0 = 34) (hc : ∀ i, i < N → rof bs i + 8 ≤ n ∧ nb bs (rof bs i + 1) = 0 ∧ rof bs (i + 1) ≤ n) (hd : bN bs 6 2 = N) (hst : St w [kb] [⟨kb, 201, [some .nilIface], true⟩] [Byt A n c bs] w) : Calls Tryz.prog 87 #[(.slice A n c), (.iface 199 (.pointer (some ⟨kb, 0, none⟩)))] w (CP5 w [kb] [Byt A n c bs] (fun b52 AQ cQ al ga => .nilIface) (fun b52 AQ cQ al ga => [⟨kb, 201, [some (.iface 63 (.pointer (some ⟨b52, 0, none⟩)))], true⟩, ⟨b52, 179, [some (.slice none 0 0), some (.slice none 0 0), some (.int .u8 ((nb bs 0 : Nat) : Int)), some (.int .i64 ((0 : Nat) : Int)), some (.int .u16 ((bN bs 2 2 : Nat) : Int)), some (.slice none 0 0), some (.bool false), some (.int .u8 ((0 : Nat) : Int)), some (.int .i64 ((0 : Nat) : Int)), some (.slice none 0 0), some (.int .u16 ((bN bs 6 2 : Nat) : Int)), some (.int .u16 ((0 : Nat) : Int)), some (.slice AQ N cQ), some (.int .u8 ((3 : Nat) : Int))], true⟩]) (fun b52 AQ cQ al ga => [Cel AQ N cQ 6 (rowX (fun j => (fun j a d => [.int .u8 ((nb bs (rof bs j) : Nat) : Int), .int .u8 ((nb bs (rof bs j + 1) : Nat) : Int), .int .u16 ((bN bs (rof bs j + 2) 2 : Nat) : Int), .slice (cutA A c (rof bs j + 4)) ((rof bs j + 8) - (rof bs j + 4)) (c - (rof bs j + 4)), .slice a (bN bs (rof bs j + 2) 2) d, .int .u32 ((0 : Nat) : Int)]) j (al j) (ga j)) N), SF al ga (fun j => bN bs (rof bs j + 2) 2) (fun j => rowX (fun t => [.slice (cutA A c ((rof bs j + 8) + (t * 4))) (((rof bs j + 12) + (t * 4)) - ((rof bs j + 8) + (t * 4))) (c - ((rof bs j + 8) + (t * 4)))]) (bN bs (rof bs j + 2) 2)) N])) := by
  have hnc00 : n ≤ c := (hst.fact (j := 0) rfl).2.1
  have hbl : n = bs.length := (hst.fact (j := 0) rfl).1
  refine enter (vs := [(.slice A n c), (.iface 199 (.pointer (some ⟨kb, 0, none⟩)))]) Tryz.func87 rfl rfl rfl hst ?_
  refine HT.seq ?_
  refine HT.plain ?_
  refine sAs rfl rfl ?_
  refine send ?_
  refine eseq ?_
  refine HT.seq ?_
  refine HT.seq ?_
  refine HT.plain ?_
  refine sMv rfl rfl ?_
  refine sqS (q_len (len := n) rfl Tryz.underlying22) rfl ?_
  refine sqS (q_F (q_lt (p := n) (q := 1) rfl rfl) (by omega)) rfl ?_
  refine send ?_
  refine eseq ?_
  refine HT.no rfl ?_
  refine HT.skip ?_
  refine eseq ?_
  refine HT.seq ?_
  refine HT.seq ?_
  refine HT.plain ?_
  refine sMv rfl rfl ?_
  refine sqS (q_index (i := 0) (j := 0) rfl rfl Tryz.underlying22 nagg_5 (fun _ h => h) rfl (by omega)) rfl ?_
  refine sqS (q_byte (i := 0) (j := 0) rfl nagg_5 (fun _ h => h) rfl (by omega)) rfl ?_
  refine send ?_
  refine eseq ?_
  refine HT.block ?_
  refine HT.seq ?_
  refine HT.plain ?_
  refine sqS (q_F (q_eq (p := nb bs 0) (q := 17) rfl rfl) (by have := nb_lt bs 0; omega)) rfl ?_
  refine sAs rfl rfl ?_
  refine send ?_
  refine eseq ?_
  refine HT.no rfl ?_
  refine HT.seq ?_
  refine HT.plain ?_
  refine sqS (q_T (q_eq (p := nb bs 0) (q := 34) rfl rfl) (by have := nb_lt bs 0; omega)) rfl ?_
  refine sAs rfl rfl ?_
  refine send ?_
  refine eseq ?_
  refine HT.yes rfl ?_
  refine HT.seq ?_
  refine HT.plain ?_
  refine sqS (q_build (vs := [(12, (.int .u8 ((3 : Nat) : Int)))]) (v := (.agg #[(.slice none 0 0), (.slice none 0 0), (.int .u8 ((0 : Nat) : Int)), (.int .i64 ((0 : Nat) : Int)), (.int .u16 ((0 : Nat) : Int)), (.slice none 0 0), (.bool false), (.int .u8 ((0 : Nat) : Int)), (.int .i64 ((0 : Nat) : Int)), (.slice none 0 0), (.int .u16 ((0 : Nat) : Int)), (.int .u16 ((0 : Nat) : Int)), (.slice none 0 0), (.int .u8 ((3 : Nat) : Int))])) rfl (fun _ => by kernel_rfl)) rfl ?_
  refine sl_ (l_box (by decide) rfl fun b52 => ?_)
  refine sAs rfl rfl ?_
  refine send ?_
  refine eseq ?_
  refine HT.seq ?_
  refine HT.plain ?_
  refine sMv rfl rfl ?_
  refine sqS (q_iface rfl Tryz.underlying63 (fun _ h => nomatch h)) rfl ?_
  refine sMv rfl rfl ?_
  refine sMv rfl rfl ?_
  refine sl_ (l_callX4 (vs := [(.iface 63 (.pointer (some ⟨b52, 0, none⟩))), (.slice A n c), (.iface 199 (.pointer (some ⟨kb, 0, none⟩)))]) (Kc := [⟨b52, 179, [some (.slice none 0 0), some (.slice none 0 0), some (.int .u8 ((0 : Nat) : Int)), some (.int .i64 ((0 : Nat) : Int)), some (.int .u16 ((0 : Nat) : Int)), some (.slice none 0 0), some (.bool false), some (.int .u8 ((0 : Nat) : Int)), some (.int .i64 ((0 : Nat) : Int)), some (.slice none 0 0), some (.int .u16 ((0 : Nat) : Int)), some (.int .u16 ((0 : Nat) : Int)), some (.slice none 0 0), some (.int .u8 ((3 : Nat) : Int))], true⟩, ⟨kb, 201, [some .nilIface], true⟩]) (Bc := [Byt A n c bs]) [1, 0] [0] [Byt A n c bs] (fun AQ cQ al ga => [⟨b52, 179, [some (.slice none 0 0), some (.slice none 0 0), some (.int .u8 ((nb bs 0 : Nat) : Int)), some (.int .i64 ((0 : Nat) : Int)), some (.int .u16 ((bN bs 2 2 : Nat) : Int)), some (.slice none 0 0), some (.bool false), some (.int .u8 ((0 : Nat) : Int)), some (.int .i64 ((0 : Nat) : Int)), some (.slice none 0 0), some (.int .u16 ((bN bs 6 2 : Nat) : Int)), some (.int .u16 ((0 : Nat) : Int)), some (.slice AQ N cQ), some (.int .u8 ((3 : Nat) : Int))], true⟩, ⟨kb, 201, [some (.iface 63 (.pointer (some ⟨b52, 0, none⟩)))], true⟩]) (fun AQ cQ al ga => [Byt A n c bs, Cel AQ N cQ 6 (rowX (fun j => (fun j a d => [.int .u8 ((nb bs (rof bs j) : Nat) : Int), .int .u8 ((nb bs (rof bs j + 1) : Nat) : Int), .int .u16 ((bN bs (rof bs j + 2) 2 : Nat) : Int), .slice (cutA A c (rof bs j + 4)) ((rof bs j + 8) - (rof bs j + 4)) (c - (rof bs j + 4)), .slice a (bN bs (rof bs j + 2) 2) d, .int .u32 ((0 : Nat) : Int)]) j (al j) (ga j)) N), SF al ga (fun j => bN bs (rof bs j + 2) 2) (fun j => rowX (fun t => [.slice (cutA A c ((rof bs j + 8) + (t * 4))) (((rof bs j + 12) + (t * 4)) - ((rof bs j + 8) + (t * 4))) (c - ((rof bs j + 8) + (t * 4)))]) (bN bs (rof bs j + 2) 2)) N]) (by decide) rfl ca_96 (fun _ h => h) rfl rfl rfl rfl (fun w h => igmp3_dd4 w A n c bs N b52 kb (by omega) (by omega) (by omega) hc (by omega) h) (fun _ _ _ _ => rfl) (fun _ _ _ _ => rfl) (fun _ _ _ _ => rfl) (fun _ _ _ _ => rfl) fun AQ cQ al ga hf1 he2 => ?_)
  have hnc3 : N ≤ cQ := by obtain ⟨w, h⟩ := he2; exact (h _ List.mem_cons_self).2.1
  refine sAs rfl rfl ?_
  refine send ?_
  refine eseq ?_
  refine HT.ret ?_
  refine rt_in ?_
  refine rt_then ?_
  exact fun a ha w' hw => fin_ ha (res1 ha Tryz.results87 rfl) ⟨b52, AQ, cQ, al, ga, rfl, (hw.wk [(1, []), (0, [])] rfl), (fr1 (hf1 _ List.mem_cons_self) (fr1 (hf1 _ (List.mem_cons_of_mem _ List.mem_cons_self)) fr0))⟩

theorem igmp3_z4 (w : World) (A : Option Addr) (n : Nat) (c : Nat) (bs : List UInt8) (N : Nat) (hn : n ≤ 400) (ha : 8 ≤ n) (hb : nb bs 0 = 34) (hc : ∀ i, i < N → rof bs i + 8 ≤ n ∧ nb bs (rof bs i + 1) = 0 ∧ rof bs (i + 1) ≤ n) (hd : bN bs 6 2 = N) (hst : St w [] [] [Byt A n c bs] w) : Calls Tryz.prog 58 #[(.string ⟨#[105, 103, 109, 112]⟩), (.slice A n c)] w (CP5 w [] [Byt A n c bs] (fun b52 AQ cQ al ga => (.tuple #[(.iface 63 (.pointer (some ⟨b52, 0, none⟩))), .nilIface])) (fun b52 AQ cQ al ga => [⟨b52, 179, [some (.slice none 0 0), some (.slice none 0 0), some (.int .u8 ((nb bs 0 : Nat) : Int)), some (.int .i64 ((0 : Nat) : Int)), some (.int .u16 ((bN bs 2 2 : Nat) : Int)), some (.slice none 0 0), some (.bool false), some (.int .u8 ((0 : Nat) : Int)), some (.int .i64 ((0 : Nat) : Int)), some (.slice none 0 0), some (.int .u16 ((bN bs 6 2 : Nat) : Int)), some (.int .u16 ((0 : Nat) : Int)), some (.slice AQ N cQ), some (.int .u8 ((3 : Nat) : Int))], true⟩]) (fun b52 AQ cQ al ga => [Cel AQ N cQ 6 (rowX (fun j => (fun j a d => [.int .u8 ((nb bs (rof bs j) : Nat) : Int), .int .u8 ((nb bs (rof bs j + 1) : Nat) : Int), .int .u16 ((bN bs (rof bs j + 2) 2 : Nat) : Int), .slice (cutA A c (rof bs j + 4)) ((rof bs j + 8) - (rof bs j + 4)) (c - (rof bs j + 4)), .slice a (bN bs (rof bs j + 2) 2) d, .int .u32 ((0 : Nat) : Int)]) j (al j) (ga j)) N), SF al ga (fun j => bN bs (rof bs j + 2) 2) (fun j => rowX (fun t => [.slice (cutA A c ((rof bs j + 8) + (t * 4))) (((rof bs j + 12) + (t * 4)) - ((rof bs j + 8) + (t * 4))) (c - ((rof bs j + 8) + (t * 4)))]) (bN bs (rof bs j + 2) 2)) N])) := by
  have hnc00 : n ≤ c := (hst.fact (j := 0) rfl).2.1
  have hbl : n = bs.length := (hst.fact (j := 0) rfl).1
  refine enter (vs := [(.string ⟨#[105, 103, 109, 112]⟩), (.slice A n c)]) Tryz.func58 rfl rfl rfl hst ?_
  refine HT.seq ?_
  refine HT.plain ?_
  refine sAs rfl rfl ?_
  refine sAs rfl rfl ?_
  refine send ?_
  refine eseq ?_
  refine HT.seq ?_
  refine HT.plain ?_
  refine sqS (q_build (vs := []) (v := (.agg #[.nilIface])) rfl (fun _ => by kernel_rfl)) rfl ?_
  refine sl_ (l_box (by decide) rfl fun b9 => ?_)
  refine sAs rfl rfl ?_
  refine send ?_
  refine eseq ?_
  refine HT.seq ?_
  refine HT.plain ?_
  refine sl_ (l_callX1 (vs := [(.string ⟨#[110, 111, 32, 107, 105, 110, 100]⟩)]) (Kc := []) (Bc := []) [] [] [Byt A n c bs] (fun b5 => [⟨b9, 201, [some .nilIface], true⟩, ⟨b5, 206, [some (.string (⟨#[110, 111, 32, 107, 105, 110, 100]⟩))], true⟩]) (fun b5 => [Byt A n c bs]) (by decide) rfl ca_67 (fun _ h => h) rfl rfl rfl rfl (fun w h => errNew w (⟨#[110, 111, 32, 107, 105, 110, 100]⟩)  h) (fun _ => rfl) (fun _ => rfl) (fun _ => rfl) (fun _ => rfl) fun b5 hf1 he2 => ?_)
  refine sAs rfl rfl ?_
  refine send ?_
  refine eseq ?_
  refine HT.seq ?_
  refine HT.seq ?_
  refine HT.plain ?_
  refine sMv rfl rfl ?_
  refine send ?_
  refine eseq ?_
  refine HT.block ?_
  refine HT.seq ?_
  refine HT.plain ?_
  refine sqS (q_eqs rfl rfl (r := false) (by kernel_rfl)) rfl ?_
  refine sAs rfl rfl ?_
  refine send ?_
  refine eseq ?_
  refine HT.no rfl ?_
  refine HT.seq ?_
  refine HT.plain ?_
  refine sqS (q_eqs rfl rfl (r := false) (by kernel_rfl)) rfl ?_
  refine sAs rfl rfl ?_
  refine send ?_
  refine eseq ?_
  refine HT.no rfl ?_
  refine HT.seq ?_
  refine HT.plain ?_
  refine sqS (q_eqs rfl rfl (r := false) (by kernel_rfl)) rfl ?_
  refine sAs rfl rfl ?_
  refine send ?_
  refine eseq ?_
  refine HT.no rfl ?_
  refine HT.seq ?_
  refine HT.plain ?_
  refine sqS (q_eqs rfl rfl (r := false) (by kernel_rfl)) rfl ?_
  refine sAs rfl rfl ?_
  refine send ?_
  refine eseq ?_
  refine HT.no rfl ?_
  refine HT.seq ?_
  refine HT.plain ?_
  refine sqS (q_eqs rfl rfl (r := false) (by kernel_rfl)) rfl ?_
  refine sAs rfl rfl ?_
  refine send ?_
  refine eseq ?_
  refine HT.no rfl ?_
  refine HT.seq ?_
  refine HT.plain ?_
  refine sqS (q_eqs rfl rfl (r := false) (by kernel_rfl)) rfl ?_
  refine sAs rfl rfl ?_
  refine send ?_
  refine eseq ?_
  refine HT.no rfl ?_
  refine HT.seq ?_
  refine HT.plain ?_
  refine sqS (q_eqs rfl rfl (r := false) (by kernel_rfl)) rfl ?_
  refine sAs rfl rfl ?_
  refine send ?_
  refine eseq ?_
  refine HT.no rfl ?_
  refine HT.seq ?_
  refine HT.plain ?_
  refine sqS (q_eqs rfl rfl (r := false) (by kernel_rfl)) rfl ?_
  refine sAs rfl rfl ?_
  refine send ?_
  refine eseq ?_
  refine HT.no rfl ?_
  refine HT.seq ?_
  refine HT.plain ?_
  refine sqS (q_eqs rfl rfl (r := false) (by kernel_rfl)) rfl ?_
  refine sAs rfl rfl ?_
  refine send ?_
  refine eseq ?_
  refine HT.no rfl ?_
  refine HT.seq ?_
  refine HT.plain ?_
  refine sqS (q_eqs rfl rfl (r := false) (by kernel_rfl)) rfl ?_
  refine sAs rfl rfl ?_
  refine send ?_
  refine eseq ?_
  refine HT.no rfl ?_
  refine HT.seq ?_
  refine HT.plain ?_
  refine sqS (q_eqs rfl rfl (r := false) (by kernel_rfl)) rfl ?_
  refine sAs rfl rfl ?_
  refine send ?_
  refine eseq ?_
  refine HT.no rfl ?_
  refine HT.seq ?_
  refine HT.plain ?_
  refine sqS (q_eqs rfl rfl (r := false) (by kernel_rfl)) rfl ?_
  refine sAs rfl rfl ?_
  refine send ?_
  refine eseq ?_
  refine HT.no rfl ?_
  refine HT.seq ?_
  refine HT.plain ?_
  refine sqS (q_eqs rfl rfl (r := false) (by kernel_rfl)) rfl ?_
  refine sAs rfl rfl ?_
  refine send ?_
  refine eseq ?_
  refine HT.no rfl ?_
  refine HT.seq ?_
  refine HT.plain ?_
  refine sqS (q_eqs rfl rfl (r := false) (by kernel_rfl)) rfl ?_
  refine sAs rfl rfl ?_
  refine send ?_
  refine eseq ?_
  refine HT.no rfl ?_
  refine HT.seq ?_
  refine HT.plain ?_
  refine sqS (q_eqs rfl rfl (r := false) (by kernel_rfl)) rfl ?_
  refine sAs rfl rfl ?_
  refine send ?_
  refine eseq ?_
  refine HT.no rfl ?_
  refine HT.seq ?_
  refine HT.plain ?_
  refine sqS (q_eqs rfl rfl (r := false) (by kernel_rfl)) rfl ?_
  refine sAs rfl rfl ?_
  refine send ?_
  refine eseq ?_
  refine HT.no rfl ?_
  refine HT.seq ?_
  refine HT.plain ?_
  refine sqS (q_eqs rfl rfl (r := false) (by kernel_rfl)) rfl ?_
  refine sAs rfl rfl ?_
  refine send ?_
  refine eseq ?_
  refine HT.no rfl ?_
  refine HT.seq ?_
  refine HT.plain ?_
  refine sqS (q_eqs rfl rfl (r := false) (by kernel_rfl)) rfl ?_
  refine sAs rfl rfl ?_
  refine send ?_
  refine eseq ?_
  refine HT.no rfl ?_
  refine HT.seq ?_
  refine HT.plain ?_
  refine sqS (q_eqs rfl rfl (r := false) (by kernel_rfl)) rfl ?_
  refine sAs rfl rfl ?_
  refine send ?_
  refine eseq ?_
  refine HT.no rfl ?_
  refine HT.seq ?_
  refine HT.plain ?_
  refine sqS (q_eqs rfl rfl (r := true) (by kernel_rfl)) rfl ?_
  refine sAs rfl rfl ?_
  refine send ?_
  refine eseq ?_
  refine HT.yes rfl ?_
  refine HT.plain ?_
  refine sMv rfl rfl ?_
  refine sMv rfl rfl ?_
  refine sqS (q_iface rfl Tryz.underlying199 (fun _ h => nomatch h)) rfl ?_
  refine sl_ (l_callX5 (vs := [(.slice A n c), (.iface 199 (.pointer (some ⟨b9, 0, none⟩)))]) (Kc := [⟨b9, 201, [some .nilIface], true⟩]) (Bc := [Byt A n c bs]) [0] [0] [Byt A n c bs] (fun b52 AQ cQ al ga => [⟨b5, 206, [some (.string (⟨#[110, 111, 32, 107, 105, 110, 100]⟩))], true⟩, ⟨b9, 201, [some (.iface 63 (.pointer (some ⟨b52, 0, none⟩)))], true⟩, ⟨b52, 179, [some (.slice none 0 0), some (.slice none 0 0), some (.int .u8 ((nb bs 0 : Nat) : Int)), some (.int .i64 ((0 : Nat) : Int)), some (.int .u16 ((bN bs 2 2 : Nat) : Int)), some (.slice none 0 0), some (.bool false), some (.int .u8 ((0 : Nat) : Int)), some (.int .i64 ((0 : Nat) : Int)), some (.slice none 0 0), some (.int .u16 ((bN bs 6 2 : Nat) : Int)), some (.int .u16 ((0 : Nat) : Int)), some (.slice AQ N cQ), some (.int .u8 ((3 : Nat) : Int))], true⟩]) (fun b52 AQ cQ al ga => [Byt A n c bs, Cel AQ N cQ 6 (rowX (fun j => (fun j a d => [.int .u8 ((nb bs (rof bs j) : Nat) : Int), .int .u8 ((nb bs (rof bs j + 1) : Nat) : Int), .int .u16 ((bN bs (rof bs j + 2) 2 : Nat) : Int), .slice (cutA A c (rof bs j + 4)) ((rof bs j + 8) - (rof bs j + 4)) (c - (rof bs j + 4)), .slice a (bN bs (rof bs j + 2) 2) d, .int .u32 ((0 : Nat) : Int)]) j (al j) (ga j)) N), SF al ga (fun j => bN bs (rof bs j + 2) 2) (fun j => rowX (fun t => [.slice (cutA A c ((rof bs j + 8) + (t * 4))) (((rof bs j + 12) + (t * 4)) - ((rof bs j + 8) + (t * 4))) (c - ((rof bs j + 8) + (t * 4)))]) (bN bs (rof bs j + 2) 2)) N]) (by decide) rfl ca_87 (fun _ h => h) rfl rfl rfl rfl (fun w h => igmp3_d4 w A n c bs N b9 (by omega) (by omega) (by omega) hc (by omega) h) (fun _ _ _ _ _ => rfl) (fun _ _ _ _ _ => rfl) (fun _ _ _ _ _ => rfl) (fun _ _ _ _ _ => rfl) fun b52 AQ cQ al ga hf3 he4 => ?_)
  have hnc5 : N ≤ cQ := by obtain ⟨w, h⟩ := he4; exact (h _ List.mem_cons_self).2.1
  refine sAs rfl rfl ?_
  refine send ?_
  refine ein ?_
  refine eseq ?_
  refine HT.seq ?_
  refine HT.seq ?_
  refine HT.plain ?_
  refine sMv rfl rfl ?_
  refine sqS (q_notNil rfl rfl Tryz.underlying59) rfl ?_
  refine send ?_
  refine eseq ?_
  refine HT.no rfl ?_
  refine HT.skip ?_
  refine eseq ?_
  refine HT.seq ?_
  refine HT.plain ?_
  refine sMv rfl rfl ?_
  refine sqS (q_nil rfl) rfl ?_
  refine sqS (q_field (b := b9) (off := 0) rfl fo_201_0) rfl ?_
  refine sqS (q_load (b := b9) (off := 0) (j := 1) rfl nagg_43 (fun _ h => h) rfl rfl rfl) rfl ?_
  refine sAs rfl rfl ?_
  refine sAs rfl rfl ?_
  refine send ?_
  refine eseq ?_
  refine HT.ret ?_
  exact fun a ha w' hw => fin_ ha (res2 ha Tryz.results58 rfl rfl) ⟨b52, AQ, cQ, al, ga, rfl, (hw.wk [(2, [])] rfl), (fr1 (hf3 _ List.mem_cons_self) (fr1 (hf3 _ (List.mem_cons_of_mem _ List.mem_cons_self)) fr0))⟩

theorem igmp3_e4 (w : World) (A : Option Addr) (n : Nat) (c : Nat) (bs : List UInt8) (N : Nat) (hn : n ≤ 400) (ha : 8 ≤ n) (hb : nb bs 0 = 34) (hc : ∀ i, i < N → rof bs i + 8 ≤ n ∧ nb bs (rof bs i + 1) = 0 ∧ rof bs (i + 1) ≤ n) (hd : bN bs 6 2 = N) (hst : St w [] [] [Byt A n c bs] w) : Calls Tryz.prog 46 #[(.string ⟨#[105, 103, 109, 112, 51]⟩), (.slice A n c)] w (CP7 w [] [Byt A n c bs] (fun b52 A5 c5 AQ cQ al ga => (.tuple #[(.iface 63 (.pointer (some ⟨b52, 0, none⟩))), (.bool true)])) (fun b52 A5 c5 AQ cQ al ga => [⟨b52, 179, [some (.slice none 0 0), some (.slice none 0 0), some (.int .u8 ((nb bs 0 : Nat) : Int)), some (.int .i64 ((0 : Nat) : Int)), some (.int .u16 ((bN bs 2 2 : Nat) : Int)), some (.slice none 0 0), some (.bool false), some (.int .u8 ((0 : Nat) : Int)), some (.int .i64 ((0 : Nat) : Int)), some (.slice none 0 0), some (.int .u16 ((bN bs 6 2 : Nat) : Int)), some (.int .u16 ((0 : Nat) : Int)), some (.slice AQ N cQ), some (.int .u8 ((3 : Nat) : Int))], true⟩]) (fun b52 A5 c5 AQ cQ al ga => [Byt A5 n c5 bs, Cel AQ N cQ 6 (rowX (fun j => (fun j a d => [.int .u8 ((nb bs (rof bs j) : Nat) : Int), .int .u8 ((nb bs (rof bs j + 1) : Nat) : Int), .int .u16 ((bN bs (rof bs j + 2) 2 : Nat) : Int), .slice (cutA A5 c5 (rof bs j + 4)) ((rof bs j + 8) - (rof bs j + 4)) (c5 - (rof bs j + 4)), .slice a (bN bs (rof bs j + 2) 2) d, .int .u32 ((0 : Nat) : Int)]) j (al j) (ga j)) N), SF al ga (fun j => bN bs (rof bs j + 2) 2) (fun j => rowX (fun t => [.slice (cutA A5 c5 ((rof bs j + 8) + (t * 4))) (((rof bs j + 12) + (t * 4)) - ((rof bs j + 8) + (t * 4))) (c5 - ((rof bs j + 8) + (t * 4)))]) (bN bs (rof bs j + 2) 2)) N])) := by
  have hnc00 : n ≤ c := (hst.fact (j := 0) rfl).2.1
  have hbl : n = bs.length := (hst.fact (j := 0) rfl).1
  refine enter (vs := [(.string ⟨#[105, 103, 109, 112, 51]⟩), (.slice A n c)]) Tryz.func46 rfl rfl rfl hst ?_
  refine HT.seq ?_
  refine HT.plain ?_
  refine sAs rfl rfl ?_
  refine sAs rfl rfl ?_
  refine send ?_
  refine eseq ?_
  refine HT.seq ?_
  refine HT.seq ?_
  refine HT.plain ?_
  refine sMv rfl rfl ?_
  refine sqS (q_len (len := n) rfl Tryz.underlying22) rfl ?_
  refine sqS (q_F (q_gt (p := n) (q := 2000) rfl rfl) (by omega)) rfl ?_
  refine send ?_
  refine eseq ?_
  refine HT.no rfl ?_
  refine HT.skip ?_
  refine eseq ?_
  refine HT.seq ?_
  refine HT.plain ?_
  refine sMv rfl rfl ?_
  refine sAs rfl rfl ?_
  refine send ?_
  refine eseq ?_
  refine HT.seq ?_
  refine HT.seq ?_
  refine HT.plain ?_
  refine sMv rfl rfl ?_
  refine sqS (q_eqs rfl rfl (r := false) (by kernel_rfl)) rfl ?_
  refine sMv rfl rfl ?_
  refine sgqS rfl (q_move rfl) rfl ?_
  refine sgqS rfl (q_eqs rfl rfl (r := true) (by kernel_rfl)) rfl ?_
  refine sqS (q_pick rfl (fun h => nomatch h) (fun _ => rfl)) rfl ?_
  refine send ?_
  refine eseq ?_
  refine HT.yes rfl ?_
  refine HT.plain ?_
  refine sAs rfl rfl ?_
  refine send ?_
  refine eseq ?_
  refine HT.seq ?_
  refine HT.seq ?_
  refine HT.plain ?_
  refine sMv rfl rfl ?_
  refine sMv rfl rfl ?_
  refine sqS (q_call (vs := [(.string ⟨#[105, 103, 109, 112, 51]⟩), (.slice A n c)]) (v := (.bool true)) rfl ca_57 (fun w h => igmp3_c4 w A n c bs N (by omega) (by omega) (by omega) hc (by omega) (St.enter (sp := []) (Kc := []) (bi := [0]) h rfl rfl rfl))) rfl ?_
  refine sqS (q_not rfl) rfl ?_
  refine send ?_
  refine eseq ?_
  refine HT.no rfl ?_
  refine HT.skip ?_
  refine eseq ?_
  refine HT.seq ?_
  refine HT.plain ?_
  refine sMv rfl rfl ?_
  refine sMv rfl rfl ?_
  refine sl_ (l_callX2 (vs := [(.slice A n c)]) (Kc := []) (Bc := [Byt A n c bs]) [] [0] [Byt A n c bs] (fun A5 c5 => []) (fun A5 c5 => [Byt A n c bs, Byt A5 n c5 bs]) (by decide) rfl ca_59 (fun _ h => h) rfl rfl rfl rfl (fun w h => Clone w A n c bs (by omega) h) (fun _ _ => rfl) (fun _ _ => rfl) (fun _ _ => rfl) (fun _ _ => rfl) fun A5 c5 hf1 he2 => ?_)
  have hnc3 : n ≤ c5 := by obtain ⟨w, h⟩ := he2; exact (h _ List.mem_cons_self).2.1
  refine sl_ (l_callX5 (vs := [(.string ⟨#[105, 103, 109, 112]⟩), (.slice A5 n c5)]) (Kc := []) (Bc := [Byt A5 n c5 bs]) [] [1] [Byt A n c bs, Byt A5 n c5 bs] (fun b52 AQ cQ al ga => [⟨b52, 179, [some (.slice none 0 0), some (.slice none 0 0), some (.int .u8 ((nb bs 0 : Nat) : Int)), some (.int .i64 ((0 : Nat) : Int)), some (.int .u16 ((bN bs 2 2 : Nat) : Int)), some (.slice none 0 0), some (.bool false), some (.int .u8 ((0 : Nat) : Int)), some (.int .i64 ((0 : Nat) : Int)), some (.slice none 0 0), some (.int .u16 ((bN bs 6 2 : Nat) : Int)), some (.int .u16 ((0 : Nat) : Int)), some (.slice AQ N cQ), some (.int .u8 ((3 : Nat) : Int))], true⟩]) (fun b52 AQ cQ al ga => [Byt A n c bs, Byt A5 n c5 bs, Cel AQ N cQ 6 (rowX (fun j => (fun j a d => [.int .u8 ((nb bs (rof bs j) : Nat) : Int), .int .u8 ((nb bs (rof bs j + 1) : Nat) : Int), .int .u16 ((bN bs (rof bs j + 2) 2 : Nat) : Int), .slice (cutA A5 c5 (rof bs j + 4)) ((rof bs j + 8) - (rof bs j + 4)) (c5 - (rof bs j + 4)), .slice a (bN bs (rof bs j + 2) 2) d, .int .u32 ((0 : Nat) : Int)]) j (al j) (ga j)) N), SF al ga (fun j => bN bs (rof bs j + 2) 2) (fun j => rowX (fun t => [.slice (cutA A5 c5 ((rof bs j + 8) + (t * 4))) (((rof bs j + 12) + (t * 4)) - ((rof bs j + 8) + (t * 4))) (c5 - ((rof bs j + 8) + (t * 4)))]) (bN bs (rof bs j + 2) 2)) N]) (by decide) rfl ca_58 (fun _ h => h) rfl rfl rfl rfl (fun w h => igmp3_z4 w A5 n c5 bs N (by omega) (by omega) (by omega) hc (by omega) h) (fun _ _ _ _ _ => rfl) (fun _ _ _ _ _ => rfl) (fun _ _ _ _ _ => rfl) (fun _ _ _ _ _ => rfl) fun b52 AQ cQ al ga hf4 he5 => ?_)
  have hnc6 : N ≤ cQ := by obtain ⟨w, h⟩ := he5; exact (h _ List.mem_cons_self).2.1
  refine sMv rfl rfl ?_
  refine sqS (q_extract (vs := [(.iface 63 (.pointer (some ⟨b52, 0, none⟩))), .nilIface]) (i := 0) rfl rfl) rfl ?_
  refine sqS (q_extract (vs := [(.iface 63 (.pointer (some ⟨b52, 0, none⟩))), .nilIface]) (i := 1) rfl rfl) rfl ?_
  refine sAs rfl rfl ?_
  refine sAs rfl rfl ?_
  refine send ?_
  refine eseq ?_
  refine HT.seq ?_
  refine HT.seq ?_
  refine HT.plain ?_
  refine sMv rfl rfl ?_
  refine sqS (q_notNil rfl rfl Tryz.underlying59) rfl ?_
  refine sMv rfl rfl ?_
  refine sgqS rfl (q_move rfl) rfl ?_
  refine sgqS rfl (q_isNil' rfl rfl Tryz.underlying43) rfl ?_
  refine sqS (q_pick rfl (fun h => nomatch h) (fun _ => rfl)) rfl ?_
  refine send ?_
  refine eseq ?_
  refine HT.no rfl ?_
  refine HT.skip ?_
  refine eseq ?_
  refine HT.seq ?_
  refine HT.seq ?_
  refine HT.plain ?_
  refine sMv rfl rfl ?_
  refine sqS (q_is rfl Tryz.underlying63 (fun _ h => nomatch h)) rfl ?_
  refine sMv rfl rfl ?_
  refine sqS (q_extract (vs := [(.pointer (some ⟨b52, 0, none⟩)), (.bool true)]) (i := 0) rfl rfl) rfl ?_
  refine sqS (q_extract (vs := [(.pointer (some ⟨b52, 0, none⟩)), (.bool true)]) (i := 1) rfl rfl) rfl ?_
  refine sAs rfl rfl ?_
  refine sAs rfl rfl ?_
  refine send ?_
  refine eseq ?_
  refine HT.seq ?_
  refine HT.plain ?_
  refine sMv rfl rfl ?_
  refine sMv rfl rfl ?_
  refine sqS (q_eqs rfl rfl (r := true) (by kernel_rfl)) rfl ?_
  refine sqS (q_neb rfl rfl Tryz.underlying4) rfl ?_
  refine sMv rfl rfl ?_
  refine sskip rfl rfl ?_
  refine sskip rfl rfl ?_
  refine sqS (q_pick rfl (fun h => nomatch h) (fun _ => rfl)) rfl ?_
  refine send ?_
  refine eseq ?_
  refine HT.no rfl ?_
  refine HT.skip ?_
  refine eseq ?_
  refine HT.seq ?_
  refine HT.plain ?_
  refine sMv rfl rfl ?_
  refine sAs rfl rfl ?_
  refine sAs rfl rfl ?_
  refine send ?_
  refine eseq ?_
  refine HT.ret ?_
  exact fun a ha w' hw => fin_ ha (res2 ha Tryz.results46 rfl rfl) ⟨b52, A5, c5, AQ, cQ, al, ga, rfl, hw, (fr1 (hf1 _ List.mem_cons_self) (fr1 (hf4 _ List.mem_cons_self) (fr1 (hf4 _ (List.mem_cons_of_mem _ List.mem_cons_self)) fr0)))⟩

abbrev igmp3_t4_k0 (b52 : Nat) (bs : List UInt8) (AQ : Option Addr) (N : Nat) (cQ : Nat) : Kb := ⟨b52, 179, [some (.slice none 0 0), some (.slice none 0 0), some (.int .u8 ((nb bs 0 : Nat) : Int)), some (.int .i64 ((0 : Nat) : Int)), some (.int .u16 ((bN bs 2 2 : Nat) : Int)), some (.slice none 0 0), some (.bool false), some (.int .u8 ((0 : Nat) : Int)), some (.int .i64 ((0 : Nat) : Int)), some (.slice none 0 0), some (.int .u16 ((bN bs 6 2 : Nat) : Int)), some (.int .u16 ((0 : Nat) : Int)), some (.slice AQ N cQ), some (.int .u8 ((3 : Nat) : Int))], false⟩
abbrev igmp3_t4_k1 (b1020 : Nat) (bs : List UInt8) : Kb := ⟨b1020, 39, [some (.int .u64 ((nb bs 0 : Nat) : Int)), some (.int .u64 ((0 : Nat) : Int)), some (.int .u64 ((bN bs 2 2 : Nat) : Int)), some (.int .u64 ((bitN false : Nat) : Int)), some (.int .u64 ((0 : Nat) : Int)), some (.int .u64 ((0 : Nat) : Int)), some (.int .u64 ((bN bs 6 2 : Nat) : Int)), some (.int .u64 ((0 : Nat) : Int)), some (.int .u64 ((3 : Nat) : Int))], true⟩
abbrev igmp3_t4_k2 (b38 : Nat) (bs : List UInt8) (i : Nat) (A5 : Option Addr) (c5 : Nat) (al : Nat → Option Addr) (ga : Nat → Nat) : Kb := ⟨b38, 182, [some (.int .u8 ((nb bs (rof bs i) : Nat) : Int)), some (.int .u8 ((nb bs (rof bs i + 1) : Nat) : Int)), some (.int .u16 ((bN bs (rof bs i + 2) 2 : Nat) : Int)), some (.slice (cutA A5 c5 (rof bs i + 4)) ((rof bs i + 8) - (rof bs i + 4)) (c5 - (rof bs i + 4))), some (.slice (al i) (bN bs (rof bs i + 2) 2) (ga i)), some (.int .u32 ((0 : Nat) : Int))], true⟩
abbrev igmp3_t4_k3 (b1075 : Nat) (bs : List UInt8) (i : Nat) : Kb := ⟨b1075, 39, [some (.int .u64 ((nb bs (rof bs i) : Nat) : Int)), some (.int .u64 ((nb bs (rof bs i + 1) : Nat) : Int)), some (.int .u64 ((bN bs (rof bs i + 2) 2 : Nat) : Int)), some (.int .u64 ((0 : Nat) : Int))], true⟩
abbrev igmp3_t4_k4 (b50 : Nat) (b1020 : Nat) (b1029 : Nat) (v : Value) : Kb := ⟨b50, 29, [some (.slice (some ⟨b1020, 0, none⟩) 9 9), some (.slice (some ⟨b1029, 0, none⟩) 1 1), some v, some (.slice none 0 0)], true⟩
abbrev igmp3_t4_k5 (b4 : Nat) : Kb := ⟨b4, 29, [some (.slice none 0 0), some (.slice none 0 0), some (.slice none 0 0), some (.slice none 0 0)], true⟩
abbrev igmp3_t4_k6 (b39 : Nat) (b1075 : Nat) (AD : Option Addr) (bs : List UInt8) (i : Nat) (cD : Nat) : Kb := ⟨b39, 49, [some (.slice (some ⟨b1075, 0, none⟩) 4 4), some (.slice AD (4 + 4 * bN bs (rof bs i + 2) 2) cD)], true⟩
abbrev igmp3_t4_k7 (b1099 : Nat) (b1075 : Nat) (AD : Option Addr) (bs : List UInt8) (i : Nat) (cD : Nat) : Kb := ⟨b1099, 49, [some (.slice (some ⟨b1075, 0, none⟩) 4 4), some (.slice AD (4 + 4 * bN bs (rof bs i + 2) 2) cD)], true⟩
abbrev igmp3_t4_k8 (b39 : Nat) (b1075 : Nat) (Ad : Option Addr) (bs : List UInt8) (i : Nat) (cd : Nat) : Kb := ⟨b39, 49, [some (.slice (some ⟨b1075, 0, none⟩) 4 4), some (.slice Ad ((rof bs i + 8) - (rof bs i + 4)) cd)], true⟩
abbrev igmp3_t4_k9 (b50 : Nat) (b1020 : Nat) (b1029 : Nat) (v1100 : Value) : Kb := ⟨b50, 29, [some (.slice (some ⟨b1020, 0, none⟩) 9 9), some (.slice (some ⟨b1029, 0, none⟩) 1 1), some v1100, some (.slice none 0 0)], true⟩

theorem igmp3_t4 (w : World) (A5 : Option Addr) (n : Nat) (c5 : Nat) (bs : List UInt8) (N : Nat) (b52 : Nat) (AQ : Option Addr) (cQ : Nat) (al : Nat → Option Addr) (ga : Nat → Nat) (hn : n ≤ 400) (ha : 8 ≤ n) (hb : nb bs 0 = 34) (hc : ∀ i, i < N → rof bs i + 8 ≤ n ∧ nb bs (rof bs i + 1) = 0 ∧ rof bs (i + 1) ≤ n) (hd : bN bs 6 2 = N) (hst : St w [] [(igmp3_t4_k0 b52 bs AQ N cQ)] [Byt A5 n c5 bs, Cel AQ N cQ 6 (rowX (fun j => (fun j a d => [.int .u8 ((nb bs (rof bs j) : Nat) : Int), .int .u8 ((nb bs (rof bs j + 1) : Nat) : Int), .int .u16 ((bN bs (rof bs j + 2) 2 : Nat) : Int), .slice (cutA A5 c5 (rof bs j + 4)) ((rof bs j + 8) - (rof bs j + 4)) (c5 - (rof bs j + 4)), .slice a (bN bs (rof bs j + 2) 2) d, .int .u32 ((0 : Nat) : Int)]) j (al j) (ga j)) N), SF al ga (fun j => bN bs (rof bs j + 2) 2) (fun j => rowX (fun t => [.slice (cutA A5 c5 ((rof bs j + 8) + (t * 4))) (((rof bs j + 12) + (t * 4)) - ((rof bs j + 8) + (t * 4))) (c5 - ((rof bs j + 8) + (t * 4)))]) (bN bs (rof bs j + 2) 2)) N] w) : Calls Tryz.prog 47 #[(.iface 63 (.pointer (some ⟨b52, 0, none⟩))), (.slice none 0 0)] w (IP w (Byt A5 n c5 bs) (some (some ⟨[nb bs 0, 0, bN bs 2 2, 0, 0, 0, bN bs 6 2, 0, 3], [[]], ((List.range N).map (fun j => ([nb bs (rof bs j), 0, bN bs (rof bs j + 2) 2, 0], sl bs (rof bs j + 4) (rof bs (j + 1))))), []⟩))) := by
  have hnc00 : n ≤ c5 := (hst.fact (j := 0) rfl).2.1
  have hbl : n = bs.length := (hst.fact (j := 0) rfl).1
  refine enter (vs := [(.iface 63 (.pointer (some ⟨b52, 0, none⟩))), (.slice none 0 0)]) Tryz.func47 rfl rfl rfl hst ?_
  refine HT.seq ?_
  refine HT.plain ?_
  refine sl_ (l_alloc (by decide) zero_29 fun b4 => ?_)
  refine sAs rfl rfl ?_
  refine send ?_
  refine eseq ?_
  refine HT.seq ?_
  refine HT.plain ?_
  refine sMv rfl rfl ?_
  refine sqS (q_call (vs := [(.slice none 0 0)]) (v := (.slice none 0 0)) rfl ca_60 (fun w h => cloneNil w   (St.enter (sp := []) (Kc := []) (bi := []) h rfl rfl rfl))) rfl ?_
  refine sqS (q_build (vs := [(3, (.slice none 0 0))]) (v := (.agg #[(.slice none 0 0), (.slice none 0 0), (.slice none 0 0), (.slice none 0 0)])) rfl (fun _ => by kernel_rfl)) rfl ?_
  refine sl_ (l_box (by decide) rfl fun b50 => ?_)
  refine sAs rfl rfl ?_
  refine send ?_
  refine eseq ?_
  refine HT.seq ?_
  refine HT.seq ?_
  refine HT.plain ?_
  refine sMv rfl rfl ?_
  refine send ?_
  refine eseq ?_
  refine HT.block ?_
  refine HT.seq ?_
  refine HT.plain ?_
  refine sqS (q_isnt (T := 63) (z := (.pointer none)) rfl Tryz.underlying66 (fun _ h => nomatch h) (by decide) zero_66) rfl ?_
  refine sqS (q_extract (vs := [(.pointer none), (.bool false)]) (i := 1) rfl rfl) rfl ?_
  refine sqS (q_extract (vs := [(.pointer none), (.bool false)]) (i := 0) rfl rfl) rfl ?_
  refine send ?_
  refine eseq ?_
  refine HT.no rfl ?_
  refine HT.seq ?_
  refine HT.plain ?_
  refine sqS (q_isnt (T := 63) (z := (.pointer none)) rfl Tryz.underlying73 (fun _ h => nomatch h) (by decide) zero_73) rfl ?_
  refine sqS (q_extract (vs := [(.pointer none), (.bool false)]) (i := 1) rfl rfl) rfl ?_
  refine sqS (q_extract (vs := [(.pointer none), (.bool false)]) (i := 0) rfl rfl) rfl ?_
  refine send ?_
  refine eseq ?_
  refine HT.no rfl ?_
  refine HT.seq ?_
  refine HT.plain ?_
  refine sqS (q_isnt (T := 63) (z := (.pointer none)) rfl Tryz.underlying78 (fun _ h => nomatch h) (by decide) zero_78) rfl ?_
  refine sqS (q_extract (vs := [(.pointer none), (.bool false)]) (i := 1) rfl rfl) rfl ?_
  refine sqS (q_extract (vs := [(.pointer none), (.bool false)]) (i := 0) rfl rfl) rfl ?_
  refine send ?_
  refine eseq ?_
  refine HT.no rfl ?_
  refine HT.seq ?_
  refine HT.plain ?_
  refine sqS (q_isnt (T := 63) (z := (.pointer none)) rfl Tryz.underlying81 (fun _ h => nomatch h) (by decide) zero_81) rfl ?_
  refine sqS (q_extract (vs := [(.pointer none), (.bool false)]) (i := 1) rfl rfl) rfl ?_
  refine sqS (q_extract (vs := [(.pointer none), (.bool false)]) (i := 0) rfl rfl) rfl ?_
  refine send ?_
  refine eseq ?_
  refine HT.no rfl ?_
  refine HT.seq ?_
  refine HT.plain ?_
  refine sqS (q_isnt (T := 63) (z := (.pointer none)) rfl Tryz.underlying85 (fun _ h => nomatch h) (by decide) zero_85) rfl ?_
  refine sqS (q_extract (vs := [(.pointer none), (.bool false)]) (i := 1) rfl rfl) rfl ?_
  refine sqS (q_extract (vs := [(.pointer none), (.bool false)]) (i := 0) rfl rfl) rfl ?_
  refine send ?_
  refine eseq ?_
  refine HT.no rfl ?_
  refine HT.seq ?_
  refine HT.plain ?_
  refine sqS (q_isnt (T := 63) (z := (.pointer none)) rfl Tryz.underlying89 (fun _ h => nomatch h) (by decide) zero_89) rfl ?_
  refine sqS (q_extract (vs := [(.pointer none), (.bool false)]) (i := 1) rfl rfl) rfl ?_
  refine sqS (q_extract (vs := [(.pointer none), (.bool false)]) (i := 0) rfl rfl) rfl ?_
  refine send ?_
  refine eseq ?_
  refine HT.no rfl ?_
  refine HT.seq ?_
  refine HT.plain ?_
  refine sqS (q_isnt (T := 63) (z := (.pointer none)) rfl Tryz.underlying94 (fun _ h => nomatch h) (by decide) zero_94) rfl ?_
  refine sqS (q_extract (vs := [(.pointer none), (.bool false)]) (i := 1) rfl rfl) rfl ?_
  refine sqS (q_extract (vs := [(.pointer none), (.bool false)]) (i := 0) rfl rfl) rfl ?_
  refine send ?_
  refine eseq ?_
  refine HT.no rfl ?_
  refine HT.seq ?_
  refine HT.plain ?_
  refine sqS (q_isnt (T := 63) (z := (.pointer none)) rfl Tryz.underlying95 (fun _ h => nomatch h) (by decide) zero_95) rfl ?_
  refine sqS (q_extract (vs := [(.pointer none), (.bool false)]) (i := 1) rfl rfl) rfl ?_
  refine sqS (q_extract (vs := [(.pointer none), (.bool false)]) (i := 0) rfl rfl) rfl ?_
  refine send ?_
  refine eseq ?_
  refine HT.no rfl ?_
  refine HT.seq ?_
  refine HT.plain ?_
  refine sqS (q_isnt (T := 63) (z := (.pointer none)) rfl Tryz.underlying99 (fun _ h => nomatch h) (by decide) zero_99) rfl ?_
  refine sqS (q_extract (vs := [(.pointer none), (.bool false)]) (i := 1) rfl rfl) rfl ?_
  refine sqS (q_extract (vs := [(.pointer none), (.bool false)]) (i := 0) rfl rfl) rfl ?_
  refine send ?_
  refine eseq ?_
  refine HT.no rfl ?_
  refine HT.seq ?_
  refine HT.plain ?_
  refine sqS (q_isnt (T := 63) (z := (.pointer none)) rfl Tryz.underlying105 (fun _ h => nomatch h) (by decide) zero_105) rfl ?_
  refine sqS (q_extract (vs := [(.pointer none), (.bool false)]) (i := 1) rfl rfl) rfl ?_
  refine sqS (q_extract (vs := [(.pointer none), (.bool false)]) (i := 0) rfl rfl) rfl ?_
  refine send ?_
  refine eseq ?_
  refine HT.no rfl ?_
  refine HT.seq ?_
  refine HT.plain ?_
  refine sqS (q_isnt (T := 63) (z := (.pointer none)) rfl Tryz.underlying110 (fun _ h => nomatch h) (by decide) zero_110) rfl ?_
  refine sqS (q_extract (vs := [(.pointer none), (.bool false)]) (i := 1) rfl rfl) rfl ?_
  refine sqS (q_extract (vs := [(.pointer none), (.bool false)]) (i := 0) rfl rfl) rfl ?_
  refine send ?_
  refine eseq ?_
  refine HT.no rfl ?_
  refine HT.seq ?_
  refine HT.plain ?_
  refine sqS (q_isnt (T := 63) (z := (.pointer none)) rfl Tryz.underlying114 (fun _ h => nomatch h) (by decide) zero_114) rfl ?_
  refine sqS (q_extract (vs := [(.pointer none), (.bool false)]) (i := 1) rfl rfl) rfl ?_
  refine sqS (q_extract (vs := [(.pointer none), (.bool false)]) (i := 0) rfl rfl) rfl ?_
  refine send ?_
  refine eseq ?_
  refine HT.no rfl ?_
  refine HT.seq ?_
  refine HT.plain ?_
  refine sqS (q_isnt (T := 63) (z := (.pointer none)) rfl Tryz.underlying121 (fun _ h => nomatch h) (by decide) zero_121) rfl ?_
  refine sqS (q_extract (vs := [(.pointer none), (.bool false)]) (i := 1) rfl rfl) rfl ?_
  refine sqS (q_extract (vs := [(.pointer none), (.bool false)]) (i := 0) rfl rfl) rfl ?_
  refine send ?_
  refine eseq ?_
  refine HT.no rfl ?_
  refine HT.seq ?_
  refine HT.plain ?_
  refine sqS (q_isnt (T := 63) (z := (.pointer none)) rfl Tryz.underlying127 (fun _ h => nomatch h) (by decide) zero_127) rfl ?_
  refine sqS (q_extract (vs := [(.pointer none), (.bool false)]) (i := 1) rfl rfl) rfl ?_
  refine sqS (q_extract (vs := [(.pointer none), (.bool false)]) (i := 0) rfl rfl) rfl ?_
  refine send ?_
  refine eseq ?_
  refine HT.no rfl ?_
  refine HT.seq ?_
  refine HT.plain ?_
  refine sqS (q_isnt (T := 63) (z := (.pointer none)) rfl Tryz.underlying130 (fun _ h => nomatch h) (by decide) zero_130) rfl ?_
  refine sqS (q_extract (vs := [(.pointer none), (.bool false)]) (i := 1) rfl rfl) rfl ?_
  refine sqS (q_extract (vs := [(.pointer none), (.bool false)]) (i := 0) rfl rfl) rfl ?_
  refine send ?_
  refine eseq ?_
  refine HT.no rfl ?_
  refine HT.seq ?_
  refine HT.plain ?_
  refine sqS (q_isnt (T := 63) (z := (.pointer none)) rfl Tryz.underlying133 (fun _ h => nomatch h) (by decide) zero_133) rfl ?_
  refine sqS (q_extract (vs := [(.pointer none), (.bool false)]) (i := 1) rfl rfl) rfl ?_
  refine sqS (q_extract (vs := [(.pointer none), (.bool false)]) (i := 0) rfl rfl) rfl ?_
  refine send ?_
  refine eseq ?_
  refine HT.no rfl ?_
  refine HT.seq ?_
  refine HT.plain ?_
  refine sqS (q_isnt (T := 63) (z := (.pointer none)) rfl Tryz.underlying137 (fun _ h => nomatch h) (by decide) zero_137) rfl ?_
  refine sqS (q_extract (vs := [(.pointer none), (.bool false)]) (i := 1) rfl rfl) rfl ?_
  refine sqS (q_extract (vs := [(.pointer none), (.bool false)]) (i := 0) rfl rfl) rfl ?_
  refine send ?_
  refine eseq ?_
  refine HT.no rfl ?_
  refine HT.seq ?_
  refine HT.plain ?_
  refine sqS (q_isnt (T := 63) (z := (.pointer none)) rfl Tryz.underlying153 (fun _ h => nomatch h) (by decide) zero_153) rfl ?_
  refine sqS (q_extract (vs := [(.pointer none), (.bool false)]) (i := 1) rfl rfl) rfl ?_
  refine sqS (q_extract (vs := [(.pointer none), (.bool false)]) (i := 0) rfl rfl) rfl ?_
  refine send ?_
  refine eseq ?_
  refine HT.no rfl ?_
  refine HT.seq ?_
  refine HT.plain ?_
  refine sqS (q_isnt (T := 63) (z := (.pointer none)) rfl Tryz.underlying165 (fun _ h => nomatch h) (by decide) zero_165) rfl ?_
  refine sqS (q_extract (vs := [(.pointer none), (.bool false)]) (i := 1) rfl rfl) rfl ?_
  refine sqS (q_extract (vs := [(.pointer none), (.bool false)]) (i := 0) rfl rfl) rfl ?_
  refine send ?_
  refine eseq ?_
  refine HT.no rfl ?_
  refine HT.seq ?_
  refine HT.plain ?_
  refine sqS (q_isnt (T := 63) (z := (.pointer none)) rfl Tryz.underlying172 (fun _ h => nomatch h) (by decide) zero_172) rfl ?_
  refine sqS (q_extract (vs := [(.pointer none), (.bool false)]) (i := 1) rfl rfl) rfl ?_
  refine sqS (q_extract (vs := [(.pointer none), (.bool false)]) (i := 0) rfl rfl) rfl ?_
  refine send ?_
  refine eseq ?_
  refine HT.no rfl ?_
  refine HT.seq ?_
  refine HT.plain ?_
  refine sqS (q_is rfl Tryz.underlying63 (fun _ h => nomatch h)) rfl ?_
  refine sqS (q_extract (vs := [(.pointer (some ⟨b52, 0, none⟩)), (.bool true)]) (i := 1) rfl rfl) rfl ?_
  refine sqS (q_extract (vs := [(.pointer (some ⟨b52, 0, none⟩)), (.bool true)]) (i := 0) rfl rfl) rfl ?_
  refine send ?_
  refine eseq ?_
  refine HT.yes rfl ?_
  refine HT.seq ?_
  refine HT.plain ?_
  refine sAs rfl rfl ?_
  refine send ?_
  refine eseq ?_
  refine HT.seq ?_
  refine HT.drawn mixed (St.closed _ _ _ _) (St w [] [(igmp3_t4_k0 b52 bs AQ N cQ), (igmp3_t4_k5 b4), ⟨b50, 29, [none, some (.slice none 0 0), some (.slice none 0 0), some (.slice none 0 0)], true⟩] [Byt A5 n c5 bs, Cel AQ N cQ 6 (rowX (fun j => (fun j a d => [.int .u8 ((nb bs (rof bs j) : Nat) : Int), .int .u8 ((nb bs (rof bs j + 1) : Nat) : Int), .int .u16 ((bN bs (rof bs j + 2) 2 : Nat) : Int), .slice (cutA A5 c5 (rof bs j + 4)) ((rof bs j + 8) - (rof bs j + 4)) (c5 - (rof bs j + 4)), .slice a (bN bs (rof bs j + 2) 2) d, .int .u32 ((0 : Nat) : Int)]) j (al j) (ga j)) N), SF al ga (fun j => bN bs (rof bs j + 2) 2) (fun j => rowX (fun t => [.slice (cutA A5 c5 ((rof bs j + 8) + (t * 4))) (((rof bs j + 12) + (t * 4)) - ((rof bs j + 8) + (t * 4))) (c5 - ((rof bs j + 8) + (t * 4)))]) (bN bs (rof bs j + 2) 2)) N]) ?_
  refine dtake (f := 4) [0, 1, 2, 3, 4, 5, 6, 7, 8, 9, 10, 11, 12, 13, 14, 15, 16, 17, 18, 19, 20, 21, 22, 23, 24, 25, 26, 27, 28, 29, 30, 31, 32, 33, 34, 35, 36, 37, 38, 39, 40, 41, 42, 43, 44, 45] (by kernel_rfl) (St.closed _ _ _ _) (fun _ h => (h.wk [(0, []), (1, []), (2, [0])] rfl)) (by kernel_rfl) ?_
  refine dq rfl (q_move rfl) ?_
  refine dq rfl (q_move rfl) ?_
  refine dq rfl (q_nil rfl) ?_
  refine dq rfl (q_field (b := b52) (off := 0) rfl fo_179_1) ?_
  refine dq rfl (q_load (b := b52) (off := 2) (j := 0) rfl nagg_173 (fun _ h => h) rfl rfl rfl) ?_
  refine dq rfl (q_convn (p := nb bs 0) rfl Tryz.underlying173 Tryz.underlying39 (show nb bs 0 < 18446744073709551616 by have := nb_lt bs 0; omega)) ?_
  refine dq rfl (q_move rfl) ?_
  refine dq rfl (q_nil rfl) ?_
  refine dq rfl (q_field (b := b52) (off := 0) rfl fo_179_2) ?_
  refine dq rfl (q_load (b := b52) (off := 3) (j := 0) rfl nagg_174 (fun _ h => h) rfl rfl rfl) ?_
  refine dq rfl (q_convn (p := 0) rfl Tryz.underlying174 Tryz.underlying39 (by decide)) ?_
  refine dq rfl (q_move rfl) ?_
  refine dq rfl (q_nil rfl) ?_
  refine dq rfl (q_field (b := b52) (off := 0) rfl fo_179_3) ?_
  refine dq rfl (q_load (b := b52) (off := 4) (j := 0) rfl nagg_70 (fun _ h => h) rfl rfl rfl) ?_
  refine dq rfl (q_convn (p := bN bs 2 2) rfl Tryz.underlying70 Tryz.underlying39 (show bN bs 2 2 < 18446744073709551616 by have := bN_lt bs 2 2 65536 rfl; omega)) ?_
  refine dq rfl (q_move rfl) ?_
  refine dq rfl (q_nil rfl) ?_
  refine dq rfl (q_field (b := b52) (off := 0) rfl fo_179_5) ?_
  refine dq rfl (q_load (b := b52) (off := 6) (j := 0) rfl nagg_4 (fun _ h => h) rfl rfl rfl) ?_
  refine dq rfl (q_call (vs := [(.bool false)]) (v := (.int .u64 ((bitN false : Nat) : Int))) rfl ca_61 (fun w h => bitC w false  (St.enter (sp := []) (Kc := []) (bi := []) h rfl rfl rfl))) ?_
  refine dq rfl (q_move rfl) ?_
  refine dq rfl (q_nil rfl) ?_
  refine dq rfl (q_field (b := b52) (off := 0) rfl fo_179_6) ?_
  refine dq rfl (q_load (b := b52) (off := 7) (j := 0) rfl nagg_5 (fun _ h => h) rfl rfl rfl) ?_
  refine dq rfl (q_convn (p := 0) rfl Tryz.underlying5 Tryz.underlying39 (by decide)) ?_
  refine dq rfl (q_move rfl) ?_
  refine dq rfl (q_nil rfl) ?_
  refine dq rfl (q_field (b := b52) (off := 0) rfl fo_179_7) ?_
  refine dq rfl (q_load (b := b52) (off := 8) (j := 0) rfl nagg_174 (fun _ h => h) rfl rfl rfl) ?_
  refine dq rfl (q_convn (p := 0) rfl Tryz.underlying174 Tryz.underlying39 (by decide)) ?_
  refine dq rfl (q_move rfl) ?_
  refine dq rfl (q_nil rfl) ?_
  refine dq rfl (q_field (b := b52) (off := 0) rfl fo_179_9) ?_
  refine dq rfl (q_load (b := b52) (off := 10) (j := 0) rfl nagg_70 (fun _ h => h) rfl rfl rfl) ?_
  refine dq rfl (q_convn (p := bN bs 6 2) rfl Tryz.underlying70 Tryz.underlying39 (show bN bs 6 2 < 18446744073709551616 by have := bN_lt bs 6 2 65536 rfl; omega)) ?_
  refine dq rfl (q_move rfl) ?_
  refine dq rfl (q_nil rfl) ?_
  refine dq rfl (q_field (b := b52) (off := 0) rfl fo_179_10) ?_
  refine dq rfl (q_load (b := b52) (off := 11) (j := 0) rfl nagg_70 (fun _ h => h) rfl rfl rfl) ?_
  refine dq rfl (q_convn (p := 0) rfl Tryz.underlying70 Tryz.underlying39 (by decide)) ?_
  refine dq rfl (q_move rfl) ?_
  refine dq rfl (q_nil rfl) ?_
  refine dq rfl (q_field (b := b52) (off := 0) rfl fo_179_12) ?_
  refine dq rfl (q_load (b := b52) (off := 13) (j := 0) rfl nagg_5 (fun _ h => h) rfl rfl rfl) ?_
  refine dq rfl (q_convn (p := 3) rfl Tryz.underlying5 Tryz.underlying39 (by decide)) ?_
  refine QL.nil ?_
  refine RG.step1 46 (by kernel_rfl) ?_
  refine dop rfl (l_buildSlice (e := 39) (vs := [(0, (.int .u64 ((nb bs 0 : Nat) : Int))), (1, (.int .u64 ((0 : Nat) : Int))), (2, (.int .u64 ((bN bs 2 2 : Nat) : Int))), (3, (.int .u64 ((bitN false : Nat) : Int))), (4, (.int .u64 ((0 : Nat) : Int))), (5, (.int .u64 ((0 : Nat) : Int))), (6, (.int .u64 ((bN bs 6 2 : Nat) : Int))), (7, (.int .u64 ((0 : Nat) : Int))), (8, (.int .u64 ((3 : Nat) : Int)))]) (cs := [(.int .u64 ((nb bs 0 : Nat) : Int)), (.int .u64 ((0 : Nat) : Int)), (.int .u64 ((bN bs 2 2 : Nat) : Int)), (.int .u64 ((bitN false : Nat) : Int)), (.int .u64 ((0 : Nat) : Int)), (.int .u64 ((0 : Nat) : Int)), (.int .u64 ((bN bs 6 2 : Nat) : Int)), (.int .u64 ((0 : Nat) : Int)), (.int .u64 ((3 : Nat) : Int))]) (by decide) rfl (fun _ => by kernel_rfl) fun b1020 => ⟨(fun _ h => (h.wk [(0, []), (1, []), (2, [0])] rfl)), ?_⟩)
  refine dtake (f := 1) [47, 48] (by kernel_rfl) (St.closed _ _ _ _) (fun _ h => (h.wk [(0, []), (1, []), (2, [0])] rfl)) (by kernel_rfl) ?_
  refine dq rfl (q_nil rfl) ?_
  refine dq rfl (q_field (b := b50) (off := 0) rfl fo_29_0) ?_
  refine QL.nil ?_
  refine RG.step1 49 (by kernel_rfl) ?_
  refine dop rfl (l_store (b := b50) (off := 0) (j := 2) rfl rfl nagg_25 rfl rfl rfl rfl (dlt rfl) ⟨(fun _ h => (h.wk [(0, []), (1, []), (2, [0])] rfl)), ?_⟩)
  refine dend (by kernel_rfl) ?_
  refine eseq ?_
  refine HT.seq ?_
  refine HT.plain ?_
  refine sMv rfl rfl ?_
  refine sMv rfl rfl ?_
  refine sqS (q_nil rfl) rfl ?_
  refine sqS (q_field (b := b52) (off := 0) rfl fo_179_4) rfl ?_
  refine sqS (q_load (b := b52) (off := 5) (j := 0) rfl nagg_171 (fun _ h => h) rfl rfl rfl) rfl ?_
  refine sqS (q_call (vs := [(.slice none 0 0)]) (v := (.slice none 0 0)) rfl ca_60 (fun w h => cloneNil w   (St.enter (sp := []) (Kc := []) (bi := []) h rfl rfl rfl))) rfl ?_
  refine sl_ (l_buildSlice (e := 22) (vs := [(0, (.slice none 0 0))]) (cs := [(.slice none 0 0)]) (by decide) rfl (fun _ => by kernel_rfl) fun b1029 => ?_)
  refine sqS (q_nil rfl) rfl ?_
  refine sqS (q_field (b := b50) (off := 0) rfl fo_29_1) rfl ?_
  refine sl_ (l_store (b := b50) (off := 1) (j := 2) rfl rfl nagg_26 rfl rfl rfl rfl (dlt rfl) ?_)
  refine send ?_
  refine eseq ?_
  refine HT.seq ?_
  refine HT.seq ?_
  refine HT.plain ?_
  refine sMv rfl rfl ?_
  refine sqS (q_nil rfl) rfl ?_
  refine sqS (q_field (b := b52) (off := 0) rfl fo_179_8) rfl ?_
  refine sqS (q_load (b := b52) (off := 9) (j := 0) rfl nagg_168 (fun _ h => h) rfl rfl rfl) rfl ?_
  refine sqS (q_len (len := 0) rfl Tryz.underlying168) rfl ?_
  refine sMv rfl rfl ?_
  refine send ?_
  refine eseq ?_
  refine HT.block ?_
  refine HT.loop (ι := Unit) (fun _ => [(4, (.pointer (some ⟨b4, 0, none⟩))), (5, (.bool false)), (6, (.pointer (some ⟨b50, 0, none⟩))), (34, (.pointer (some ⟨b52, 0, none⟩))), (1035, (.slice none 0 0)), (1036, (.int .i64 ((0 : Nat) : Int))), (1037, (.int .i64 ((0 : Nat) : Int)))]) (fun _ => St w [] [(igmp3_t4_k0 b52 bs AQ N cQ), (igmp3_t4_k5 b4), ⟨b50, 29, [some (.slice (some ⟨b1020, 0, none⟩) 9 9), some (.slice (some ⟨b1029, 0, none⟩) 1 1), some (.slice none 0 0), some (.slice none 0 0)], true⟩, (igmp3_t4_k1 b1020 bs), ⟨b1029, 22, [some (.slice none 0 0)], true⟩] [Byt A5 n c5 bs, Cel AQ N cQ 6 (rowX (fun j => (fun j a d => [.int .u8 ((nb bs (rof bs j) : Nat) : Int), .int .u8 ((nb bs (rof bs j + 1) : Nat) : Int), .int .u16 ((bN bs (rof bs j + 2) 2 : Nat) : Int), .slice (cutA A5 c5 (rof bs j + 4)) ((rof bs j + 8) - (rof bs j + 4)) (c5 - (rof bs j + 4)), .slice a (bN bs (rof bs j + 2) 2) d, .int .u32 ((0 : Nat) : Int)]) j (al j) (ga j)) N), SF al ga (fun j => bN bs (rof bs j + 2) 2) (fun j => rowX (fun t => [.slice (cutA A5 c5 ((rof bs j + 8) + (t * 4))) (((rof bs j + 12) + (t * 4)) - ((rof bs j + 8) + (t * 4))) (c5 - ((rof bs j + 8) + (t * 4)))]) (bN bs (rof bs j + 2) 2)) N]) (fun _ => 0) () ⟨rfl, rfl, rfl, rfl, rfl, rfl, rfl, trivial⟩ (fun _ h => h) fun _ => ?_
  refine HT.seq ?_
  refine HT.plain ?_
  refine sqS (q_F (q_lt (p := 0) (q := 0) rfl rfl) (by decide)) rfl ?_
  refine send ?_
  refine eseq ?_
  refine HT.seq ?_
  refine HT.no rfl ?_
  refine HT.exit ?_
  refine ex_then ?_
  refine ex_then ?_
  refine ex_in ?_
  refine eseq ?_
  refine HT.seq ?_
  refine HT.plain ?_
  refine sMv rfl rfl ?_
  refine sqS (q_nil rfl) rfl ?_
  refine sqS (q_field (b := b52) (off := 0) rfl fo_179_11) rfl ?_
  refine sqS (q_load (b := b52) (off := 12) (j := 0) rfl nagg_177 (fun _ h => h) rfl rfl rfl) rfl ?_
  refine sqS (q_len (len := N) rfl Tryz.underlying177) rfl ?_
  refine sMv rfl rfl ?_
  refine send ?_
  refine eseq ?_
  refine HT.block ?_
  refine HT.loop (ι := {p : Nat × Value × List Kb × List (NI × BI) // TSt w.heap.size (fun j => ([nb bs (rof bs j), 0, bN bs (rof bs j + 2) 2, 0], sl bs (rof bs j + 4) (rof bs (j + 1)))) N p.1 p.2.1 p.2.2.1 p.2.2.2}) (fun p => [(4, (.pointer (some ⟨b4, 0, none⟩))), (5, (.bool false)), (6, (.pointer (some ⟨b50, 0, none⟩))), (1057, (.slice AQ N cQ)), (1058, (.int .i64 ((N : Nat) : Int))), (1059, (.int .i64 ((p.1.1 : Nat) : Int)))]) (fun p => St w [] ([(igmp3_t4_k0 b52 bs AQ N cQ), (igmp3_t4_k5 b4), ⟨b50, 29, [some (.slice (some ⟨b1020, 0, none⟩) 9 9), some (.slice (some ⟨b1029, 0, none⟩) 1 1), some p.1.2.1, some (.slice none 0 0)], true⟩, (igmp3_t4_k1 b1020 bs), ⟨b1029, 22, [some (.slice none 0 0)], true⟩] ++ p.1.2.2.1) [Byt A5 n c5 bs, Cel AQ N cQ 6 (rowX (fun j => (fun j a d => [.int .u8 ((nb bs (rof bs j) : Nat) : Int), .int .u8 ((nb bs (rof bs j + 1) : Nat) : Int), .int .u16 ((bN bs (rof bs j + 2) 2 : Nat) : Int), .slice (cutA A5 c5 (rof bs j + 4)) ((rof bs j + 8) - (rof bs j + 4)) (c5 - (rof bs j + 4)), .slice a (bN bs (rof bs j + 2) 2) d, .int .u32 ((0 : Nat) : Int)]) j (al j) (ga j)) N), SF al ga (fun j => bN bs (rof bs j + 2) 2) (fun j => rowX (fun t => [.slice (cutA A5 c5 ((rof bs j + 8) + (t * 4))) (((rof bs j + 12) + (t * 4)) - ((rof bs j + 8) + (t * 4))) (c5 - ((rof bs j + 8) + (t * 4)))]) (bN bs (rof bs j + 2) 2)) N, psF p.1.2.2.2]) (fun p => N - p.1.1) ⟨(0, .slice none 0 0, [], []), TSt.nil⟩ ⟨rfl, rfl, rfl, rfl, rfl, rfl, trivial⟩ (fun _ h => psF_nil h) fun ⟨⟨i, v, Kr, ps⟩, hp⟩ => ?_
  replace hp : TSt w.heap.size (fun j => ([nb bs (rof bs j), 0, bN bs (rof bs j + 2) 2, 0], sl bs (rof bs j + 4) (rof bs (j + 1)))) N i v Kr ps := hp
  have hil : i ≤ N := hp.le
  have hr : RowS 49 2 i (psV ps) v Kr := hp.row
  have ho := rof_succ bs i
  have hge := rof_ge bs i
  have hal : rof bs i ≤ n := og_le (by omega) (fun j hj => (hc j hj).2.2) i (by omega)
  have hc := hc i
  have h65 := bN_lt bs (rof bs i + 2) 2 65536 rfl
  have h66 := bN_lt bs 6 2 65536 rfl
  show HT _ _ _ [(4, (.pointer (some ⟨b4, 0, none⟩))), (5, (.bool false)), (6, (.pointer (some ⟨b50, 0, none⟩))), (1057, (.slice AQ N cQ)), (1058, (.int .i64 ((N : Nat) : Int))), (1059, (.int .i64 ((i : Nat) : Int)))] (St w [] ([(igmp3_t4_k0 b52 bs AQ N cQ), (igmp3_t4_k5 b4), (igmp3_t4_k4 b50 b1020 b1029 v), (igmp3_t4_k1 b1020 bs), ⟨b1029, 22, [some (.slice none 0 0)], true⟩] ++ Kr) [Byt A5 n c5 bs, Cel AQ N cQ 6 (rowX (fun j => (fun j a d => [.int .u8 ((nb bs (rof bs j) : Nat) : Int), .int .u8 ((nb bs (rof bs j + 1) : Nat) : Int), .int .u16 ((bN bs (rof bs j + 2) 2 : Nat) : Int), .slice (cutA A5 c5 (rof bs j + 4)) ((rof bs j + 8) - (rof bs j + 4)) (c5 - (rof bs j + 4)), .slice a (bN bs (rof bs j + 2) 2) d, .int .u32 ((0 : Nat) : Int)]) j (al j) (ga j)) N), SF al ga (fun j => bN bs (rof bs j + 2) 2) (fun j => rowX (fun t => [.slice (cutA A5 c5 ((rof bs j + 8) + (t * 4))) (((rof bs j + 12) + (t * 4)) - ((rof bs j + 8) + (t * 4))) (c5 - ((rof bs j + 8) + (t * 4)))]) (bN bs (rof bs j + 2) 2)) N, psF ps]) _
  refine HT.seq ?_
  refine HT.plain ?_
  refine sqS (q_lt (p := i) (q := N) rfl rfl) rfl ?_
  refine send ?_
  refine eseq ?_
  refine HT.seq ?_
  refine condd rfl (fun h1 => ?_) (fun h1 => ?_)
  · refine HT.skip ?_
    refine eseq ?_
    refine HT.seq ?_
    refine HT.block ?_
    refine HT.seq ?_
    refine HT.plain ?_
    refine sqS (q_indexC (i := i) (sz := 6) rfl rfl Tryz.underlying177 size_182 (fun _ h => h.fact (j := 1) rfl) (by decide) (by omega)) rfl ?_
    refine sqS (q_celAggN (i := i * 6) (us := [(.int .u8 ((nb bs (rof bs i) : Nat) : Int)), (.int .u8 ((nb bs (rof bs i + 1) : Nat) : Int)), (.int .u16 ((bN bs (rof bs i + 2) 2 : Nat) : Int)), (.slice (cutA A5 c5 (rof bs i + 4)) ((rof bs i + 8) - (rof bs i + 4)) (c5 - (rof bs i + 4))), (.slice (al i) (bN bs (rof bs i + 2) 2) (ga i)), (.int .u32 ((0 : Nat) : Int))]) rfl aggs_182 (fun _ h => h.fact (j := 1) rfl) (Nat.succ_pos _) (fun j u hu => (rowX_getN (sz := 6) (fun _ => rfl) (by have := (List.getElem?_eq_some_iff.1 hu).1; simpa using this) _ (by omega)).trans hu)) rfl ?_
    refine sl_ (l_allocT (K := [(igmp3_t4_k0 b52 bs AQ N cQ), (igmp3_t4_k5 b4), (igmp3_t4_k4 b50 b1020 b1029 v), (igmp3_t4_k1 b1020 bs), ⟨b1029, 22, [some (.slice none 0 0)], true⟩]) (Kr := Kr) (by decide) zero_182 fun b38 => ?_)
    refine sl_ (l_storeAgg (b := b38) (off := 0) (j := 5) (vs := [(.int .u8 ((nb bs (rof bs i) : Nat) : Int)), (.int .u8 ((nb bs (rof bs i + 1) : Nat) : Int)), (.int .u16 ((bN bs (rof bs i + 2) 2 : Nat) : Int)), (.slice (cutA A5 c5 (rof bs i + 4)) ((rof bs i + 8) - (rof bs i + 4)) (c5 - (rof bs i + 4))), (.slice (al i) (bN bs (rof bs i + 2) 2) (ga i)), (.int .u32 ((0 : Nat) : Int))]) rfl rfl aggs_182 (by simp [Value.one1]) rfl rfl rfl (Nat.le_of_ble_eq_true rfl) ?_)
    refine send ?_
    refine eseq ?_
    refine HT.norm ([(igmp3_t4_k0 b52 bs AQ N cQ), (igmp3_t4_k5 b4), (igmp3_t4_k4 b50 b1020 b1029 v), (igmp3_t4_k1 b1020 bs), ⟨b1029, 22, [some (.slice none 0 0)], true⟩, (igmp3_t4_k2 b38 bs i A5 c5 al ga)] ++ Kr) [Byt A5 n c5 bs, Cel AQ N cQ 6 (rowX (fun j => (fun j a d => [.int .u8 ((nb bs (rof bs j) : Nat) : Int), .int .u8 ((nb bs (rof bs j + 1) : Nat) : Int), .int .u16 ((bN bs (rof bs j + 2) 2 : Nat) : Int), .slice (cutA A5 c5 (rof bs j + 4)) ((rof bs j + 8) - (rof bs j + 4)) (c5 - (rof bs j + 4)), .slice a (bN bs (rof bs j + 2) 2) d, .int .u32 ((0 : Nat) : Int)]) j (al j) (ga j)) N), SF al ga (fun j => bN bs (rof bs j + 2) 2) (fun j => rowX (fun t => [.slice (cutA A5 c5 ((rof bs j + 8) + (t * 4))) (((rof bs j + 12) + (t * 4)) - ((rof bs j + 8) + (t * 4))) (c5 - ((rof bs j + 8) + (t * 4)))]) (bN bs (rof bs j + 2) 2)) N, psF ps] rfl rfl ?_
    refine HT.seqC (ι := {p : Nat × Nat × Option Addr × Nat × List Kb // RowS 5 1 ((rof bs i + 8) - (rof bs i + 4)) (bv (sl bs (rof bs i + 4) (rof bs i + 8))) (.slice p.2.2.1 ((rof bs i + 8) - (rof bs i + 4)) p.2.2.2.1) p.2.2.2.2}) (fun p => [(4, (.pointer (some ⟨b4, 0, none⟩))), (5, (.bool false)), (6, (.pointer (some ⟨b50, 0, none⟩))), (38, (.pointer (some ⟨b38, 0, none⟩))), (39, (.pointer (some ⟨p.1.2.1, 0, none⟩))), (1057, (.slice AQ N cQ)), (1058, (.int .i64 ((N : Nat) : Int))), (1059, (.int .i64 ((i : Nat) : Int)))]) (fun p => St w [] ([(igmp3_t4_k0 b52 bs AQ N cQ), (igmp3_t4_k5 b4), (igmp3_t4_k4 b50 b1020 b1029 v), (igmp3_t4_k1 b1020 bs), ⟨b1029, 22, [some (.slice none 0 0)], true⟩, (igmp3_t4_k2 b38 bs i A5 c5 al ga), ⟨p.1.1, 39, [some (.int .u64 ((nb bs (rof bs i) : Nat) : Int)), some (.int .u64 ((nb bs (rof bs i + 1) : Nat) : Int)), some (.int .u64 ((bN bs (rof bs i + 2) 2 : Nat) : Int)), some (.int .u64 ((0 : Nat) : Int))], true⟩, ⟨p.1.2.1, 49, [some (.slice (some ⟨p.1.1, 0, none⟩) 4 4), some (.slice p.1.2.2.1 ((rof bs i + 8) - (rof bs i + 4)) p.1.2.2.2.1)], true⟩] ++ (Kr ++ p.1.2.2.2.2)) [Byt A5 n c5 bs, Cel AQ N cQ 6 (rowX (fun j => (fun j a d => [.int .u8 ((nb bs (rof bs j) : Nat) : Int), .int .u8 ((nb bs (rof bs j + 1) : Nat) : Int), .int .u16 ((bN bs (rof bs j + 2) 2 : Nat) : Int), .slice (cutA A5 c5 (rof bs j + 4)) ((rof bs j + 8) - (rof bs j + 4)) (c5 - (rof bs j + 4)), .slice a (bN bs (rof bs j + 2) 2) d, .int .u32 ((0 : Nat) : Int)]) j (al j) (ga j)) N), SF al ga (fun j => bN bs (rof bs j + 2) 2) (fun j => rowX (fun t => [.slice (cutA A5 c5 ((rof bs j + 8) + (t * 4))) (((rof bs j + 12) + (t * 4)) - ((rof bs j + 8) + (t * 4))) (c5 - ((rof bs j + 8) + (t * 4)))]) (bN bs (rof bs j + 2) 2)) N, psF ps]) ?_ fun ⟨(b1075, b39, Ad, cd, Kd), hd⟩ => ?_
    · refine HT.drawn mixed (St.closed _ _ _ _) (St w [] [(igmp3_t4_k0 b52 bs AQ N cQ), (igmp3_t4_k5 b4), (igmp3_t4_k4 b50 b1020 b1029 v), (igmp3_t4_k1 b1020 bs), ⟨b1029, 22, [some (.slice none 0 0)], true⟩, (igmp3_t4_k2 b38 bs i A5 c5 al ga)] [Byt A5 n c5 bs, Cel AQ N cQ 6 (rowX (fun j => (fun j a d => [.int .u8 ((nb bs (rof bs j) : Nat) : Int), .int .u8 ((nb bs (rof bs j + 1) : Nat) : Int), .int .u16 ((bN bs (rof bs j + 2) 2 : Nat) : Int), .slice (cutA A5 c5 (rof bs j + 4)) ((rof bs j + 8) - (rof bs j + 4)) (c5 - (rof bs j + 4)), .slice a (bN bs (rof bs j + 2) 2) d, .int .u32 ((0 : Nat) : Int)]) j (al j) (ga j)) N), SF al ga (fun j => bN bs (rof bs j + 2) 2) (fun j => rowX (fun t => [.slice (cutA A5 c5 ((rof bs j + 8) + (t * 4))) (((rof bs j + 12) + (t * 4)) - ((rof bs j + 8) + (t * 4))) (c5 - ((rof bs j + 8) + (t * 4)))]) (bN bs (rof bs j + 2) 2)) N, psF ps]) ?_
      refine dtake (f := 5) [0, 1, 2, 3, 4, 5, 6, 7, 8, 9, 10, 11, 13, 14] (by kernel_rfl) (St.closed _ _ _ _) (fun _ h => (St.untail (K := [(igmp3_t4_k0 b52 bs AQ N cQ), (igmp3_t4_k5 b4), (igmp3_t4_k4 b50 b1020 b1029 v), (igmp3_t4_k1 b1020 bs), ⟨b1029, 22, [some (.slice none 0 0)], true⟩, (igmp3_t4_k2 b38 bs i A5 c5 al ga)]) (Kr := Kr) h)) (by kernel_rfl) ?_
      refine dq rfl (q_field (b := b38) (off := 0) rfl fo_182_0) ?_
      refine dq rfl (q_load (b := b38) (off := 0) (j := 5) rfl nagg_180 (fun _ h => h) rfl rfl rfl) ?_
      refine dq rfl (q_convn (p := nb bs (rof bs i)) rfl Tryz.underlying180 Tryz.underlying39 (show nb bs (rof bs i) < 18446744073709551616 by have := nb_lt bs (rof bs i); omega)) ?_
      refine dq rfl (q_field (b := b38) (off := 0) rfl fo_182_1) ?_
      refine dq rfl (q_load (b := b38) (off := 1) (j := 5) rfl nagg_5 (fun _ h => h) rfl rfl rfl) ?_
      refine dq rfl (q_convn (p := nb bs (rof bs i + 1)) rfl Tryz.underlying5 Tryz.underlying39 (show nb bs (rof bs i + 1) < 18446744073709551616 by have := nb_lt bs (rof bs i + 1); omega)) ?_
      refine dq rfl (q_field (b := b38) (off := 0) rfl fo_182_2) ?_
      refine dq rfl (q_load (b := b38) (off := 2) (j := 5) rfl nagg_70 (fun _ h => h) rfl rfl rfl) ?_
      refine dq rfl (q_convn (p := bN bs (rof bs i + 2) 2) rfl Tryz.underlying70 Tryz.underlying39 (show bN bs (rof bs i + 2) 2 < 18446744073709551616 by have := bN_lt bs (rof bs i + 2) 2 65536 rfl; omega)) ?_
      refine dq rfl (q_field (b := b38) (off := 0) rfl fo_182_5) ?_
      refine dq rfl (q_load (b := b38) (off := 5) (j := 5) rfl nagg_111 (fun _ h => h) rfl rfl rfl) ?_
      refine dq rfl (q_convn (p := 0) rfl Tryz.underlying111 Tryz.underlying39 (by decide)) ?_
      refine dq rfl (q_field (b := b38) (off := 0) rfl fo_182_3) ?_
      refine dq rfl (q_load (b := b38) (off := 3) (j := 5) rfl nagg_171 (fun _ h => h) rfl rfl rfl) ?_
      refine QL.nil ?_
      refine RG.step3 12 15 17 (by kernel_rfl) ?_ ?_ ?_
      · refine dop rfl (l_buildSliceT (K := [(igmp3_t4_k0 b52 bs AQ N cQ), (igmp3_t4_k5 b4), (igmp3_t4_k4 b50 b1020 b1029 v), (igmp3_t4_k1 b1020 bs), ⟨b1029, 22, [some (.slice none 0 0)], true⟩, (igmp3_t4_k2 b38 bs i A5 c5 al ga)]) (Kr := Kr) (e := 39) (vs := [(0, (.int .u64 ((nb bs (rof bs i) : Nat) : Int))), (1, (.int .u64 ((nb bs (rof bs i + 1) : Nat) : Int))), (2, (.int .u64 ((bN bs (rof bs i + 2) 2 : Nat) : Int))), (3, (.int .u64 ((0 : Nat) : Int)))]) (cs := [(.int .u64 ((nb bs (rof bs i) : Nat) : Int)), (.int .u64 ((nb bs (rof bs i + 1) : Nat) : Int)), (.int .u64 ((bN bs (rof bs i + 2) 2 : Nat) : Int)), (.int .u64 ((0 : Nat) : Int))]) (by decide) rfl (fun _ => by kernel_rfl) fun b1075 => ⟨(fun _ h => (St.wk (St.untail (K := [(igmp3_t4_k0 b52 bs AQ N cQ), (igmp3_t4_k5 b4), (igmp3_t4_k4 b50 b1020 b1029 v), (igmp3_t4_k1 b1020 bs), ⟨b1029, 22, [some (.slice none 0 0)], true⟩, (igmp3_t4_k2 b38 bs i A5 c5 al ga), (igmp3_t4_k3 b1075 bs i)]) (Kr := Kr) h) [(0, []), (1, []), (2, []), (3, []), (4, []), (5, [])] rfl)), ?_⟩)
        refine RG.step2 15 17 (by kernel_rfl) ?_ ?_
        · refine dop rfl (l_callX (ι := {p : Option Addr × Nat × List Kb // RowS 5 1 ((rof bs i + 8) - (rof bs i + 4)) (bv (sl bs (rof bs i + 4) (rof bs i + 8))) (.slice p.1 ((rof bs i + 8) - (rof bs i + 4)) p.2.1) p.2.2}) (vs := [(.slice (cutA A5 c5 (rof bs i + 4)) ((rof bs i + 8) - (rof bs i + 4)) (c5 - (rof bs i + 4)))]) (vv := fun p => .slice p.1.1 ((rof bs i + 8) - (rof bs i + 4)) p.1.2.1) (Kc := []) (Kc' := fun p => p.1.2.2) (Bx := [Byt A5 n c5 bs, Cel AQ N cQ 6 (rowX (fun j => (fun j a d => [.int .u8 ((nb bs (rof bs j) : Nat) : Int), .int .u8 ((nb bs (rof bs j + 1) : Nat) : Int), .int .u16 ((bN bs (rof bs j + 2) 2 : Nat) : Int), .slice (cutA A5 c5 (rof bs j + 4)) ((rof bs j + 8) - (rof bs j + 4)) (c5 - (rof bs j + 4)), .slice a (bN bs (rof bs j + 2) 2) d, .int .u32 ((0 : Nat) : Int)]) j (al j) (ga j)) N), SF al ga (fun j => bN bs (rof bs j + 2) 2) (fun j => rowX (fun t => [.slice (cutA A5 c5 ((rof bs j + 8) + (t * 4))) (((rof bs j + 12) + (t * 4)) - ((rof bs j + 8) + (t * 4))) (c5 - ((rof bs j + 8) + (t * 4)))]) (bN bs (rof bs j + 2) 2)) N, psF ps, Byt (cutA A5 c5 (rof bs i + 4)) ((rof bs i + 8) - (rof bs i + 4)) (c5 - (rof bs i + 4)) (sl bs (rof bs i + 4) (rof bs i + 8))]) (Bc := [Byt (cutA A5 c5 (rof bs i + 4)) ((rof bs i + 8) - (rof bs i + 4)) (c5 - (rof bs i + 4)) (sl bs (rof bs i + 4) (rof bs i + 8))]) (Bn := fun _ => []) (K' := fun p => [(igmp3_t4_k0 b52 bs AQ N cQ), (igmp3_t4_k5 b4), (igmp3_t4_k4 b50 b1020 b1029 v), (igmp3_t4_k1 b1020 bs), ⟨b1029, 22, [some (.slice none 0 0)], true⟩, (igmp3_t4_k2 b38 bs i A5 c5 al ga), (igmp3_t4_k3 b1075 bs i)] ++ Kr ++ p.1.2.2) [] [4] (by decide) rfl ca_60 rfl (fun _ h => h.cut (j := 0) (lo := rof bs i + 4) (hi := rof bs i + 8) rfl (by omega) (by omega)) rfl rfl rfl (fun w h => cloneR w (cutA A5 c5 (rof bs i + 4)) ((rof bs i + 8) - (rof bs i + 4)) (c5 - (rof bs i + 4)) (sl bs (rof bs i + 4) (rof bs i + 8)) (by omega) (by omega) h) (fun _ => rfl) (fun p => RowS.allrw p.2) (fun p => congrArg (· ++ p.1.2.2) (minusK_none _ 0)) fun ⟨(Ad, cd, Kd), hd⟩ _ _ => ⟨(fun _ h => (St.wk (St.untail (K := [(igmp3_t4_k0 b52 bs AQ N cQ), (igmp3_t4_k5 b4), (igmp3_t4_k4 b50 b1020 b1029 v), (igmp3_t4_k1 b1020 bs), ⟨b1029, 22, [some (.slice none 0 0)], true⟩, (igmp3_t4_k2 b38 bs i A5 c5 al ga), (igmp3_t4_k3 b1075 bs i)]) (Kr := (Kr ++ Kd)) h) [(0, []), (1, []), (2, []), (3, []), (4, []), (5, [])] rfl)), ?_⟩)
          refine dtake (f := 2) [16] (by kernel_rfl) (St.closed _ _ _ _) (fun _ h => (St.wk (St.untail (K := [(igmp3_t4_k0 b52 bs AQ N cQ), (igmp3_t4_k5 b4), (igmp3_t4_k4 b50 b1020 b1029 v), (igmp3_t4_k1 b1020 bs), ⟨b1029, 22, [some (.slice none 0 0)], true⟩, (igmp3_t4_k2 b38 bs i A5 c5 al ga), (igmp3_t4_k3 b1075 bs i)]) (Kr := (Kr ++ Kd)) h) [(0, []), (1, []), (2, []), (3, []), (4, []), (5, [])] rfl)) (by kernel_rfl) ?_
          refine dq rfl (q_build (vs := [(0, (.slice (some ⟨b1075, 0, none⟩) 4 4)), (1, (.slice Ad ((rof bs i + 8) - (rof bs i + 4)) cd))]) (v := (.agg #[(.slice (some ⟨b1075, 0, none⟩) 4 4), (.slice Ad ((rof bs i + 8) - (rof bs i + 4)) cd)])) rfl (fun _ => by kernel_rfl)) ?_
          refine QL.nil ?_
          refine RG.step1 17 (by kernel_rfl) ?_
          refine dop rfl (l_allocT (K := [(igmp3_t4_k0 b52 bs AQ N cQ), (igmp3_t4_k5 b4), (igmp3_t4_k4 b50 b1020 b1029 v), (igmp3_t4_k1 b1020 bs), ⟨b1029, 22, [some (.slice none 0 0)], true⟩, (igmp3_t4_k2 b38 bs i A5 c5 al ga), (igmp3_t4_k3 b1075 bs i)]) (Kr := (Kr ++ Kd)) (by decide) zero_49 fun b39 => ⟨(fun _ h => (St.wk (St.untail (K := [(igmp3_t4_k0 b52 bs AQ N cQ), (igmp3_t4_k5 b4), (igmp3_t4_k4 b50 b1020 b1029 v), (igmp3_t4_k1 b1020 bs), ⟨b1029, 22, [some (.slice none 0 0)], true⟩, (igmp3_t4_k2 b38 bs i A5 c5 al ga), (igmp3_t4_k3 b1075 bs i), ⟨b39, 49, [some (.slice none 0 0), some (.slice none 0 0)], true⟩]) (Kr := (Kr ++ Kd)) h) [(0, []), (1, []), (2, []), (3, []), (4, []), (5, [])] rfl)), ?_⟩)
          refine RG.step1 18 (by kernel_rfl) ?_
          refine dop rfl (l_storeAgg (b := b39) (off := 0) (j := 7) (vs := [(.slice (some ⟨b1075, 0, none⟩) 4 4), (.slice Ad ((rof bs i + 8) - (rof bs i + 4)) cd)]) rfl rfl aggs_49 (by simp [Value.one1]) rfl rfl rfl (Nat.le_of_ble_eq_true rfl) ⟨(fun _ h => (St.wk (St.untail (K := [(igmp3_t4_k0 b52 bs AQ N cQ), (igmp3_t4_k5 b4), (igmp3_t4_k4 b50 b1020 b1029 v), (igmp3_t4_k1 b1020 bs), ⟨b1029, 22, [some (.slice none 0 0)], true⟩, (igmp3_t4_k2 b38 bs i A5 c5 al ga), (igmp3_t4_k3 b1075 bs i), (igmp3_t4_k8 b39 b1075 Ad bs i cd)]) (Kr := (Kr ++ Kd)) h) [(0, []), (1, []), (2, []), (3, []), (4, []), (5, [])] rfl)), ?_⟩)
          refine dend (by kernel_rfl) ?_
          exact ecut ⟨(b1075, b39, Ad, cd, Kd), hd⟩ ⟨rfl, rfl, rfl, rfl, rfl, rfl, rfl, rfl, trivial⟩ (fun _ h => h)
        · refine dop rfl (l_allocT (K := [(igmp3_t4_k0 b52 bs AQ N cQ), (igmp3_t4_k5 b4), (igmp3_t4_k4 b50 b1020 b1029 v), (igmp3_t4_k1 b1020 bs), ⟨b1029, 22, [some (.slice none 0 0)], true⟩, (igmp3_t4_k2 b38 bs i A5 c5 al ga), (igmp3_t4_k3 b1075 bs i)]) (Kr := Kr) (by decide) zero_49 fun b39 => ⟨(fun _ h => (St.wk (St.untail (K := [(igmp3_t4_k0 b52 bs AQ N cQ), (igmp3_t4_k5 b4), (igmp3_t4_k4 b50 b1020 b1029 v), (igmp3_t4_k1 b1020 bs), ⟨b1029, 22, [some (.slice none 0 0)], true⟩, (igmp3_t4_k2 b38 bs i A5 c5 al ga), (igmp3_t4_k3 b1075 bs i), ⟨b39, 49, [some (.slice none 0 0), some (.slice none 0 0)], true⟩]) (Kr := Kr) h) [(0, []), (1, []), (2, []), (3, []), (4, []), (5, [])] rfl)), ?_⟩)
          refine RG.step1 15 (by kernel_rfl) ?_
          refine dop rfl (l_callX (ι := {p : Option Addr × Nat × List Kb // RowS 5 1 ((rof bs i + 8) - (rof bs i + 4)) (bv (sl bs (rof bs i + 4) (rof bs i + 8))) (.slice p.1 ((rof bs i + 8) - (rof bs i + 4)) p.2.1) p.2.2}) (vs := [(.slice (cutA A5 c5 (rof bs i + 4)) ((rof bs i + 8) - (rof bs i + 4)) (c5 - (rof bs i + 4)))]) (vv := fun p => .slice p.1.1 ((rof bs i + 8) - (rof bs i + 4)) p.1.2.1) (Kc := []) (Kc' := fun p => p.1.2.2) (Bx := [Byt A5 n c5 bs, Cel AQ N cQ 6 (rowX (fun j => (fun j a d => [.int .u8 ((nb bs (rof bs j) : Nat) : Int), .int .u8 ((nb bs (rof bs j + 1) : Nat) : Int), .int .u16 ((bN bs (rof bs j + 2) 2 : Nat) : Int), .slice (cutA A5 c5 (rof bs j + 4)) ((rof bs j + 8) - (rof bs j + 4)) (c5 - (rof bs j + 4)), .slice a (bN bs (rof bs j + 2) 2) d, .int .u32 ((0 : Nat) : Int)]) j (al j) (ga j)) N), SF al ga (fun j => bN bs (rof bs j + 2) 2) (fun j => rowX (fun t => [.slice (cutA A5 c5 ((rof bs j + 8) + (t * 4))) (((rof bs j + 12) + (t * 4)) - ((rof bs j + 8) + (t * 4))) (c5 - ((rof bs j + 8) + (t * 4)))]) (bN bs (rof bs j + 2) 2)) N, psF ps, Byt (cutA A5 c5 (rof bs i + 4)) ((rof bs i + 8) - (rof bs i + 4)) (c5 - (rof bs i + 4)) (sl bs (rof bs i + 4) (rof bs i + 8))]) (Bc := [Byt (cutA A5 c5 (rof bs i + 4)) ((rof bs i + 8) - (rof bs i + 4)) (c5 - (rof bs i + 4)) (sl bs (rof bs i + 4) (rof bs i + 8))]) (Bn := fun _ => []) (K' := fun p => [(igmp3_t4_k0 b52 bs AQ N cQ), (igmp3_t4_k5 b4), (igmp3_t4_k4 b50 b1020 b1029 v), (igmp3_t4_k1 b1020 bs), ⟨b1029, 22, [some (.slice none 0 0)], true⟩, (igmp3_t4_k2 b38 bs i A5 c5 al ga), (igmp3_t4_k3 b1075 bs i), ⟨b39, 49, [some (.slice none 0 0), some (.slice none 0 0)], true⟩] ++ Kr ++ p.1.2.2) [] [4] (by decide) rfl ca_60 rfl (fun _ h => h.cut (j := 0) (lo := rof bs i + 4) (hi := rof bs i + 8) rfl (by omega) (by omega)) rfl rfl rfl (fun w h => cloneR w (cutA A5 c5 (rof bs i + 4)) ((rof bs i + 8) - (rof bs i + 4)) (c5 - (rof bs i + 4)) (sl bs (rof bs i + 4) (rof bs i + 8)) (by omega) (by omega) h) (fun _ => rfl) (fun p => RowS.allrw p.2) (fun p => congrArg (· ++ p.1.2.2) (minusK_none _ 0)) fun ⟨(Ad, cd, Kd), hd⟩ _ _ => ⟨(fun _ h => (St.wk (St.untail (K := [(igmp3_t4_k0 b52 bs AQ N cQ), (igmp3_t4_k5 b4), (igmp3_t4_k4 b50 b1020 b1029 v), (igmp3_t4_k1 b1020 bs), ⟨b1029, 22, [some (.slice none 0 0)], true⟩, (igmp3_t4_k2 b38 bs i A5 c5 al ga), (igmp3_t4_k3 b1075 bs i), ⟨b39, 49, [some (.slice none 0 0), some (.slice none 0 0)], true⟩]) (Kr := (Kr ++ Kd)) h) [(0, []), (1, []), (2, []), (3, []), (4, []), (5, [])] rfl)), ?_⟩)
          refine dtake (f := 1) [16] (by kernel_rfl) (St.closed _ _ _ _) (fun _ h => (St.wk (St.untail (K := [(igmp3_t4_k0 b52 bs AQ N cQ), (igmp3_t4_k5 b4), (igmp3_t4_k4 b50 b1020 b1029 v), (igmp3_t4_k1 b1020 bs), ⟨b1029, 22, [some (.slice none 0 0)], true⟩, (igmp3_t4_k2 b38 bs i A5 c5 al ga), (igmp3_t4_k3 b1075 bs i), ⟨b39, 49, [some (.slice none 0 0), some (.slice none 0 0)], true⟩]) (Kr := (Kr ++ Kd)) h) [(0, []), (1, []), (2, []), (3, []), (4, []), (5, [])] rfl)) (by kernel_rfl) ?_
          refine dq rfl (q_build (vs := [(0, (.slice (some ⟨b1075, 0, none⟩) 4 4)), (1, (.slice Ad ((rof bs i + 8) - (rof bs i + 4)) cd))]) (v := (.agg #[(.slice (some ⟨b1075, 0, none⟩) 4 4), (.slice Ad ((rof bs i + 8) - (rof bs i + 4)) cd)])) rfl (fun _ => by kernel_rfl)) ?_
          refine QL.nil ?_
          refine RG.step1 18 (by kernel_rfl) ?_
          refine dop rfl (l_storeAgg (b := b39) (off := 0) (j := 7) (vs := [(.slice (some ⟨b1075, 0, none⟩) 4 4), (.slice Ad ((rof bs i + 8) - (rof bs i + 4)) cd)]) rfl rfl aggs_49 (by simp [Value.one1]) rfl rfl rfl (Nat.le_of_ble_eq_true rfl) ⟨(fun _ h => (St.wk (St.untail (K := [(igmp3_t4_k0 b52 bs AQ N cQ), (igmp3_t4_k5 b4), (igmp3_t4_k4 b50 b1020 b1029 v), (igmp3_t4_k1 b1020 bs), ⟨b1029, 22, [some (.slice none 0 0)], true⟩, (igmp3_t4_k2 b38 bs i A5 c5 al ga), (igmp3_t4_k3 b1075 bs i), (igmp3_t4_k8 b39 b1075 Ad bs i cd)]) (Kr := (Kr ++ Kd)) h) [(0, []), (1, []), (2, []), (3, []), (4, []), (5, [])] rfl)), ?_⟩)
          refine dend (by kernel_rfl) ?_
          exact ecut ⟨(b1075, b39, Ad, cd, Kd), hd⟩ ⟨rfl, rfl, rfl, rfl, rfl, rfl, rfl, rfl, trivial⟩ (fun _ h => h)
      · refine dop rfl (l_callX (ι := {p : Option Addr × Nat × List Kb // RowS 5 1 ((rof bs i + 8) - (rof bs i + 4)) (bv (sl bs (rof bs i + 4) (rof bs i + 8))) (.slice p.1 ((rof bs i + 8) - (rof bs i + 4)) p.2.1) p.2.2}) (vs := [(.slice (cutA A5 c5 (rof bs i + 4)) ((rof bs i + 8) - (rof bs i + 4)) (c5 - (rof bs i + 4)))]) (vv := fun p => .slice p.1.1 ((rof bs i + 8) - (rof bs i + 4)) p.1.2.1) (Kc := []) (Kc' := fun p => p.1.2.2) (Bx := [Byt A5 n c5 bs, Cel AQ N cQ 6 (rowX (fun j => (fun j a d => [.int .u8 ((nb bs (rof bs j) : Nat) : Int), .int .u8 ((nb bs (rof bs j + 1) : Nat) : Int), .int .u16 ((bN bs (rof bs j + 2) 2 : Nat) : Int), .slice (cutA A5 c5 (rof bs j + 4)) ((rof bs j + 8) - (rof bs j + 4)) (c5 - (rof bs j + 4)), .slice a (bN bs (rof bs j + 2) 2) d, .int .u32 ((0 : Nat) : Int)]) j (al j) (ga j)) N), SF al ga (fun j => bN bs (rof bs j + 2) 2) (fun j => rowX (fun t => [.slice (cutA A5 c5 ((rof bs j + 8) + (t * 4))) (((rof bs j + 12) + (t * 4)) - ((rof bs j + 8) + (t * 4))) (c5 - ((rof bs j + 8) + (t * 4)))]) (bN bs (rof bs j + 2) 2)) N, psF ps, Byt (cutA A5 c5 (rof bs i + 4)) ((rof bs i + 8) - (rof bs i + 4)) (c5 - (rof bs i + 4)) (sl bs (rof bs i + 4) (rof bs i + 8))]) (Bc := [Byt (cutA A5 c5 (rof bs i + 4)) ((rof bs i + 8) - (rof bs i + 4)) (c5 - (rof bs i + 4)) (sl bs (rof bs i + 4) (rof bs i + 8))]) (Bn := fun _ => []) (K' := fun p => [(igmp3_t4_k0 b52 bs AQ N cQ), (igmp3_t4_k5 b4), (igmp3_t4_k4 b50 b1020 b1029 v), (igmp3_t4_k1 b1020 bs), ⟨b1029, 22, [some (.slice none 0 0)], true⟩, (igmp3_t4_k2 b38 bs i A5 c5 al ga)] ++ Kr ++ p.1.2.2) [] [4] (by decide) rfl ca_60 rfl (fun _ h => h.cut (j := 0) (lo := rof bs i + 4) (hi := rof bs i + 8) rfl (by omega) (by omega)) rfl rfl rfl (fun w h => cloneR w (cutA A5 c5 (rof bs i + 4)) ((rof bs i + 8) - (rof bs i + 4)) (c5 - (rof bs i + 4)) (sl bs (rof bs i + 4) (rof bs i + 8)) (by omega) (by omega) h) (fun _ => rfl) (fun p => RowS.allrw p.2) (fun p => congrArg (· ++ p.1.2.2) (minusK_none _ 0)) fun ⟨(Ad, cd, Kd), hd⟩ _ _ => ⟨(fun _ h => (St.untail (K := [(igmp3_t4_k0 b52 bs AQ N cQ), (igmp3_t4_k5 b4), (igmp3_t4_k4 b50 b1020 b1029 v), (igmp3_t4_k1 b1020 bs), ⟨b1029, 22, [some (.slice none 0 0)], true⟩, (igmp3_t4_k2 b38 bs i A5 c5 al ga)]) (Kr := (Kr ++ Kd)) h)), ?_⟩)
        refine RG.step2 12 17 (by kernel_rfl) ?_ ?_
        · refine dop rfl (l_buildSliceT (K := [(igmp3_t4_k0 b52 bs AQ N cQ), (igmp3_t4_k5 b4), (igmp3_t4_k4 b50 b1020 b1029 v), (igmp3_t4_k1 b1020 bs), ⟨b1029, 22, [some (.slice none 0 0)], true⟩, (igmp3_t4_k2 b38 bs i A5 c5 al ga)]) (Kr := (Kr ++ Kd)) (e := 39) (vs := [(0, (.int .u64 ((nb bs (rof bs i) : Nat) : Int))), (1, (.int .u64 ((nb bs (rof bs i + 1) : Nat) : Int))), (2, (.int .u64 ((bN bs (rof bs i + 2) 2 : Nat) : Int))), (3, (.int .u64 ((0 : Nat) : Int)))]) (cs := [(.int .u64 ((nb bs (rof bs i) : Nat) : Int)), (.int .u64 ((nb bs (rof bs i + 1) : Nat) : Int)), (.int .u64 ((bN bs (rof bs i + 2) 2 : Nat) : Int)), (.int .u64 ((0 : Nat) : Int))]) (by decide) rfl (fun _ => by kernel_rfl) fun b1075 => ⟨(fun _ h => (St.wk (St.untail (K := [(igmp3_t4_k0 b52 bs AQ N cQ), (igmp3_t4_k5 b4), (igmp3_t4_k4 b50 b1020 b1029 v), (igmp3_t4_k1 b1020 bs), ⟨b1029, 22, [some (.slice none 0 0)], true⟩, (igmp3_t4_k2 b38 bs i A5 c5 al ga), (igmp3_t4_k3 b1075 bs i)]) (Kr := (Kr ++ Kd)) h) [(0, []), (1, []), (2, []), (3, []), (4, []), (5, [])] rfl)), ?_⟩)
          refine dtake (f := 2) [16] (by kernel_rfl) (St.closed _ _ _ _) (fun _ h => (St.wk (St.untail (K := [(igmp3_t4_k0 b52 bs AQ N cQ), (igmp3_t4_k5 b4), (igmp3_t4_k4 b50 b1020 b1029 v), (igmp3_t4_k1 b1020 bs), ⟨b1029, 22, [some (.slice none 0 0)], true⟩, (igmp3_t4_k2 b38 bs i A5 c5 al ga), (igmp3_t4_k3 b1075 bs i)]) (Kr := (Kr ++ Kd)) h) [(0, []), (1, []), (2, []), (3, []), (4, []), (5, [])] rfl)) (by kernel_rfl) ?_
          refine dq rfl (q_build (vs := [(0, (.slice (some ⟨b1075, 0, none⟩) 4 4)), (1, (.slice Ad ((rof bs i + 8) - (rof bs i + 4)) cd))]) (v := (.agg #[(.slice (some ⟨b1075, 0, none⟩) 4 4), (.slice Ad ((rof bs i + 8) - (rof bs i + 4)) cd)])) rfl (fun _ => by kernel_rfl)) ?_
          refine QL.nil ?_
          refine RG.step1 17 (by kernel_rfl) ?_
          refine dop rfl (l_allocT (K := [(igmp3_t4_k0 b52 bs AQ N cQ), (igmp3_t4_k5 b4), (igmp3_t4_k4 b50 b1020 b1029 v), (igmp3_t4_k1 b1020 bs), ⟨b1029, 22, [some (.slice none 0 0)], true⟩, (igmp3_t4_k2 b38 bs i A5 c5 al ga), (igmp3_t4_k3 b1075 bs i)]) (Kr := (Kr ++ Kd)) (by decide) zero_49 fun b39 => ⟨(fun _ h => (St.wk (St.untail (K := [(igmp3_t4_k0 b52 bs AQ N cQ), (igmp3_t4_k5 b4), (igmp3_t4_k4 b50 b1020 b1029 v), (igmp3_t4_k1 b1020 bs), ⟨b1029, 22, [some (.slice none 0 0)], true⟩, (igmp3_t4_k2 b38 bs i A5 c5 al ga), (igmp3_t4_k3 b1075 bs i), ⟨b39, 49, [some (.slice none 0 0), some (.slice none 0 0)], true⟩]) (Kr := (Kr ++ Kd)) h) [(0, []), (1, []), (2, []), (3, []), (4, []), (5, [])] rfl)), ?_⟩)
          refine RG.step1 18 (by kernel_rfl) ?_
          refine dop rfl (l_storeAgg (b := b39) (off := 0) (j := 7) (vs := [(.slice (some ⟨b1075, 0, none⟩) 4 4), (.slice Ad ((rof bs i + 8) - (rof bs i + 4)) cd)]) rfl rfl aggs_49 (by simp [Value.one1]) rfl rfl rfl (Nat.le_of_ble_eq_true rfl) ⟨(fun _ h => (St.wk (St.untail (K := [(igmp3_t4_k0 b52 bs AQ N cQ), (igmp3_t4_k5 b4), (igmp3_t4_k4 b50 b1020 b1029 v), (igmp3_t4_k1 b1020 bs), ⟨b1029, 22, [some (.slice none 0 0)], true⟩, (igmp3_t4_k2 b38 bs i A5 c5 al ga), (igmp3_t4_k3 b1075 bs i), (igmp3_t4_k8 b39 b1075 Ad bs i cd)]) (Kr := (Kr ++ Kd)) h) [(0, []), (1, []), (2, []), (3, []), (4, []), (5, [])] rfl)), ?_⟩)
          refine dend (by kernel_rfl) ?_
          exact ecut ⟨(b1075, b39, Ad, cd, Kd), hd⟩ ⟨rfl, rfl, rfl, rfl, rfl, rfl, rfl, rfl, trivial⟩ (fun _ h => h)
        · refine dop rfl (l_allocT (K := [(igmp3_t4_k0 b52 bs AQ N cQ), (igmp3_t4_k5 b4), (igmp3_t4_k4 b50 b1020 b1029 v), (igmp3_t4_k1 b1020 bs), ⟨b1029, 22, [some (.slice none 0 0)], true⟩, (igmp3_t4_k2 b38 bs i A5 c5 al ga)]) (Kr := (Kr ++ Kd)) (by decide) zero_49 fun b39 => ⟨(fun _ h => (St.wk (St.untail (K := [(igmp3_t4_k0 b52 bs AQ N cQ), (igmp3_t4_k5 b4), (igmp3_t4_k4 b50 b1020 b1029 v), (igmp3_t4_k1 b1020 bs), ⟨b1029, 22, [some (.slice none 0 0)], true⟩, (igmp3_t4_k2 b38 bs i A5 c5 al ga), ⟨b39, 49, [some (.slice none 0 0), some (.slice none 0 0)], true⟩]) (Kr := (Kr ++ Kd)) h) [(0, []), (1, []), (2, []), (3, []), (4, []), (5, [])] rfl)), ?_⟩)
          refine RG.step1 12 (by kernel_rfl) ?_
          refine dop rfl (l_buildSliceT (K := [(igmp3_t4_k0 b52 bs AQ N cQ), (igmp3_t4_k5 b4), (igmp3_t4_k4 b50 b1020 b1029 v), (igmp3_t4_k1 b1020 bs), ⟨b1029, 22, [some (.slice none 0 0)], true⟩, (igmp3_t4_k2 b38 bs i A5 c5 al ga), ⟨b39, 49, [some (.slice none 0 0), some (.slice none 0 0)], true⟩]) (Kr := (Kr ++ Kd)) (e := 39) (vs := [(0, (.int .u64 ((nb bs (rof bs i) : Nat) : Int))), (1, (.int .u64 ((nb bs (rof bs i + 1) : Nat) : Int))), (2, (.int .u64 ((bN bs (rof bs i + 2) 2 : Nat) : Int))), (3, (.int .u64 ((0 : Nat) : Int)))]) (cs := [(.int .u64 ((nb bs (rof bs i) : Nat) : Int)), (.int .u64 ((nb bs (rof bs i + 1) : Nat) : Int)), (.int .u64 ((bN bs (rof bs i + 2) 2 : Nat) : Int)), (.int .u64 ((0 : Nat) : Int))]) (by decide) rfl (fun _ => by kernel_rfl) fun b1075 => ⟨(fun _ h => (St.wk (St.untail (K := [(igmp3_t4_k0 b52 bs AQ N cQ), (igmp3_t4_k5 b4), (igmp3_t4_k4 b50 b1020 b1029 v), (igmp3_t4_k1 b1020 bs), ⟨b1029, 22, [some (.slice none 0 0)], true⟩, (igmp3_t4_k2 b38 bs i A5 c5 al ga), ⟨b39, 49, [some (.slice none 0 0), some (.slice none 0 0)], true⟩, (igmp3_t4_k3 b1075 bs i)]) (Kr := (Kr ++ Kd)) h) [(0, []), (1, []), (2, []), (3, []), (4, []), (5, [])] rfl)), ?_⟩)
          refine dtake (f := 1) [16] (by kernel_rfl) (St.closed _ _ _ _) (fun _ h => (St.wk (St.untail (K := [(igmp3_t4_k0 b52 bs AQ N cQ), (igmp3_t4_k5 b4), (igmp3_t4_k4 b50 b1020 b1029 v), (igmp3_t4_k1 b1020 bs), ⟨b1029, 22, [some (.slice none 0 0)], true⟩, (igmp3_t4_k2 b38 bs i A5 c5 al ga), ⟨b39, 49, [some (.slice none 0 0), some (.slice none 0 0)], true⟩, (igmp3_t4_k3 b1075 bs i)]) (Kr := (Kr ++ Kd)) h) [(0, []), (1, []), (2, []), (3, []), (4, []), (5, [])] rfl)) (by kernel_rfl) ?_
          refine dq rfl (q_build (vs := [(0, (.slice (some ⟨b1075, 0, none⟩) 4 4)), (1, (.slice Ad ((rof bs i + 8) - (rof bs i + 4)) cd))]) (v := (.agg #[(.slice (some ⟨b1075, 0, none⟩) 4 4), (.slice Ad ((rof bs i + 8) - (rof bs i + 4)) cd)])) rfl (fun _ => by kernel_rfl)) ?_
          refine QL.nil ?_
          refine RG.step1 18 (by kernel_rfl) ?_
          refine dop rfl (l_storeAgg (b := b39) (off := 0) (j := 6) (vs := [(.slice (some ⟨b1075, 0, none⟩) 4 4), (.slice Ad ((rof bs i + 8) - (rof bs i + 4)) cd)]) rfl rfl aggs_49 (by simp [Value.one1]) rfl rfl rfl (Nat.le_of_ble_eq_true rfl) ⟨(fun _ h => (St.wk (St.untail (K := [(igmp3_t4_k0 b52 bs AQ N cQ), (igmp3_t4_k5 b4), (igmp3_t4_k4 b50 b1020 b1029 v), (igmp3_t4_k1 b1020 bs), ⟨b1029, 22, [some (.slice none 0 0)], true⟩, (igmp3_t4_k2 b38 bs i A5 c5 al ga), (igmp3_t4_k8 b39 b1075 Ad bs i cd), (igmp3_t4_k3 b1075 bs i)]) (Kr := (Kr ++ Kd)) h) [(0, []), (1, []), (2, []), (3, []), (4, []), (5, [])] rfl)), ?_⟩)
          refine dend (by kernel_rfl) ?_
          exact ecut ⟨(b1075, b39, Ad, cd, Kd), hd⟩ ⟨rfl, rfl, rfl, rfl, rfl, rfl, rfl, rfl, trivial⟩ (fun _ h => (St.selT (K := [(igmp3_t4_k0 b52 bs AQ N cQ), (igmp3_t4_k5 b4), (igmp3_t4_k4 b50 b1020 b1029 v), (igmp3_t4_k1 b1020 bs), ⟨b1029, 22, [some (.slice none 0 0)], true⟩, (igmp3_t4_k2 b38 bs i A5 c5 al ga), (igmp3_t4_k8 b39 b1075 Ad bs i cd), (igmp3_t4_k3 b1075 bs i)]) (Kr := (Kr ++ Kd)) h [0, 1, 2, 3, 4, 5, 7, 6] rfl rfl))
      · refine dop rfl (l_allocT (K := [(igmp3_t4_k0 b52 bs AQ N cQ), (igmp3_t4_k5 b4), (igmp3_t4_k4 b50 b1020 b1029 v), (igmp3_t4_k1 b1020 bs), ⟨b1029, 22, [some (.slice none 0 0)], true⟩, (igmp3_t4_k2 b38 bs i A5 c5 al ga)]) (Kr := Kr) (by decide) zero_49 fun b39 => ⟨(fun _ h => (St.wk (St.untail (K := [(igmp3_t4_k0 b52 bs AQ N cQ), (igmp3_t4_k5 b4), (igmp3_t4_k4 b50 b1020 b1029 v), (igmp3_t4_k1 b1020 bs), ⟨b1029, 22, [some (.slice none 0 0)], true⟩, (igmp3_t4_k2 b38 bs i A5 c5 al ga), ⟨b39, 49, [some (.slice none 0 0), some (.slice none 0 0)], true⟩]) (Kr := Kr) h) [(0, []), (1, []), (2, []), (3, []), (4, []), (5, [])] rfl)), ?_⟩)
        refine RG.step2 12 15 (by kernel_rfl) ?_ ?_
        · refine dop rfl (l_buildSliceT (K := [(igmp3_t4_k0 b52 bs AQ N cQ), (igmp3_t4_k5 b4), (igmp3_t4_k4 b50 b1020 b1029 v), (igmp3_t4_k1 b1020 bs), ⟨b1029, 22, [some (.slice none 0 0)], true⟩, (igmp3_t4_k2 b38 bs i A5 c5 al ga), ⟨b39, 49, [some (.slice none 0 0), some (.slice none 0 0)], true⟩]) (Kr := Kr) (e := 39) (vs := [(0, (.int .u64 ((nb bs (rof bs i) : Nat) : Int))), (1, (.int .u64 ((nb bs (rof bs i + 1) : Nat) : Int))), (2, (.int .u64 ((bN bs (rof bs i + 2) 2 : Nat) : Int))), (3, (.int .u64 ((0 : Nat) : Int)))]) (cs := [(.int .u64 ((nb bs (rof bs i) : Nat) : Int)), (.int .u64 ((nb bs (rof bs i + 1) : Nat) : Int)), (.int .u64 ((bN bs (rof bs i + 2) 2 : Nat) : Int)), (.int .u64 ((0 : Nat) : Int))]) (by decide) rfl (fun _ => by kernel_rfl) fun b1075 => ⟨(fun _ h => (St.wk (St.untail (K := [(igmp3_t4_k0 b52 bs AQ N cQ), (igmp3_t4_k5 b4), (igmp3_t4_k4 b50 b1020 b1029 v), (igmp3_t4_k1 b1020 bs), ⟨b1029, 22, [some (.slice none 0 0)], true⟩, (igmp3_t4_k2 b38 bs i A5 c5 al ga), ⟨b39, 49, [some (.slice none 0 0), some (.slice none 0 0)], true⟩, (igmp3_t4_k3 b1075 bs i)]) (Kr := Kr) h) [(0, []), (1, []), (2, []), (3, []), (4, []), (5, [])] rfl)), ?_⟩)
          refine RG.step1 15 (by kernel_rfl) ?_
          refine dop rfl (l_callX (ι := {p : Option Addr × Nat × List Kb // RowS 5 1 ((rof bs i + 8) - (rof bs i + 4)) (bv (sl bs (rof bs i + 4) (rof bs i + 8))) (.slice p.1 ((rof bs i + 8) - (rof bs i + 4)) p.2.1) p.2.2}) (vs := [(.slice (cutA A5 c5 (rof bs i + 4)) ((rof bs i + 8) - (rof bs i + 4)) (c5 - (rof bs i + 4)))]) (vv := fun p => .slice p.1.1 ((rof bs i + 8) - (rof bs i + 4)) p.1.2.1) (Kc := []) (Kc' := fun p => p.1.2.2) (Bx := [Byt A5 n c5 bs, Cel AQ N cQ 6 (rowX (fun j => (fun j a d => [.int .u8 ((nb bs (rof bs j) : Nat) : Int), .int .u8 ((nb bs (rof bs j + 1) : Nat) : Int), .int .u16 ((bN bs (rof bs j + 2) 2 : Nat) : Int), .slice (cutA A5 c5 (rof bs j + 4)) ((rof bs j + 8) - (rof bs j + 4)) (c5 - (rof bs j + 4)), .slice a (bN bs (rof bs j + 2) 2) d, .int .u32 ((0 : Nat) : Int)]) j (al j) (ga j)) N), SF al ga (fun j => bN bs (rof bs j + 2) 2) (fun j => rowX (fun t => [.slice (cutA A5 c5 ((rof bs j + 8) + (t * 4))) (((rof bs j + 12) + (t * 4)) - ((rof bs j + 8) + (t * 4))) (c5 - ((rof bs j + 8) + (t * 4)))]) (bN bs (rof bs j + 2) 2)) N, psF ps, Byt (cutA A5 c5 (rof bs i + 4)) ((rof bs i + 8) - (rof bs i + 4)) (c5 - (rof bs i + 4)) (sl bs (rof bs i + 4) (rof bs i + 8))]) (Bc := [Byt (cutA A5 c5 (rof bs i + 4)) ((rof bs i + 8) - (rof bs i + 4)) (c5 - (rof bs i + 4)) (sl bs (rof bs i + 4) (rof bs i + 8))]) (Bn := fun _ => []) (K' := fun p => [(igmp3_t4_k0 b52 bs AQ N cQ), (igmp3_t4_k5 b4), (igmp3_t4_k4 b50 b1020 b1029 v), (igmp3_t4_k1 b1020 bs), ⟨b1029, 22, [some (.slice none 0 0)], true⟩, (igmp3_t4_k2 b38 bs i A5 c5 al ga), ⟨b39, 49, [some (.slice none 0 0), some (.slice none 0 0)], true⟩, (igmp3_t4_k3 b1075 bs i)] ++ Kr ++ p.1.2.2) [] [4] (by decide) rfl ca_60 rfl (fun _ h => h.cut (j := 0) (lo := rof bs i + 4) (hi := rof bs i + 8) rfl (by omega) (by omega)) rfl rfl rfl (fun w h => cloneR w (cutA A5 c5 (rof bs i + 4)) ((rof bs i + 8) - (rof bs i + 4)) (c5 - (rof bs i + 4)) (sl bs (rof bs i + 4) (rof bs i + 8)) (by omega) (by omega) h) (fun _ => rfl) (fun p => RowS.allrw p.2) (fun p => congrArg (· ++ p.1.2.2) (minusK_none _ 0)) fun ⟨(Ad, cd, Kd), hd⟩ _ _ => ⟨(fun _ h => (St.wk (St.untail (K := [(igmp3_t4_k0 b52 bs AQ N cQ), (igmp3_t4_k5 b4), (igmp3_t4_k4 b50 b1020 b1029 v), (igmp3_t4_k1 b1020 bs), ⟨b1029, 22, [some (.slice none 0 0)], true⟩, (igmp3_t4_k2 b38 bs i A5 c5 al ga), ⟨b39, 49, [some (.slice none 0 0), some (.slice none 0 0)], true⟩, (igmp3_t4_k3 b1075 bs i)]) (Kr := (Kr ++ Kd)) h) [(0, []), (1, []), (2, []), (3, []), (4, []), (5, [])] rfl)), ?_⟩)
          refine dtake (f := 1) [16] (by kernel_rfl) (St.closed _ _ _ _) (fun _ h => (St.wk (St.untail (K := [(igmp3_t4_k0 b52 bs AQ N cQ), (igmp3_t4_k5 b4), (igmp3_t4_k4 b50 b1020 b1029 v), (igmp3_t4_k1 b1020 bs), ⟨b1029, 22, [some (.slice none 0 0)], true⟩, (igmp3_t4_k2 b38 bs i A5 c5 al ga), ⟨b39, 49, [some (.slice none 0 0), some (.slice none 0 0)], true⟩, (igmp3_t4_k3 b1075 bs i)]) (Kr := (Kr ++ Kd)) h) [(0, []), (1, []), (2, []), (3, []), (4, []), (5, [])] rfl)) (by kernel_rfl) ?_
          refine dq rfl (q_build (vs := [(0, (.slice (some ⟨b1075, 0, none⟩) 4 4)), (1, (.slice Ad ((rof bs i + 8) - (rof bs i + 4)) cd))]) (v := (.agg #[(.slice (some ⟨b1075, 0, none⟩) 4 4), (.slice Ad ((rof bs i + 8) - (rof bs i + 4)) cd)])) rfl (fun _ => by kernel_rfl)) ?_
          refine QL.nil ?_
          refine RG.step1 18 (by kernel_rfl) ?_
          refine dop rfl (l_storeAgg (b := b39) (off := 0) (j := 6) (vs := [(.slice (some ⟨b1075, 0, none⟩) 4 4), (.slice Ad ((rof bs i + 8) - (rof bs i + 4)) cd)]) rfl rfl aggs_49 (by simp [Value.one1]) rfl rfl rfl (Nat.le_of_ble_eq_true rfl) ⟨(fun _ h => (St.wk (St.untail (K := [(igmp3_t4_k0 b52 bs AQ N cQ), (igmp3_t4_k5 b4), (igmp3_t4_k4 b50 b1020 b1029 v), (igmp3_t4_k1 b1020 bs), ⟨b1029, 22, [some (.slice none 0 0)], true⟩, (igmp3_t4_k2 b38 bs i A5 c5 al ga), (igmp3_t4_k8 b39 b1075 Ad bs i cd), (igmp3_t4_k3 b1075 bs i)]) (Kr := (Kr ++ Kd)) h) [(0, []), (1, []), (2, []), (3, []), (4, []), (5, [])] rfl)), ?_⟩)
          refine dend (by kernel_rfl) ?_
          exact ecut ⟨(b1075, b39, Ad, cd, Kd), hd⟩ ⟨rfl, rfl, rfl, rfl, rfl, rfl, rfl, rfl, trivial⟩ (fun _ h => (St.selT (K := [(igmp3_t4_k0 b52 bs AQ N cQ), (igmp3_t4_k5 b4), (igmp3_t4_k4 b50 b1020 b1029 v), (igmp3_t4_k1 b1020 bs), ⟨b1029, 22, [some (.slice none 0 0)], true⟩, (igmp3_t4_k2 b38 bs i A5 c5 al ga), (igmp3_t4_k8 b39 b1075 Ad bs i cd), (igmp3_t4_k3 b1075 bs i)]) (Kr := (Kr ++ Kd)) h [0, 1, 2, 3, 4, 5, 7, 6] rfl rfl))
        · refine dop rfl (l_callX (ι := {p : Option Addr × Nat × List Kb // RowS 5 1 ((rof bs i + 8) - (rof bs i + 4)) (bv (sl bs (rof bs i + 4) (rof bs i + 8))) (.slice p.1 ((rof bs i + 8) - (rof bs i + 4)) p.2.1) p.2.2}) (vs := [(.slice (cutA A5 c5 (rof bs i + 4)) ((rof bs i + 8) - (rof bs i + 4)) (c5 - (rof bs i + 4)))]) (vv := fun p => .slice p.1.1 ((rof bs i + 8) - (rof bs i + 4)) p.1.2.1) (Kc := []) (Kc' := fun p => p.1.2.2) (Bx := [Byt A5 n c5 bs, Cel AQ N cQ 6 (rowX (fun j => (fun j a d => [.int .u8 ((nb bs (rof bs j) : Nat) : Int), .int .u8 ((nb bs (rof bs j + 1) : Nat) : Int), .int .u16 ((bN bs (rof bs j + 2) 2 : Nat) : Int), .slice (cutA A5 c5 (rof bs j + 4)) ((rof bs j + 8) - (rof bs j + 4)) (c5 - (rof bs j + 4)), .slice a (bN bs (rof bs j + 2) 2) d, .int .u32 ((0 : Nat) : Int)]) j (al j) (ga j)) N), SF al ga (fun j => bN bs (rof bs j + 2) 2) (fun j => rowX (fun t => [.slice (cutA A5 c5 ((rof bs j + 8) + (t * 4))) (((rof bs j + 12) + (t * 4)) - ((rof bs j + 8) + (t * 4))) (c5 - ((rof bs j + 8) + (t * 4)))]) (bN bs (rof bs j + 2) 2)) N, psF ps, Byt (cutA A5 c5 (rof bs i + 4)) ((rof bs i + 8) - (rof bs i + 4)) (c5 - (rof bs i + 4)) (sl bs (rof bs i + 4) (rof bs i + 8))]) (Bc := [Byt (cutA A5 c5 (rof bs i + 4)) ((rof bs i + 8) - (rof bs i + 4)) (c5 - (rof bs i + 4)) (sl bs (rof bs i + 4) (rof bs i + 8))]) (Bn := fun _ => []) (K' := fun p => [(igmp3_t4_k0 b52 bs AQ N cQ), (igmp3_t4_k5 b4), (igmp3_t4_k4 b50 b1020 b1029 v), (igmp3_t4_k1 b1020 bs), ⟨b1029, 22, [some (.slice none 0 0)], true⟩, (igmp3_t4_k2 b38 bs i A5 c5 al ga), ⟨b39, 49, [some (.slice none 0 0), some (.slice none 0 0)], true⟩] ++ Kr ++ p.1.2.2) [] [4] (by decide) rfl ca_60 rfl (fun _ h => h.cut (j := 0) (lo := rof bs i + 4) (hi := rof bs i + 8) rfl (by omega) (by omega)) rfl rfl rfl (fun w h => cloneR w (cutA A5 c5 (rof bs i + 4)) ((rof bs i + 8) - (rof bs i + 4)) (c5 - (rof bs i + 4)) (sl bs (rof bs i + 4) (rof bs i + 8)) (by omega) (by omega) h) (fun _ => rfl) (fun p => RowS.allrw p.2) (fun p => congrArg (· ++ p.1.2.2) (minusK_none _ 0)) fun ⟨(Ad, cd, Kd), hd⟩ _ _ => ⟨(fun _ h => (St.wk (St.untail (K := [(igmp3_t4_k0 b52 bs AQ N cQ), (igmp3_t4_k5 b4), (igmp3_t4_k4 b50 b1020 b1029 v), (igmp3_t4_k1 b1020 bs), ⟨b1029, 22, [some (.slice none 0 0)], true⟩, (igmp3_t4_k2 b38 bs i A5 c5 al ga), ⟨b39, 49, [some (.slice none 0 0), some (.slice none 0 0)], true⟩]) (Kr := (Kr ++ Kd)) h) [(0, []), (1, []), (2, []), (3, []), (4, []), (5, [])] rfl)), ?_⟩)
          refine RG.step1 12 (by kernel_rfl) ?_
          refine dop rfl (l_buildSliceT (K := [(igmp3_t4_k0 b52 bs AQ N cQ), (igmp3_t4_k5 b4), (igmp3_t4_k4 b50 b1020 b1029 v), (igmp3_t4_k1 b1020 bs), ⟨b1029, 22, [some (.slice none 0 0)], true⟩, (igmp3_t4_k2 b38 bs i A5 c5 al ga), ⟨b39, 49, [some (.slice none 0 0), some (.slice none 0 0)], true⟩]) (Kr := (Kr ++ Kd)) (e := 39) (vs := [(0, (.int .u64 ((nb bs (rof bs i) : Nat) : Int))), (1, (.int .u64 ((nb bs (rof bs i + 1) : Nat) : Int))), (2, (.int .u64 ((bN bs (rof bs i + 2) 2 : Nat) : Int))), (3, (.int .u64 ((0 : Nat) : Int)))]) (cs := [(.int .u64 ((nb bs (rof bs i) : Nat) : Int)), (.int .u64 ((nb bs (rof bs i + 1) : Nat) : Int)), (.int .u64 ((bN bs (rof bs i + 2) 2 : Nat) : Int)), (.int .u64 ((0 : Nat) : Int))]) (by decide) rfl (fun _ => by kernel_rfl) fun b1075 => ⟨(fun _ h => (St.wk (St.untail (K := [(igmp3_t4_k0 b52 bs AQ N cQ), (igmp3_t4_k5 b4), (igmp3_t4_k4 b50 b1020 b1029 v), (igmp3_t4_k1 b1020 bs), ⟨b1029, 22, [some (.slice none 0 0)], true⟩, (igmp3_t4_k2 b38 bs i A5 c5 al ga), ⟨b39, 49, [some (.slice none 0 0), some (.slice none 0 0)], true⟩, (igmp3_t4_k3 b1075 bs i)]) (Kr := (Kr ++ Kd)) h) [(0, []), (1, []), (2, []), (3, []), (4, []), (5, [])] rfl)), ?_⟩)
          refine dtake (f := 1) [16] (by kernel_rfl) (St.closed _ _ _ _) (fun _ h => (St.wk (St.untail (K := [(igmp3_t4_k0 b52 bs AQ N cQ), (igmp3_t4_k5 b4), (igmp3_t4_k4 b50 b1020 b1029 v), (igmp3_t4_k1 b1020 bs), ⟨b1029, 22, [some (.slice none 0 0)], true⟩, (igmp3_t4_k2 b38 bs i A5 c5 al ga), ⟨b39, 49, [some (.slice none 0 0), some (.slice none 0 0)], true⟩, (igmp3_t4_k3 b1075 bs i)]) (Kr := (Kr ++ Kd)) h) [(0, []), (1, []), (2, []), (3, []), (4, []), (5, [])] rfl)) (by kernel_rfl) ?_
          refine dq rfl (q_build (vs := [(0, (.slice (some ⟨b1075, 0, none⟩) 4 4)), (1, (.slice Ad ((rof bs i + 8) - (rof bs i + 4)) cd))]) (v := (.agg #[(.slice (some ⟨b1075, 0, none⟩) 4 4), (.slice Ad ((rof bs i + 8) - (rof bs i + 4)) cd)])) rfl (fun _ => by kernel_rfl)) ?_
          refine QL.nil ?_
          refine RG.step1 18 (by kernel_rfl) ?_
          refine dop rfl (l_storeAgg (b := b39) (off := 0) (j := 6) (vs := [(.slice (some ⟨b1075, 0, none⟩) 4 4), (.slice Ad ((rof bs i + 8) - (rof bs i + 4)) cd)]) rfl rfl aggs_49 (by simp [Value.one1]) rfl rfl rfl (Nat.le_of_ble_eq_true rfl) ⟨(fun _ h => (St.wk (St.untail (K := [(igmp3_t4_k0 b52 bs AQ N cQ), (igmp3_t4_k5 b4), (igmp3_t4_k4 b50 b1020 b1029 v), (igmp3_t4_k1 b1020 bs), ⟨b1029, 22, [some (.slice none 0 0)], true⟩, (igmp3_t4_k2 b38 bs i A5 c5 al ga), (igmp3_t4_k8 b39 b1075 Ad bs i cd), (igmp3_t4_k3 b1075 bs i)]) (Kr := (Kr ++ Kd)) h) [(0, []), (1, []), (2, []), (3, []), (4, []), (5, [])] rfl)), ?_⟩)
          refine dend (by kernel_rfl) ?_
          exact ecut ⟨(b1075, b39, Ad, cd, Kd), hd⟩ ⟨rfl, rfl, rfl, rfl, rfl, rfl, rfl, rfl, trivial⟩ (fun _ h => (St.selT (K := [(igmp3_t4_k0 b52 bs AQ N cQ), (igmp3_t4_k5 b4), (igmp3_t4_k4 b50 b1020 b1029 v), (igmp3_t4_k1 b1020 bs), ⟨b1029, 22, [some (.slice none 0 0)], true⟩, (igmp3_t4_k2 b38 bs i A5 c5 al ga), (igmp3_t4_k8 b39 b1075 Ad bs i cd), (igmp3_t4_k3 b1075 bs i)]) (Kr := (Kr ++ Kd)) h [0, 1, 2, 3, 4, 5, 7, 6] rfl rfl))
    replace hd : RowS 5 1 ((rof bs i + 8) - (rof bs i + 4)) (bv (sl bs (rof bs i + 4) (rof bs i + 8))) (.slice Ad ((rof bs i + 8) - (rof bs i + 4)) cd) Kd := hd
    show HT _ _ _ [(4, (.pointer (some ⟨b4, 0, none⟩))), (5, (.bool false)), (6, (.pointer (some ⟨b50, 0, none⟩))), (38, (.pointer (some ⟨b38, 0, none⟩))), (39, (.pointer (some ⟨b39, 0, none⟩))), (1057, (.slice AQ N cQ)), (1058, (.int .i64 ((N : Nat) : Int))), (1059, (.int .i64 ((i : Nat) : Int)))] (St w [] ([(igmp3_t4_k0 b52 bs AQ N cQ), (igmp3_t4_k5 b4), (igmp3_t4_k4 b50 b1020 b1029 v), (igmp3_t4_k1 b1020 bs), ⟨b1029, 22, [some (.slice none 0 0)], true⟩, (igmp3_t4_k2 b38 bs i A5 c5 al ga), (igmp3_t4_k3 b1075 bs i), (igmp3_t4_k8 b39 b1075 Ad bs i cd)] ++ (Kr ++ Kd)) [Byt A5 n c5 bs, Cel AQ N cQ 6 (rowX (fun j => (fun j a d => [.int .u8 ((nb bs (rof bs j) : Nat) : Int), .int .u8 ((nb bs (rof bs j + 1) : Nat) : Int), .int .u16 ((bN bs (rof bs j + 2) 2 : Nat) : Int), .slice (cutA A5 c5 (rof bs j + 4)) ((rof bs j + 8) - (rof bs j + 4)) (c5 - (rof bs j + 4)), .slice a (bN bs (rof bs j + 2) 2) d, .int .u32 ((0 : Nat) : Int)]) j (al j) (ga j)) N), SF al ga (fun j => bN bs (rof bs j + 2) 2) (fun j => rowX (fun t => [.slice (cutA A5 c5 ((rof bs j + 8) + (t * 4))) (((rof bs j + 12) + (t * 4)) - ((rof bs j + 8) + (t * 4))) (c5 - ((rof bs j + 8) + (t * 4)))]) (bN bs (rof bs j + 2) 2)) N, psF ps]) _
    refine HT.seq ?_
    refine HT.seq ?_
    refine HT.plain ?_
    refine sqS (q_field (b := b38) (off := 0) rfl fo_182_4) rfl ?_
    refine sqS (q_load (b := b38) (off := 4) (j := 5) rfl nagg_168 (fun _ h => h) rfl rfl rfl) rfl ?_
    refine sqS (q_len (len := bN bs (rof bs i + 2) 2) rfl Tryz.underlying168) rfl ?_
    refine sMv rfl rfl ?_
    refine send ?_
    refine eseq ?_
    refine HT.block ?_
    refine HT.loop (ι := {p : Nat × Value × List Kb // p.1 ≤ bN bs (rof bs i + 2) 2 ∧ RowS 5 1 (4 + 4 * p.1) (bv (sl bs (rof bs i + 4) ((rof bs i + 8) + 4 * p.1))) p.2.1 p.2.2}) (fun p => [(4, (.pointer (some ⟨b4, 0, none⟩))), (5, (.bool false)), (6, (.pointer (some ⟨b50, 0, none⟩))), (39, (.pointer (some ⟨b39, 0, none⟩))), (1057, (.slice AQ N cQ)), (1058, (.int .i64 ((N : Nat) : Int))), (1059, (.int .i64 ((i : Nat) : Int))), (1081, (.slice (al i) (bN bs (rof bs i + 2) 2) (ga i))), (1082, (.int .i64 ((bN bs (rof bs i + 2) 2 : Nat) : Int))), (1083, (.int .i64 ((p.1.1 : Nat) : Int)))]) (fun p => St w [] ([(igmp3_t4_k0 b52 bs AQ N cQ), (igmp3_t4_k5 b4), (igmp3_t4_k4 b50 b1020 b1029 v), (igmp3_t4_k1 b1020 bs), ⟨b1029, 22, [some (.slice none 0 0)], true⟩, (igmp3_t4_k2 b38 bs i A5 c5 al ga), (igmp3_t4_k3 b1075 bs i), ⟨b39, 49, [some (.slice (some ⟨b1075, 0, none⟩) 4 4), some p.1.2.1], true⟩] ++ (Kr ++ p.1.2.2)) [Byt A5 n c5 bs, Cel AQ N cQ 6 (rowX (fun j => (fun j a d => [.int .u8 ((nb bs (rof bs j) : Nat) : Int), .int .u8 ((nb bs (rof bs j + 1) : Nat) : Int), .int .u16 ((bN bs (rof bs j + 2) 2 : Nat) : Int), .slice (cutA A5 c5 (rof bs j + 4)) ((rof bs j + 8) - (rof bs j + 4)) (c5 - (rof bs j + 4)), .slice a (bN bs (rof bs j + 2) 2) d, .int .u32 ((0 : Nat) : Int)]) j (al j) (ga j)) N), SF al ga (fun j => bN bs (rof bs j + 2) 2) (fun j => rowX (fun t => [.slice (cutA A5 c5 ((rof bs j + 8) + (t * 4))) (((rof bs j + 12) + (t * 4)) - ((rof bs j + 8) + (t * 4))) (c5 - ((rof bs j + 8) + (t * 4)))]) (bN bs (rof bs j + 2) 2)) N, psF ps]) (fun p => bN bs (rof bs i + 2) 2 - p.1.1) ⟨(0, (.slice Ad ((rof bs i + 8) - (rof bs i + 4)) cd), Kd), Nat.zero_le _, RowS.castB hd (by omega) (slb (by omega))⟩ ⟨rfl, rfl, rfl, rfl, rfl, rfl, rfl, rfl, rfl, rfl, trivial⟩ (fun _ h => h) fun ⟨⟨q, v2, Kr2⟩, hql, hr2⟩ => ?_
    replace hql : q ≤ bN bs (rof bs i + 2) 2 := hql
    replace hr2 : RowS 5 1 (4 + 4 * q) (bv (sl bs (rof bs i + 4) ((rof bs i + 8) + 4 * q))) v2 Kr2 := hr2
    show HT _ _ _ [(4, (.pointer (some ⟨b4, 0, none⟩))), (5, (.bool false)), (6, (.pointer (some ⟨b50, 0, none⟩))), (39, (.pointer (some ⟨b39, 0, none⟩))), (1057, (.slice AQ N cQ)), (1058, (.int .i64 ((N : Nat) : Int))), (1059, (.int .i64 ((i : Nat) : Int))), (1081, (.slice (al i) (bN bs (rof bs i + 2) 2) (ga i))), (1082, (.int .i64 ((bN bs (rof bs i + 2) 2 : Nat) : Int))), (1083, (.int .i64 ((q : Nat) : Int)))] (St w [] ([(igmp3_t4_k0 b52 bs AQ N cQ), (igmp3_t4_k5 b4), (igmp3_t4_k4 b50 b1020 b1029 v), (igmp3_t4_k1 b1020 bs), ⟨b1029, 22, [some (.slice none 0 0)], true⟩, (igmp3_t4_k2 b38 bs i A5 c5 al ga), (igmp3_t4_k3 b1075 bs i), ⟨b39, 49, [some (.slice (some ⟨b1075, 0, none⟩) 4 4), some v2], true⟩] ++ (Kr ++ Kr2)) [Byt A5 n c5 bs, Cel AQ N cQ 6 (rowX (fun j => (fun j a d => [.int .u8 ((nb bs (rof bs j) : Nat) : Int), .int .u8 ((nb bs (rof bs j + 1) : Nat) : Int), .int .u16 ((bN bs (rof bs j + 2) 2 : Nat) : Int), .slice (cutA A5 c5 (rof bs j + 4)) ((rof bs j + 8) - (rof bs j + 4)) (c5 - (rof bs j + 4)), .slice a (bN bs (rof bs j + 2) 2) d, .int .u32 ((0 : Nat) : Int)]) j (al j) (ga j)) N), SF al ga (fun j => bN bs (rof bs j + 2) 2) (fun j => rowX (fun t => [.slice (cutA A5 c5 ((rof bs j + 8) + (t * 4))) (((rof bs j + 12) + (t * 4)) - ((rof bs j + 8) + (t * 4))) (c5 - ((rof bs j + 8) + (t * 4)))]) (bN bs (rof bs j + 2) 2)) N, psF ps]) _
    refine HT.seq ?_
    refine HT.plain ?_
    refine sqS (q_lt (p := q) (q := bN bs (rof bs i + 2) 2) rfl rfl) rfl ?_
    refine send ?_
    refine eseq ?_
    refine HT.seq ?_
    refine condd rfl (fun h2 => ?_) (fun h2 => ?_)
    · refine HT.skip ?_
      refine eseq ?_
      refine HT.seq ?_
      refine HT.block ?_
      refine HT.seq ?_
      refine HT.plain ?_
      refine sqS (q_indexC (i := q) (sz := 1) rfl rfl Tryz.underlying168 size_171 (fun _ h => SF.get (h.fact (j := 2) rfl) (by omega)) (by decide) (by omega)) rfl ?_
      refine sqS (q_celLoad (i := q * 1) rfl nagg_171 (fun _ h => SF.get (h.fact (j := 2) rfl) (by omega)) (rowX_get _ _ _ (by omega))) rfl ?_
      refine sAs rfl rfl ?_
      refine send ?_
      refine eseq ?_
      refine HT.plain ?_
      refine sqS (q_field (b := b39) (off := 0) rfl fo_49_1) rfl ?_
      refine sqS (q_load (b := b39) (off := 1) (j := 7) rfl nagg_22 (fun _ h => h) rfl rfl rfl) rfl ?_
      refine sMv rfl rfl ?_
      refine sl_ (l_appendBy (K0 := ([(igmp3_t4_k0 b52 bs AQ N cQ), (igmp3_t4_k5 b4), (igmp3_t4_k4 b50 b1020 b1029 v), (igmp3_t4_k1 b1020 bs), ⟨b1029, 22, [some (.slice none 0 0)], true⟩, (igmp3_t4_k2 b38 bs i A5 c5 al ga), (igmp3_t4_k3 b1075 bs i), ⟨b39, 49, [some (.slice (some ⟨b1075, 0, none⟩) 4 4), some v2], true⟩] ++ Kr)) (Kr := Kr2) (k := (4 + 4 * q)) (xs := (bv (sl bs (rof bs i + 4) ((rof bs i + 8) + 4 * q)))) (q := 4) (by decide) rfl rfl Tryz.underlying22 Tryz.underlying171 byteT_5 hr2 (by omega) (by omega) (by omega) (Bx := [Byt A5 n c5 bs, Cel AQ N cQ 6 (rowX (fun j => (fun j a d => [.int .u8 ((nb bs (rof bs j) : Nat) : Int), .int .u8 ((nb bs (rof bs j + 1) : Nat) : Int), .int .u16 ((bN bs (rof bs j + 2) 2 : Nat) : Int), .slice (cutA A5 c5 (rof bs j + 4)) ((rof bs j + 8) - (rof bs j + 4)) (c5 - (rof bs j + 4)), .slice a (bN bs (rof bs j + 2) 2) d, .int .u32 ((0 : Nat) : Int)]) j (al j) (ga j)) N), SF al ga (fun j => bN bs (rof bs j + 2) 2) (fun j => rowX (fun t => [.slice (cutA A5 c5 ((rof bs j + 8) + (t * 4))) (((rof bs j + 12) + (t * 4)) - ((rof bs j + 8) + (t * 4))) (c5 - ((rof bs j + 8) + (t * 4)))]) (bN bs (rof bs j + 2) 2)) N, psF ps, Byt (cutA A5 c5 ((rof bs i + 8) + (q * 4))) (((rof bs i + 12) + (q * 4)) - ((rof bs i + 8) + (q * 4))) (c5 - ((rof bs i + 8) + (q * 4))) (sl bs ((rof bs i + 8) + (q * 4)) ((rof bs i + 12) + (q * 4)))]) (fun _ h => h.cut (j := 0) (lo := (rof bs i + 8) + (q * 4)) (hi := (rof bs i + 12) + (q * 4)) rfl (by omega) (by omega)) rfl fun v1090 Kr1090 hr1090 => ?_)
      refine sqS (q_field (b := b39) (off := 0) rfl fo_49_1) rfl ?_
      refine sl_ (l_store (b := b39) (off := 1) (j := 7) rfl rfl nagg_22 hr1090.one rfl rfl rfl (dlt rfl) ?_)
      refine send ?_
      refine ein ?_
      refine eseq ?_
      refine HT.norm ([(igmp3_t4_k0 b52 bs AQ N cQ), (igmp3_t4_k5 b4), (igmp3_t4_k4 b50 b1020 b1029 v), (igmp3_t4_k1 b1020 bs), ⟨b1029, 22, [some (.slice none 0 0)], true⟩, (igmp3_t4_k2 b38 bs i A5 c5 al ga), (igmp3_t4_k3 b1075 bs i), ⟨b39, 49, [some (.slice (some ⟨b1075, 0, none⟩) 4 4), some v1090], true⟩] ++ (Kr ++ Kr1090)) [Byt A5 n c5 bs, Cel AQ N cQ 6 (rowX (fun j => (fun j a d => [.int .u8 ((nb bs (rof bs j) : Nat) : Int), .int .u8 ((nb bs (rof bs j + 1) : Nat) : Int), .int .u16 ((bN bs (rof bs j + 2) 2 : Nat) : Int), .slice (cutA A5 c5 (rof bs j + 4)) ((rof bs j + 8) - (rof bs j + 4)) (c5 - (rof bs j + 4)), .slice a (bN bs (rof bs j + 2) 2) d, .int .u32 ((0 : Nat) : Int)]) j (al j) (ga j)) N), SF al ga (fun j => bN bs (rof bs j + 2) 2) (fun j => rowX (fun t => [.slice (cutA A5 c5 ((rof bs j + 8) + (t * 4))) (((rof bs j + 12) + (t * 4)) - ((rof bs j + 8) + (t * 4))) (c5 - ((rof bs j + 8) + (t * 4)))]) (bN bs (rof bs j + 2) 2)) N, psF ps] rfl rfl ?_
      refine HT.plain ?_
      refine sqS (q_add (p := q) (q := 1) rfl rfl (show q + 1 < 9223372036854775808 by have := bN_lt bs (rof bs i + 2) 2 65536 rfl; have := hql; omega)) rfl ?_
      refine sMv rfl rfl ?_
      refine send ?_
      exact eround ⟨(q + 1, v1090, Kr1090), by show q + 1 ≤ bN bs (rof bs i + 2) 2; omega, RowS.castB hr1090 (by omega) (bv_step (by omega) (by omega) (by omega) (by omega) (by omega))⟩ (show bN bs (rof bs i + 2) 2 - (q + 1) < bN bs (rof bs i + 2) 2 - q by omega) ⟨rfl, rfl, rfl, rfl, rfl, rfl, rfl, rfl, rfl, rfl, trivial⟩ (fun _ h => h)
    · refine HT.exit ?_
      refine ex_then ?_
      refine ex_then ?_
      refine ex_in ?_
      refine eseq ?_
      have hqk : q = bN bs (rof bs i + 2) 2 := by omega
      subst hqk
      refine HT.rowByt (K := ([(igmp3_t4_k0 b52 bs AQ N cQ), (igmp3_t4_k5 b4), (igmp3_t4_k4 b50 b1020 b1029 v), (igmp3_t4_k1 b1020 bs), ⟨b1029, 22, [some (.slice none 0 0)], true⟩, (igmp3_t4_k2 b38 bs i A5 c5 al ga), (igmp3_t4_k3 b1075 bs i), ⟨b39, 49, [some (.slice (some ⟨b1075, 0, none⟩) 4 4), some v2], true⟩] ++ Kr)) (Kr := Kr2) hr2 (fun _ h => nomatch h) fun AD cD hvD hncD hfD => ?_
      subst hvD
      refine HT.drawn mixed (St.closed _ _ _ _) (St w [] [(igmp3_t4_k0 b52 bs AQ N cQ), (igmp3_t4_k5 b4), ⟨b50, 29, [some (.slice (some ⟨b1020, 0, none⟩) 9 9), some (.slice (some ⟨b1029, 0, none⟩) 1 1), none, some (.slice none 0 0)], true⟩, (igmp3_t4_k1 b1020 bs), ⟨b1029, 22, [some (.slice none 0 0)], true⟩, (igmp3_t4_k2 b38 bs i A5 c5 al ga), (igmp3_t4_k3 b1075 bs i), (igmp3_t4_k6 b39 b1075 AD bs i cD)] [Byt A5 n c5 bs, Cel AQ N cQ 6 (rowX (fun j => (fun j a d => [.int .u8 ((nb bs (rof bs j) : Nat) : Int), .int .u8 ((nb bs (rof bs j + 1) : Nat) : Int), .int .u16 ((bN bs (rof bs j + 2) 2 : Nat) : Int), .slice (cutA A5 c5 (rof bs j + 4)) ((rof bs j + 8) - (rof bs j + 4)) (c5 - (rof bs j + 4)), .slice a (bN bs (rof bs j + 2) 2) d, .int .u32 ((0 : Nat) : Int)]) j (al j) (ga j)) N), SF al ga (fun j => bN bs (rof bs j + 2) 2) (fun j => rowX (fun t => [.slice (cutA A5 c5 ((rof bs j + 8) + (t * 4))) (((rof bs j + 12) + (t * 4)) - ((rof bs j + 8) + (t * 4))) (c5 - ((rof bs j + 8) + (t * 4)))]) (bN bs (rof bs j + 2) 2)) N, psF ps, Byt AD (4 + 4 * bN bs (rof bs i + 2) 2) cD (sl bs (rof bs i + 4) ((rof bs i + 8) + 4 * bN bs (rof bs i + 2) 2))]) ?_
      refine dtake (f := 6) [0, 1, 2, 3, 5] (by kernel_rfl) (St.closed _ _ _ _) (fun _ h => (St.wk (St.untail (K := [(igmp3_t4_k0 b52 bs AQ N cQ), (igmp3_t4_k5 b4), (igmp3_t4_k4 b50 b1020 b1029 v), (igmp3_t4_k1 b1020 bs), ⟨b1029, 22, [some (.slice none 0 0)], true⟩, (igmp3_t4_k2 b38 bs i A5 c5 al ga), (igmp3_t4_k3 b1075 bs i), (igmp3_t4_k6 b39 b1075 AD bs i cD)]) (Kr := Kr) h) [(0, []), (1, []), (2, [2]), (3, []), (4, []), (5, []), (6, []), (7, [])] rfl)) (by kernel_rfl) ?_
      refine dq rfl (q_move rfl) ?_
      refine dq rfl (q_move rfl) ?_
      refine dq rfl (q_nil rfl) ?_
      refine dq rfl (q_field (b := b50) (off := 0) rfl fo_29_2) ?_
      refine dq rfl (q_loadAgg (b := b39) (off := 0) (j := 7) (vs := [(.slice (some ⟨b1075, 0, none⟩) 4 4), (.slice AD (4 + 4 * bN bs (rof bs i + 2) 2) cD)]) rfl aggs_49 (fun _ h => h) rfl rfl rfl) ?_
      refine QL.nil ?_
      refine RG.step2 4 6 (by kernel_rfl) ?_ ?_
      · refine dop rfl (l_q _ (by simp) (St.closed _ _ _ _) (q_load (b := b50) (off := 2) (j := 2) rfl nagg_27 (fun _ h => h) rfl rfl rfl) ⟨(fun _ h => (St.wk (St.untail (K := [(igmp3_t4_k0 b52 bs AQ N cQ), (igmp3_t4_k5 b4), (igmp3_t4_k4 b50 b1020 b1029 v), (igmp3_t4_k1 b1020 bs), ⟨b1029, 22, [some (.slice none 0 0)], true⟩, (igmp3_t4_k2 b38 bs i A5 c5 al ga), (igmp3_t4_k3 b1075 bs i), (igmp3_t4_k6 b39 b1075 AD bs i cD)]) (Kr := Kr) h) [(0, []), (1, []), (2, [2]), (3, []), (4, []), (5, []), (6, []), (7, [])] rfl)), ?_⟩)
        refine RG.step1 6 (by kernel_rfl) ?_
        refine dop rfl (l_buildSliceT (K := [(igmp3_t4_k0 b52 bs AQ N cQ), (igmp3_t4_k5 b4), (igmp3_t4_k4 b50 b1020 b1029 v), (igmp3_t4_k1 b1020 bs), ⟨b1029, 22, [some (.slice none 0 0)], true⟩, (igmp3_t4_k2 b38 bs i A5 c5 al ga), (igmp3_t4_k3 b1075 bs i), (igmp3_t4_k6 b39 b1075 AD bs i cD)]) (Kr := Kr) (e := 49) (vs := [(0, (.agg #[(.slice (some ⟨b1075, 0, none⟩) 4 4), (.slice AD (4 + 4 * bN bs (rof bs i + 2) 2) cD)]))]) (cs := [(.slice (some ⟨b1075, 0, none⟩) 4 4), (.slice AD (4 + 4 * bN bs (rof bs i + 2) 2) cD)]) (by decide) rfl (fun _ => by kernel_rfl) fun b1099 => ⟨(fun _ h => (St.wk (St.untail (K := [(igmp3_t4_k0 b52 bs AQ N cQ), (igmp3_t4_k5 b4), (igmp3_t4_k4 b50 b1020 b1029 v), (igmp3_t4_k1 b1020 bs), ⟨b1029, 22, [some (.slice none 0 0)], true⟩, (igmp3_t4_k2 b38 bs i A5 c5 al ga), (igmp3_t4_k3 b1075 bs i), (igmp3_t4_k6 b39 b1075 AD bs i cD), (igmp3_t4_k7 b1099 b1075 AD bs i cD)]) (Kr := Kr) h) [(0, []), (1, []), (2, [2]), (3, []), (4, []), (5, []), (6, []), (7, [])] rfl)), ?_⟩)
        refine RG.step1 7 (by kernel_rfl) ?_
        refine dop rfl (l_appendR (K0 := [(igmp3_t4_k0 b52 bs AQ N cQ), (igmp3_t4_k5 b4), (igmp3_t4_k4 b50 b1020 b1029 v), (igmp3_t4_k1 b1020 bs), ⟨b1029, 22, [some (.slice none 0 0)], true⟩, (igmp3_t4_k2 b38 bs i A5 c5 al ga), (igmp3_t4_k3 b1075 bs i), (igmp3_t4_k6 b39 b1075 AD bs i cD), (igmp3_t4_k7 b1099 b1075 AD bs i cD)]) (Kr := Kr) (k := i) (xs := (psV ps)) (jq := 8) (news := [(.slice (some ⟨b1075, 0, none⟩) 4 4), (.slice AD (4 + 4 * bN bs (rof bs i + 2) 2) cD)]) (by decide) rfl rfl Tryz.underlying27 rowT_49 (by decide) hr (by have := hil; have := bN_lt bs 6 2 65536 rfl; omega) rfl rfl (by simp [Value.one1]) fun v1100 Kr1100 hr1100 => ⟨(fun _ h => (St.wk (St.untail (K := [(igmp3_t4_k0 b52 bs AQ N cQ), (igmp3_t4_k5 b4), (igmp3_t4_k4 b50 b1020 b1029 v), (igmp3_t4_k1 b1020 bs), ⟨b1029, 22, [some (.slice none 0 0)], true⟩, (igmp3_t4_k2 b38 bs i A5 c5 al ga), (igmp3_t4_k3 b1075 bs i), (igmp3_t4_k6 b39 b1075 AD bs i cD), (igmp3_t4_k7 b1099 b1075 AD bs i cD)]) (Kr := Kr1100) h) [(0, []), (1, []), (2, [2]), (3, []), (4, []), (5, []), (6, []), (7, [])] rfl)), ?_⟩)
        refine dtake (f := 1) [8, 9] (by kernel_rfl) (St.closed _ _ _ _) (fun _ h => (St.wk (St.untail (K := [(igmp3_t4_k0 b52 bs AQ N cQ), (igmp3_t4_k5 b4), (igmp3_t4_k4 b50 b1020 b1029 v), (igmp3_t4_k1 b1020 bs), ⟨b1029, 22, [some (.slice none 0 0)], true⟩, (igmp3_t4_k2 b38 bs i A5 c5 al ga), (igmp3_t4_k3 b1075 bs i), (igmp3_t4_k6 b39 b1075 AD bs i cD), (igmp3_t4_k7 b1099 b1075 AD bs i cD)]) (Kr := Kr1100) h) [(0, []), (1, []), (2, [2]), (3, []), (4, []), (5, []), (6, []), (7, [])] rfl)) (by kernel_rfl) ?_
        refine dq rfl (q_nil rfl) ?_
        refine dq rfl (q_field (b := b50) (off := 0) rfl fo_29_2) ?_
        refine QL.nil ?_
        refine RG.step1 10 (by kernel_rfl) ?_
        refine dop rfl (l_store (b := b50) (off := 2) (j := 2) rfl rfl nagg_27 hr1100.one rfl rfl rfl (dlt rfl) ⟨(fun _ h => (St.wk (St.untail (K := [(igmp3_t4_k0 b52 bs AQ N cQ), (igmp3_t4_k5 b4), (igmp3_t4_k9 b50 b1020 b1029 v1100), (igmp3_t4_k1 b1020 bs), ⟨b1029, 22, [some (.slice none 0 0)], true⟩, (igmp3_t4_k2 b38 bs i A5 c5 al ga), (igmp3_t4_k3 b1075 bs i), (igmp3_t4_k6 b39 b1075 AD bs i cD), (igmp3_t4_k7 b1099 b1075 AD bs i cD)]) (Kr := Kr1100) h) [(0, []), (1, []), (2, [2]), (3, []), (4, []), (5, []), (6, []), (7, [])] rfl)), ?_⟩)
        refine dend (by kernel_rfl) ?_
        refine ein ?_
        refine eseq ?_
        refine HT.norm ([(igmp3_t4_k0 b52 bs AQ N cQ), (igmp3_t4_k5 b4), (igmp3_t4_k9 b50 b1020 b1029 v1100), (igmp3_t4_k1 b1020 bs), ⟨b1029, 22, [some (.slice none 0 0)], true⟩, (igmp3_t4_k2 b38 bs i A5 c5 al ga), (igmp3_t4_k3 b1075 bs i), (igmp3_t4_k6 b39 b1075 AD bs i cD), (igmp3_t4_k7 b1099 b1075 AD bs i cD)] ++ Kr1100) [Byt A5 n c5 bs, Cel AQ N cQ 6 (rowX (fun j => (fun j a d => [.int .u8 ((nb bs (rof bs j) : Nat) : Int), .int .u8 ((nb bs (rof bs j + 1) : Nat) : Int), .int .u16 ((bN bs (rof bs j + 2) 2 : Nat) : Int), .slice (cutA A5 c5 (rof bs j + 4)) ((rof bs j + 8) - (rof bs j + 4)) (c5 - (rof bs j + 4)), .slice a (bN bs (rof bs j + 2) 2) d, .int .u32 ((0 : Nat) : Int)]) j (al j) (ga j)) N), SF al ga (fun j => bN bs (rof bs j + 2) 2) (fun j => rowX (fun t => [.slice (cutA A5 c5 ((rof bs j + 8) + (t * 4))) (((rof bs j + 12) + (t * 4)) - ((rof bs j + 8) + (t * 4))) (c5 - ((rof bs j + 8) + (t * 4)))]) (bN bs (rof bs j + 2) 2)) N, psF ps, Byt AD (4 + 4 * bN bs (rof bs i + 2) 2) cD (sl bs (rof bs i + 4) ((rof bs i + 8) + 4 * bN bs (rof bs i + 2) 2))] rfl rfl ?_
        refine HT.plain ?_
        refine sqS (q_add (p := i) (q := 1) rfl rfl (show i + 1 < 9223372036854775808 by have := bN_lt bs 6 2 65536 rfl; have := hil; omega)) rfl ?_
        refine sMv rfl rfl ?_
        refine send ?_
        exact fun a ha w' hw => by
          obtain ⟨hp2, hs2⟩ := TSt.step hp (X := [(igmp3_t4_k0 b52 bs AQ N cQ), (igmp3_t4_k5 b4), (igmp3_t4_k9 b50 b1020 b1029 v1100), (igmp3_t4_k1 b1020 bs), ⟨b1029, 22, [some (.slice none 0 0)], true⟩]) (Y := [(igmp3_t4_k6 b39 b1075 AD bs i cD), (igmp3_t4_k7 b1099 b1075 AD bs i cD)]) (k := (igmp3_t4_k3 b1075 bs i)) (b := ⟨AD, 4 + 4 * bN bs (rof bs i + 2) 2, cD, sl bs (rof bs i + 4) ((rof bs i + 8) + 4 * bN bs (rof bs i + 2) 2)⟩) (B := [Byt A5 n c5 bs, Cel AQ N cQ 6 (rowX (fun j => (fun j a d => [.int .u8 ((nb bs (rof bs j) : Nat) : Int), .int .u8 ((nb bs (rof bs j + 1) : Nat) : Int), .int .u16 ((bN bs (rof bs j + 2) 2 : Nat) : Int), .slice (cutA A5 c5 (rof bs j + 4)) ((rof bs j + 8) - (rof bs j + 4)) (c5 - (rof bs j + 4)), .slice a (bN bs (rof bs j + 2) 2) d, .int .u32 ((0 : Nat) : Int)]) j (al j) (ga j)) N), SF al ga (fun j => bN bs (rof bs j + 2) 2) (fun j => rowX (fun t => [.slice (cutA A5 c5 ((rof bs j + 8) + (t * 4))) (((rof bs j + 12) + (t * 4)) - ((rof bs j + 8) + (t * 4))) (c5 - ((rof bs j + 8) + (t * 4)))]) (bN bs (rof bs j + 2) 2)) N]) (r := []) (cnt := 4) (cap := 4) (xs := [nb bs (rof bs i), nb bs (rof bs i + 1), bN bs (rof bs i + 2) 2, 0]) (St.drop (X := [(igmp3_t4_k0 b52 bs AQ N cQ), (igmp3_t4_k5 b4), (igmp3_t4_k9 b50 b1020 b1029 v1100), (igmp3_t4_k1 b1020 bs), ⟨b1029, 22, [some (.slice none 0 0)], true⟩]) (Y := [(igmp3_t4_k2 b38 bs i A5 c5 al ga)]) (Z := [(igmp3_t4_k3 b1075 bs i), (igmp3_t4_k6 b39 b1075 AD bs i cD), (igmp3_t4_k7 b1099 b1075 AD bs i cD)] ++ Kr1100) hw) (by omega) rfl rfl (Nat.le_refl _) rfl hr1100 hfD (show ([nb bs (rof bs i), nb bs (rof bs i + 1), bN bs (rof bs i + 2) 2, 0], sl bs (rof bs i + 4) ((rof bs i + 8) + 4 * bN bs (rof bs i + 2) 2)) = ([nb bs (rof bs i), 0, bN bs (rof bs i + 2) 2, 0], sl bs (rof bs i + 4) (rof bs (i + 1))) from pdt (lc rfl (lc (show nb bs (rof bs i + 1) = 0 from by omega) (lc rfl (lc rfl rfl)))) (by omega) (by omega))
          exact eround2 ⟨(i + 1, _, _, _), hp2⟩ (show N - (i + 1) < N - i by omega) (ha.sub ⟨rfl, rfl, rfl, rfl, rfl, rfl, trivial⟩) hs2
      · refine dop rfl (l_buildSliceT (K := [(igmp3_t4_k0 b52 bs AQ N cQ), (igmp3_t4_k5 b4), (igmp3_t4_k4 b50 b1020 b1029 v), (igmp3_t4_k1 b1020 bs), ⟨b1029, 22, [some (.slice none 0 0)], true⟩, (igmp3_t4_k2 b38 bs i A5 c5 al ga), (igmp3_t4_k3 b1075 bs i), (igmp3_t4_k6 b39 b1075 AD bs i cD)]) (Kr := Kr) (e := 49) (vs := [(0, (.agg #[(.slice (some ⟨b1075, 0, none⟩) 4 4), (.slice AD (4 + 4 * bN bs (rof bs i + 2) 2) cD)]))]) (cs := [(.slice (some ⟨b1075, 0, none⟩) 4 4), (.slice AD (4 + 4 * bN bs (rof bs i + 2) 2) cD)]) (by decide) rfl (fun _ => by kernel_rfl) fun b1099 => ⟨(fun _ h => (St.wk (St.untail (K := [(igmp3_t4_k0 b52 bs AQ N cQ), (igmp3_t4_k5 b4), (igmp3_t4_k4 b50 b1020 b1029 v), (igmp3_t4_k1 b1020 bs), ⟨b1029, 22, [some (.slice none 0 0)], true⟩, (igmp3_t4_k2 b38 bs i A5 c5 al ga), (igmp3_t4_k3 b1075 bs i), (igmp3_t4_k6 b39 b1075 AD bs i cD), (igmp3_t4_k7 b1099 b1075 AD bs i cD)]) (Kr := Kr) h) [(0, []), (1, []), (2, [2]), (3, []), (4, []), (5, []), (6, []), (7, [])] rfl)), ?_⟩)
        refine RG.step1 4 (by kernel_rfl) ?_
        refine dop rfl (l_q _ (by simp) (St.closed _ _ _ _) (q_load (b := b50) (off := 2) (j := 2) rfl nagg_27 (fun _ h => h) rfl rfl rfl) ⟨(fun _ h => (St.wk (St.untail (K := [(igmp3_t4_k0 b52 bs AQ N cQ), (igmp3_t4_k5 b4), (igmp3_t4_k4 b50 b1020 b1029 v), (igmp3_t4_k1 b1020 bs), ⟨b1029, 22, [some (.slice none 0 0)], true⟩, (igmp3_t4_k2 b38 bs i A5 c5 al ga), (igmp3_t4_k3 b1075 bs i), (igmp3_t4_k6 b39 b1075 AD bs i cD), (igmp3_t4_k7 b1099 b1075 AD bs i cD)]) (Kr := Kr) h) [(0, []), (1, []), (2, [2]), (3, []), (4, []), (5, []), (6, []), (7, [])] rfl)), ?_⟩)
        refine RG.step1 7 (by kernel_rfl) ?_
        refine dop rfl (l_appendR (K0 := [(igmp3_t4_k0 b52 bs AQ N cQ), (igmp3_t4_k5 b4), (igmp3_t4_k4 b50 b1020 b1029 v), (igmp3_t4_k1 b1020 bs), ⟨b1029, 22, [some (.slice none 0 0)], true⟩, (igmp3_t4_k2 b38 bs i A5 c5 al ga), (igmp3_t4_k3 b1075 bs i), (igmp3_t4_k6 b39 b1075 AD bs i cD), (igmp3_t4_k7 b1099 b1075 AD bs i cD)]) (Kr := Kr) (k := i) (xs := (psV ps)) (jq := 8) (news := [(.slice (some ⟨b1075, 0, none⟩) 4 4), (.slice AD (4 + 4 * bN bs (rof bs i + 2) 2) cD)]) (by decide) rfl rfl Tryz.underlying27 rowT_49 (by decide) hr (by have := hil; have := bN_lt bs 6 2 65536 rfl; omega) rfl rfl (by simp [Value.one1]) fun v1100 Kr1100 hr1100 => ⟨(fun _ h => (St.wk (St.untail (K := [(igmp3_t4_k0 b52 bs AQ N cQ), (igmp3_t4_k5 b4), (igmp3_t4_k4 b50 b1020 b1029 v), (igmp3_t4_k1 b1020 bs), ⟨b1029, 22, [some (.slice none 0 0)], true⟩, (igmp3_t4_k2 b38 bs i A5 c5 al ga), (igmp3_t4_k3 b1075 bs i), (igmp3_t4_k6 b39 b1075 AD bs i cD), (igmp3_t4_k7 b1099 b1075 AD bs i cD)]) (Kr := Kr1100) h) [(0, []), (1, []), (2, [2]), (3, []), (4, []), (5, []), (6, []), (7, [])] rfl)), ?_⟩)
        refine dtake (f := 1) [8, 9] (by kernel_rfl) (St.closed _ _ _ _) (fun _ h => (St.wk (St.untail (K := [(igmp3_t4_k0 b52 bs AQ N cQ), (igmp3_t4_k5 b4), (igmp3_t4_k4 b50 b1020 b1029 v), (igmp3_t4_k1 b1020 bs), ⟨b1029, 22, [some (.slice none 0 0)], true⟩, (igmp3_t4_k2 b38 bs i A5 c5 al ga), (igmp3_t4_k3 b1075 bs i), (igmp3_t4_k6 b39 b1075 AD bs i cD), (igmp3_t4_k7 b1099 b1075 AD bs i cD)]) (Kr := Kr1100) h) [(0, []), (1, []), (2, [2]), (3, []), (4, []), (5, []), (6, []), (7, [])] rfl)) (by kernel_rfl) ?_
        refine dq rfl (q_nil rfl) ?_
        refine dq rfl (q_field (b := b50) (off := 0) rfl fo_29_2) ?_
        refine QL.nil ?_
        refine RG.step1 10 (by kernel_rfl) ?_
        refine dop rfl (l_store (b := b50) (off := 2) (j := 2) rfl rfl nagg_27 hr1100.one rfl rfl rfl (dlt rfl) ⟨(fun _ h => (St.wk (St.untail (K := [(igmp3_t4_k0 b52 bs AQ N cQ), (igmp3_t4_k5 b4), (igmp3_t4_k9 b50 b1020 b1029 v1100), (igmp3_t4_k1 b1020 bs), ⟨b1029, 22, [some (.slice none 0 0)], true⟩, (igmp3_t4_k2 b38 bs i A5 c5 al ga), (igmp3_t4_k3 b1075 bs i), (igmp3_t4_k6 b39 b1075 AD bs i cD), (igmp3_t4_k7 b1099 b1075 AD bs i cD)]) (Kr := Kr1100) h) [(0, []), (1, []), (2, [2]), (3, []), (4, []), (5, []), (6, []), (7, [])] rfl)), ?_⟩)
        refine dend (by kernel_rfl) ?_
        refine ein ?_
        refine eseq ?_
        refine HT.norm ([(igmp3_t4_k0 b52 bs AQ N cQ), (igmp3_t4_k5 b4), (igmp3_t4_k9 b50 b1020 b1029 v1100), (igmp3_t4_k1 b1020 bs), ⟨b1029, 22, [some (.slice none 0 0)], true⟩, (igmp3_t4_k2 b38 bs i A5 c5 al ga), (igmp3_t4_k3 b1075 bs i), (igmp3_t4_k6 b39 b1075 AD bs i cD), (igmp3_t4_k7 b1099 b1075 AD bs i cD)] ++ Kr1100) [Byt A5 n c5 bs, Cel AQ N cQ 6 (rowX (fun j => (fun j a d => [.int .u8 ((nb bs (rof bs j) : Nat) : Int), .int .u8 ((nb bs (rof bs j + 1) : Nat) : Int), .int .u16 ((bN bs (rof bs j + 2) 2 : Nat) : Int), .slice (cutA A5 c5 (rof bs j + 4)) ((rof bs j + 8) - (rof bs j + 4)) (c5 - (rof bs j + 4)), .slice a (bN bs (rof bs j + 2) 2) d, .int .u32 ((0 : Nat) : Int)]) j (al j) (ga j)) N), SF al ga (fun j => bN bs (rof bs j + 2) 2) (fun j => rowX (fun t => [.slice (cutA A5 c5 ((rof bs j + 8) + (t * 4))) (((rof bs j + 12) + (t * 4)) - ((rof bs j + 8) + (t * 4))) (c5 - ((rof bs j + 8) + (t * 4)))]) (bN bs (rof bs j + 2) 2)) N, psF ps, Byt AD (4 + 4 * bN bs (rof bs i + 2) 2) cD (sl bs (rof bs i + 4) ((rof bs i + 8) + 4 * bN bs (rof bs i + 2) 2))] rfl rfl ?_
        refine HT.plain ?_
        refine sqS (q_add (p := i) (q := 1) rfl rfl (show i + 1 < 9223372036854775808 by have := bN_lt bs 6 2 65536 rfl; have := hil; omega)) rfl ?_
        refine sMv rfl rfl ?_
        refine send ?_
        exact fun a ha w' hw => by
          obtain ⟨hp2, hs2⟩ := TSt.step hp (X := [(igmp3_t4_k0 b52 bs AQ N cQ), (igmp3_t4_k5 b4), (igmp3_t4_k9 b50 b1020 b1029 v1100), (igmp3_t4_k1 b1020 bs), ⟨b1029, 22, [some (.slice none 0 0)], true⟩]) (Y := [(igmp3_t4_k6 b39 b1075 AD bs i cD), (igmp3_t4_k7 b1099 b1075 AD bs i cD)]) (k := (igmp3_t4_k3 b1075 bs i)) (b := ⟨AD, 4 + 4 * bN bs (rof bs i + 2) 2, cD, sl bs (rof bs i + 4) ((rof bs i + 8) + 4 * bN bs (rof bs i + 2) 2)⟩) (B := [Byt A5 n c5 bs, Cel AQ N cQ 6 (rowX (fun j => (fun j a d => [.int .u8 ((nb bs (rof bs j) : Nat) : Int), .int .u8 ((nb bs (rof bs j + 1) : Nat) : Int), .int .u16 ((bN bs (rof bs j + 2) 2 : Nat) : Int), .slice (cutA A5 c5 (rof bs j + 4)) ((rof bs j + 8) - (rof bs j + 4)) (c5 - (rof bs j + 4)), .slice a (bN bs (rof bs j + 2) 2) d, .int .u32 ((0 : Nat) : Int)]) j (al j) (ga j)) N), SF al ga (fun j => bN bs (rof bs j + 2) 2) (fun j => rowX (fun t => [.slice (cutA A5 c5 ((rof bs j + 8) + (t * 4))) (((rof bs j + 12) + (t * 4)) - ((rof bs j + 8) + (t * 4))) (c5 - ((rof bs j + 8) + (t * 4)))]) (bN bs (rof bs j + 2) 2)) N]) (r := []) (cnt := 4) (cap := 4) (xs := [nb bs (rof bs i), nb bs (rof bs i + 1), bN bs (rof bs i + 2) 2, 0]) (St.drop (X := [(igmp3_t4_k0 b52 bs AQ N cQ), (igmp3_t4_k5 b4), (igmp3_t4_k9 b50 b1020 b1029 v1100), (igmp3_t4_k1 b1020 bs), ⟨b1029, 22, [some (.slice none 0 0)], true⟩]) (Y := [(igmp3_t4_k2 b38 bs i A5 c5 al ga)]) (Z := [(igmp3_t4_k3 b1075 bs i), (igmp3_t4_k6 b39 b1075 AD bs i cD), (igmp3_t4_k7 b1099 b1075 AD bs i cD)] ++ Kr1100) hw) (by omega) rfl rfl (Nat.le_refl _) rfl hr1100 hfD (show ([nb bs (rof bs i), nb bs (rof bs i + 1), bN bs (rof bs i + 2) 2, 0], sl bs (rof bs i + 4) ((rof bs i + 8) + 4 * bN bs (rof bs i + 2) 2)) = ([nb bs (rof bs i), 0, bN bs (rof bs i + 2) 2, 0], sl bs (rof bs i + 4) (rof bs (i + 1))) from pdt (lc rfl (lc (show nb bs (rof bs i + 1) = 0 from by omega) (lc rfl (lc rfl rfl)))) (by omega) (by omega))
          exact eround2 ⟨(i + 1, _, _, _), hp2⟩ (show N - (i + 1) < N - i by omega) (ha.sub ⟨rfl, rfl, rfl, rfl, rfl, rfl, trivial⟩) hs2
  · refine HT.exit ?_
    refine ex_then ?_
    refine ex_then ?_
    refine ex_in ?_
    refine ein ?_
    refine eseq ?_
    have hiN : N = i := by omega
    subst hiN
    refine HT.rowFact (K := [(igmp3_t4_k0 b52 bs AQ N cQ), (igmp3_t4_k5 b4), (igmp3_t4_k4 b50 b1020 b1029 v), (igmp3_t4_k1 b1020 bs), ⟨b1029, 22, [some (.slice none 0 0)], true⟩]) (Kr := Kr) hr (fun _ h => nomatch h) fun AR cR hvR hncR hfR => ?_
    subst hvR
    refine HT.seq ?_
    refine HT.plain ?_
    refine sMv rfl rfl ?_
    refine sqS (q_nil rfl) rfl ?_
    refine sqS (q_loadAgg (b := b50) (off := 0) (j := 2) (vs := [(.slice (some ⟨b1020, 0, none⟩) 9 9), (.slice (some ⟨b1029, 0, none⟩) 1 1), (.slice AR N cR), (.slice none 0 0)]) rfl aggs_29 (fun _ h => h) rfl rfl rfl) rfl ?_
    refine sl_ (l_storeAgg (b := b4) (off := 0) (j := 1) (vs := [(.slice (some ⟨b1020, 0, none⟩) 9 9), (.slice (some ⟨b1029, 0, none⟩) 1 1), (.slice AR N cR), (.slice none 0 0)]) rfl rfl aggs_29 (by simp [Value.one1]) rfl rfl rfl (Nat.le_of_ble_eq_true rfl) ?_)
    refine sAs rfl rfl ?_
    refine send ?_
    refine eseq ?_
    refine HT.ret ?_
    have hnums : [nb bs 0, 0, bN bs 2 2, bitN false, 0, 0, bN bs 6 2, 0, 3] = [nb bs 0, 0, bN bs 2 2, 0, 0, 0, bN bs 6 2, 0, 3] := (lc rfl (lc rfl (lc rfl (lc (show bitN false = 0 from by (first | omega | ((try simp only [zd224, zd240, zd192, zd24, zd56, zd65520, zd4, zd8, zd48, zd112]) <;> (try simp only [zt1, zt2, zt4, zt8, zt16, zt32, zt64, zt128, zt256, zt512, zt1024, zt2048, zt4096, zt8192]) <;> (try simp only [zm1, zm3, zm7, zm15, zm31, zm63, zm127, zm255, zm1023, zm4095, zm1048575, zb1, zb2, zb4, zb8, zb16, zb32, zb64, zb128, zb256, zb512, zb1024, zb2048, zb4096, zb8192, bitN, cond_true, cond_false]) <;> omega) | ((try simp only [zd224, zd240, zd192, zd24, zd56, zd65520, zd4, zd8, zd48, zd112]) <;> (try simp only [zt1, zt2, zt4, zt8, zt16, zt32, zt64, zt128, zt256, zt512, zt1024, zt2048, zt4096, zt8192]) <;> (try simp only [zm1, zm3, zm7, zm15, zm31, zm63, zm127, zm255, zm1023, zm4095, zm1048575, zb1, zb2, zb4, zb8, zb16, zb32, zb64, zb128, zb256, zb512, zb1024, zb2048, zb4096, zb8192, bitN, cond_true, cond_false, lN, bN, Nat.zero_mul, Nat.zero_add, Nat.add_zero, Nat.reduceAdd, Nat.reduceDiv, Nat.reduceMul]) <;> omega))) (lc rfl (lc rfl (lc rfl (lc rfl (lc rfl rfl)))))))))
    exact fun a ha w' hw => fin_ ha (resc2 ha Tryz.results47 rfl (ld_ aggs_29 hw (j := 1) rfl rfl (vs := [(.slice (some ⟨b1020, 0, none⟩) 9 9), (.slice (some ⟨b1029, 0, none⟩) 1 1), (.slice AR N cR), (.slice none 0 0)]) rfl) rfl) ⟨⟨⟨some ⟨b1020, 0, none⟩, 9, 9, [nb bs 0, 0, bN bs 2 2, bitN false, 0, 0, bN bs 6 2, 0, 3]⟩, some ⟨b1029, 0, none⟩, 1, 1, [⟨none, 0, 0, []⟩], AR, N, cR, ps, bi0⟩, rfl, hw.pres, Own.lay6 (Own.cel hw (j := 3) (sz := 1) (r := []) rfl rfl rfl rfl (Nat.le_refl _)) (Own.cel hw (j := 4) (sz := 1) (r := []) rfl rfl rfl rfl (Nat.le_refl _)) (Own.byt hw (j := 4) rfl (fun i h => .inl (hfR i h))) Own.nilByt (all1 Own.nilByt all0) (psOwn hw (j := 3) rfl hp.told.new), LD_eq hnums rfl hp.told.data rfl⟩

theorem igmp3_I4 (w : World) (A : Option Addr) (n : Nat) (c : Nat) (bs : List UInt8) (N : Nat) (hn : n ≤ 400) (ha : 8 ≤ n) (hb : nb bs 0 = 34) (hc : ∀ i, i < N → rof bs i + 8 ≤ n ∧ nb bs (rof bs i + 1) = 0 ∧ rof bs (i + 1) ≤ n) (hd : bN bs 6 2 = N) (hst : St w [] [] [Byt A n c bs] w) : Calls Tryz.prog 27 #[(.string ⟨#[105, 103, 109, 112, 51]⟩), (.slice A n c)] w (IP w (Byt A n c bs) (some (some ⟨[nb bs 0, 0, bN bs 2 2, 0, 0, 0, bN bs 6 2, 0, 3], [[]], ((List.range N).map (fun j => ([nb bs (rof bs j), 0, bN bs (rof bs j + 2) 2, 0], sl bs (rof bs j + 4) (rof bs (j + 1))))), []⟩))) := by
  have hnc00 : n ≤ c := (hst.fact (j := 0) rfl).2.1
  have hbl : n = bs.length := (hst.fact (j := 0) rfl).1
  refine enter (vs := [(.string ⟨#[105, 103, 109, 112, 51]⟩), (.slice A n c)]) Tryz.func27 rfl rfl rfl hst ?_
  refine HT.seq ?_
  refine HT.plain ?_
  refine sl_ (l_alloc (by decide) zero_29 fun b4 => ?_)
  refine sAs rfl rfl ?_
  refine send ?_
  refine eseq ?_
  refine HT.seq ?_
  refine HT.plain ?_
  refine sMv rfl rfl ?_
  refine sMv rfl rfl ?_
  refine sl_ (l_callX7 (vs := [(.string ⟨#[105, 103, 109, 112, 51]⟩), (.slice A n c)]) (Kc := []) (Bc := [Byt A n c bs]) [] [0] [Byt A n c bs] (fun b52 A5 c5 AQ cQ al ga => [⟨b4, 29, [some (.slice none 0 0), some (.slice none 0 0), some (.slice none 0 0), some (.slice none 0 0)], true⟩, ⟨b52, 179, [some (.slice none 0 0), some (.slice none 0 0), some (.int .u8 ((nb bs 0 : Nat) : Int)), some (.int .i64 ((0 : Nat) : Int)), some (.int .u16 ((bN bs 2 2 : Nat) : Int)), some (.slice none 0 0), some (.bool false), some (.int .u8 ((0 : Nat) : Int)), some (.int .i64 ((0 : Nat) : Int)), some (.slice none 0 0), some (.int .u16 ((bN bs 6 2 : Nat) : Int)), some (.int .u16 ((0 : Nat) : Int)), some (.slice AQ N cQ), some (.int .u8 ((3 : Nat) : Int))], true⟩]) (fun b52 A5 c5 AQ cQ al ga => [Byt A n c bs, Byt A5 n c5 bs, Cel AQ N cQ 6 (rowX (fun j => (fun j a d => [.int .u8 ((nb bs (rof bs j) : Nat) : Int), .int .u8 ((nb bs (rof bs j + 1) : Nat) : Int), .int .u16 ((bN bs (rof bs j + 2) 2 : Nat) : Int), .slice (cutA A5 c5 (rof bs j + 4)) ((rof bs j + 8) - (rof bs j + 4)) (c5 - (rof bs j + 4)), .slice a (bN bs (rof bs j + 2) 2) d, .int .u32 ((0 : Nat) : Int)]) j (al j) (ga j)) N), SF al ga (fun j => bN bs (rof bs j + 2) 2) (fun j => rowX (fun t => [.slice (cutA A5 c5 ((rof bs j + 8) + (t * 4))) (((rof bs j + 12) + (t * 4)) - ((rof bs j + 8) + (t * 4))) (c5 - ((rof bs j + 8) + (t * 4)))]) (bN bs (rof bs j + 2) 2)) N]) (by decide) rfl ca_46 (fun _ h => h) rfl rfl rfl rfl (fun w h => igmp3_e4 w A n c bs N (by omega) (by omega) (by omega) hc (by omega) h) (fun _ _ _ _ _ _ _ => rfl) (fun _ _ _ _ _ _ _ => rfl) (fun _ _ _ _ _ _ _ => rfl) (fun _ _ _ _ _ _ _ => rfl) fun b52 A5 c5 AQ cQ al ga hf1 he2 => ?_)
  have hnc3 : n ≤ c5 := by obtain ⟨w, h⟩ := he2; exact (h _ List.mem_cons_self).2.1
  have hnc4 : N ≤ cQ := by obtain ⟨w, h⟩ := he2; exact (h _ (List.mem_cons_of_mem _ List.mem_cons_self)).2.1
  refine sMv rfl rfl ?_
  refine sqS (q_extract (vs := [(.iface 63 (.pointer (some ⟨b52, 0, none⟩))), (.bool true)]) (i := 0) rfl rfl) rfl ?_
  refine sqS (q_extract (vs := [(.iface 63 (.pointer (some ⟨b52, 0, none⟩))), (.bool true)]) (i := 1) rfl rfl) rfl ?_
  refine sAs rfl rfl ?_
  refine sAs rfl rfl ?_
  refine send ?_
  refine eseq ?_
  refine HT.seq ?_
  refine HT.seq ?_
  refine HT.plain ?_
  refine sMv rfl rfl ?_
  refine sqS (q_not rfl) rfl ?_
  refine send ?_
  refine eseq ?_
  refine HT.no rfl ?_
  refine HT.skip ?_
  refine eseq ?_
  refine HT.seq ?_
  refine HT.plain ?_
  refine sMv rfl rfl ?_
  refine sMv rfl rfl ?_
  refine sqS (q_invoke (vs := []) (v := (.slice none 0 0)) rfl (fun w => me_63_LayerPayload _ w) rfl ca_120 (fun w h => layPay0 w b52 179 _ _ _ (h.ro (j := 1) rfl))) rfl ?_
  refine sl_ (l_callLay (vs := [(.iface 63 (.pointer (some ⟨b52, 0, none⟩))), (.slice none 0 0)]) (tup := fun L => .tuple #[L.val, .bool true]) 1 (by decide) rfl ca_47 rfl (fun w h => igmp3_t4 w A5 n c5 bs N b52 AQ cQ al ga (by omega) (by omega) (by omega) hc (by omega) (h.ro2 (j := 1) rfl (bi := [1, 2, 3]) rfl)) fun L20 hfr hda hoL => ?_)
  refine sqS (q_extract (vs := [(.agg #[(L20.nums.val), (.slice L20.dA L20.dn L20.dc), (.slice L20.pA L20.pn L20.pc), (L20.pay.val)]), (.bool true)]) (i := 0) rfl rfl) rfl ?_
  refine sqS (q_extract (vs := [(.agg #[(L20.nums.val), (.slice L20.dA L20.dn L20.dc), (.slice L20.pA L20.pn L20.pc), (L20.pay.val)]), (.bool true)]) (i := 1) rfl rfl) rfl ?_
  refine sl_ (l_storeAgg (b := b4) (off := 0) (j := 0) (vs := [(L20.nums.val), (.slice L20.dA L20.dn L20.dc), (.slice L20.pA L20.pn L20.pc), (L20.pay.val)]) rfl rfl aggs_29 (by simp [Value.one1]) rfl rfl rfl (Nat.le_of_ble_eq_true rfl) ?_)
  refine sAs rfl rfl ?_
  refine send ?_
  refine eseq ?_
  refine HT.ret ?_
  exact fun a ha w' hw => fin_ ha (resc2 ha Tryz.results27 rfl (ld_ aggs_29 hw (j := 0) rfl rfl (vs := [(L20.nums.val), (.slice L20.dA L20.dn L20.dc), (.slice L20.pA L20.pn L20.pc), (L20.pay.val)]) rfl) rfl) ⟨L20, rfl, hw.pres, ⟨hw.fact (j := 4) rfl, fun i hi => (hfr i hi).elim .inl (fun h => .inl ((hf1 _ List.mem_cons_self) i h))⟩, hda⟩
end Go.Proofs.YtfkaafbeeegenaaGreat.Zed
