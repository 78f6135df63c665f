/- eapolkey: the package, case 3 -/
import Derived.Test.YtfkaafbeeegenaaGreatEapolkey0
import Derived.KernelRfl
namespace Go.Proofs.YtfkaafbeeegenaaGreat.Zed
set_option linter.unusedVariables false
set_option linter.unusedSimpArgs false
set_option maxRecDepth 100000
set_option maxHeartbeats 4000000


theorem eapolkey_c3 (w : World) (A : Option Addr) (n : Nat) (c : Nat) (bs : List UInt8) (hn : n ≤ 400) (ha : 95 ≤ n) (hb : bN bs 93 2 ≤ n - 95) (hc : bN bs 1 2 / 4096 % 2 = 0) (hst : St w [] [] [Byt A n c bs] w) : Calls Tryz.prog 57 #[(.string ⟨#[101, 97, 112, 111, 108, 107, 101, 121]⟩), (.slice A n c)] w (fun e w' => e = .returned (.bool true) ∧ Pres [] w w') := by
  have hnc00 : n ≤ c := (hst.fact (j := 0) rfl).2.1
  refine enter (vs := [(.string ⟨#[101, 97, 112, 111, 108, 107, 101, 121]⟩), (.slice A n c)]) Tryz.func57 rfl rfl rfl hst ?_
  refine HT.seq ?_
  refine HT.plain ?_
  refine sq (St.closed _ _ _ _) (q_assign rfl) rfl ?_
  refine send ?_
  refine eseq ?_
  refine HT.seq ?_
  refine HT.seq ?_
  refine HT.plain ?_
  refine sq (St.closed _ _ _ _) (q_move rfl) rfl ?_
  refine send ?_
  refine eseq ?_
  refine HT.block ?_
  refine HT.seq ?_
  refine HT.plain ?_
  refine sq (St.closed _ _ _ _) (q_eqs rfl rfl (r := false) (by kernel_rfl)) rfl ?_
  refine sq (St.closed _ _ _ _) (q_assign rfl) rfl ?_
  refine send ?_
  refine eseq ?_
  refine HT.no rfl ?_
  refine HT.seq ?_
  refine HT.plain ?_
  refine sq (St.closed _ _ _ _) (q_eqs rfl rfl (r := false) (by kernel_rfl)) rfl ?_
  refine sq (St.closed _ _ _ _) (q_assign rfl) rfl ?_
  refine send ?_
  refine eseq ?_
  refine HT.no rfl ?_
  refine HT.seq ?_
  refine HT.plain ?_
  refine sq (St.closed _ _ _ _) (q_eqs rfl rfl (r := false) (by kernel_rfl)) rfl ?_
  refine sq (St.closed _ _ _ _) (q_assign rfl) rfl ?_
  refine send ?_
  refine eseq ?_
  refine HT.no rfl ?_
  refine HT.seq ?_
  refine HT.plain ?_
  refine sq (St.closed _ _ _ _) (q_eqs rfl rfl (r := false) (by kernel_rfl)) rfl ?_
  refine sq (St.closed _ _ _ _) (q_assign rfl) rfl ?_
  refine send ?_
  refine eseq ?_
  refine HT.no rfl ?_
  refine HT.seq ?_
  refine HT.plain ?_
  refine sq (St.closed _ _ _ _) (q_eqs rfl rfl (r := false) (by kernel_rfl)) rfl ?_
  refine sq (St.closed _ _ _ _) (q_assign rfl) rfl ?_
  refine send ?_
  refine eseq ?_
  refine HT.no rfl ?_
  refine HT.seq ?_
  refine HT.seq ?_
  refine HT.plain ?_
  refine sq (St.closed _ _ _ _) (q_eqs rfl rfl (r := false) (by kernel_rfl)) rfl ?_
  refine sq (St.closed _ _ _ _) (q_assign rfl) rfl ?_
  refine send ?_
  refine eseq ?_
  refine HT.no rfl ?_
  refine HT.seq ?_
  refine HT.plain ?_
  refine sq (St.closed _ _ _ _) (q_eqs rfl rfl (r := false) (by kernel_rfl)) rfl ?_
  refine sq (St.closed _ _ _ _) (q_assign rfl) rfl ?_
  refine send ?_
  refine eseq ?_
  refine HT.no rfl ?_
  refine HT.plain ?_
  refine sq (St.closed _ _ _ _) (q_eqs rfl rfl (r := false) (by kernel_rfl)) rfl ?_
  refine sq (St.closed _ _ _ _) (q_assign rfl) rfl ?_
  refine send ?_
  refine eseq ?_
  refine HT.no rfl ?_
  refine HT.seq ?_
  refine HT.plain ?_
  refine sq (St.closed _ _ _ _) (q_eqs rfl rfl (r := false) (by kernel_rfl)) rfl ?_
  refine sq (St.closed _ _ _ _) (q_assign rfl) rfl ?_
  refine send ?_
  refine eseq ?_
  refine HT.no rfl ?_
  refine HT.seq ?_
  refine HT.plain ?_
  refine sq (St.closed _ _ _ _) (q_eqs rfl rfl (r := false) (by kernel_rfl)) rfl ?_
  refine sq (St.closed _ _ _ _) (q_assign rfl) rfl ?_
  refine send ?_
  refine eseq ?_
  refine HT.no rfl ?_
  refine HT.seq ?_
  refine HT.plain ?_
  refine sq (St.closed _ _ _ _) (q_eqs rfl rfl (r := false) (by kernel_rfl)) rfl ?_
  refine sq (St.closed _ _ _ _) (q_assign rfl) rfl ?_
  refine send ?_
  refine eseq ?_
  refine HT.no rfl ?_
  refine HT.seq ?_
  refine HT.plain ?_
  refine sq (St.closed _ _ _ _) (q_eqs rfl rfl (r := false) (by kernel_rfl)) rfl ?_
  refine sq (St.closed _ _ _ _) (q_assign rfl) rfl ?_
  refine send ?_
  refine eseq ?_
  refine HT.no rfl ?_
  refine HT.seq ?_
  refine HT.plain ?_
  refine sq (St.closed _ _ _ _) (q_eqs rfl rfl (r := false) (by kernel_rfl)) rfl ?_
  refine sq (St.closed _ _ _ _) (q_assign rfl) rfl ?_
  refine send ?_
  refine eseq ?_
  refine HT.no rfl ?_
  refine HT.seq ?_
  refine HT.plain ?_
  refine sq (St.closed _ _ _ _) (q_eqs rfl rfl (r := false) (by kernel_rfl)) rfl ?_
  refine sq (St.closed _ _ _ _) (q_assign rfl) rfl ?_
  refine send ?_
  refine eseq ?_
  refine HT.no rfl ?_
  refine HT.skip ?_
  refine ein ?_
  refine eseq ?_
  refine HT.seq ?_
  refine HT.plain ?_
  refine sq (St.closed _ _ _ _) (q_assign rfl) rfl ?_
  refine send ?_
  refine eseq ?_
  refine HT.ret ?_
  exact fun a ha w' hw => fin_ ha (res1 ha Tryz.results57 rfl) ⟨rfl, hw.pres⟩

theorem eapolkey_m1_3 (w : World) (A : Option Addr) (n : Nat) (c : Nat) (bs : List UInt8) (rb : Nat) (kb : Nat) (hn : n ≤ 400) (ha : 95 ≤ n) (hb : bN bs 93 2 ≤ n - 95) (hc : bN bs 1 2 / 4096 % 2 = 0) (hst : St w [rb] [⟨rb, 104, [some (.slice none 0 0), some (.slice none 0 0), some (.int .u8 ((0 : Nat) : Int)), some (.int .u8 ((0 : Nat) : Int)), some (.int .u8 ((0 : Nat) : Int)), some (.int .u8 ((0 : Nat) : Int)), some (.bool false), some (.bool false), some (.bool false), some (.bool false), some (.bool false), some (.bool false), some (.bool false), some (.bool false), some (.int .u16 ((0 : Nat) : Int)), some (.int .u64 ((0 : Nat) : Int)), some (.slice none 0 0), some (.slice none 0 0), some (.int .u64 ((0 : Nat) : Int)), some (.int .u64 ((0 : Nat) : Int)), some (.slice none 0 0), some (.int .u16 ((0 : Nat) : Int)), some (.slice none 0 0)], true⟩] [Byt A n c bs] w) : Calls Tryz.prog 139 #[(.pointer (some ⟨rb, 0, none⟩)), (.slice A n c), (.iface 199 (.pointer (some ⟨kb, 0, none⟩)))] w (CP0 w [rb] [Byt A n c bs] (.nilIface) ([⟨rb, 104, [some (.slice (cutA A c 0) (95 - 0) (c - 0)), some (.slice (cutA A c 95) (n - 95) (c - 95)), some (.int .u8 ((nb bs 0 : Nat) : Int)), some (.int .u8 (((bN bs 1 2) &&& 7 : Nat) : Int)), some (.int .u8 ((((bN bs 1 2) &&& 8) / 8 : Nat) : Int)), some (.int .u8 ((((bN bs 1 2) &&& 48) / 16 : Nat) : Int)), some (.bool (decide ((bN bs 1 2) &&& 64 ≠ 0))), some (.bool (decide ((bN bs 1 2) &&& 128 ≠ 0))), some (.bool (decide ((bN bs 1 2) &&& 256 ≠ 0))), some (.bool (decide ((bN bs 1 2) &&& 512 ≠ 0))), some (.bool (decide ((bN bs 1 2) &&& 1024 ≠ 0))), some (.bool (decide ((bN bs 1 2) &&& 2048 ≠ 0))), some (.bool false), some (.bool (decide ((bN bs 1 2) &&& 8192 ≠ 0))), some (.int .u16 ((bN bs 3 2 : Nat) : Int)), some (.int .u64 ((bN bs 5 8 : Nat) : Int)), some (.slice (cutA A c 13) (45 - 13) (c - 13)), some (.slice (cutA A c 45) (61 - 45) (c - 45)), some (.int .u64 ((bN bs 61 8 : Nat) : Int)), some (.int .u64 ((bN bs 69 8 : Nat) : Int)), some (.slice (cutA A c 77) (93 - 77) (c - 77)), some (.int .u16 ((bN bs 93 2 : Nat) : Int)), some (.slice none 0 0)], true⟩]) ([])) := by
  have hnc00 : n ≤ c := (hst.fact (j := 0) rfl).2.1
  refine enter (vs := [(.pointer (some ⟨rb, 0, none⟩)), (.slice A n c), (.iface 199 (.pointer (some ⟨kb, 0, none⟩)))]) Tryz.func139 rfl rfl rfl hst ?_
  refine HT.seq ?_
  refine HT.plain ?_
  refine sq (St.closed _ _ _ _) (q_assign rfl) rfl ?_
  refine send ?_
  refine eseq ?_
  refine HT.seq ?_
  refine HT.seq ?_
  refine HT.plain ?_
  refine sq (St.closed _ _ _ _) (q_move rfl) rfl ?_
  refine sq (St.closed _ _ _ _) (q_len (len := n) rfl Tryz.underlying22) rfl ?_
  refine sq (St.closed _ _ _ _) (q_F (q_lt (p := n) (q := 95) rfl rfl) (by omega)) rfl ?_
  refine send ?_
  refine eseq ?_
  refine HT.no rfl ?_
  refine HT.skip ?_
  refine eseq ?_
  refine HT.seq ?_
  refine HT.plain ?_
  refine sq (St.closed _ _ _ _) (q_move rfl) rfl ?_
  refine sq (St.closed _ _ _ _) (q_move rfl) rfl ?_
  refine sq (St.closed _ _ _ _) (q_index (i := 0) (j := 0) rfl rfl Tryz.underlying22 nagg_5 (fun _ h => h) rfl (by omega)) rfl ?_
  refine sq (St.closed _ _ _ _) (q_byte (i := 0) (j := 0) rfl nagg_5 (fun _ h => h) rfl (by omega)) rfl ?_
  refine sq (St.closed _ _ _ _) (q_nil rfl) rfl ?_
  refine sq (St.closed _ _ _ _) (q_field (b := rb) (off := 0) rfl fo_104_1) rfl ?_
  refine sl_ (l_store (b := rb) (off := 2) (j := 0) rfl rfl nagg_100 rfl rfl rfl rfl (dlt rfl) ?_)
  refine send ?_
  refine eseq ?_
  refine HT.norm [⟨rb, 104, [some (.slice none 0 0), some (.slice none 0 0), some (.int .u8 ((nb bs 0 : Nat) : Int)), some (.int .u8 ((0 : Nat) : Int)), some (.int .u8 ((0 : Nat) : Int)), some (.int .u8 ((0 : Nat) : Int)), some (.bool false), some (.bool false), some (.bool false), some (.bool false), some (.bool false), some (.bool false), some (.bool false), some (.bool false), some (.int .u16 ((0 : Nat) : Int)), some (.int .u64 ((0 : Nat) : Int)), some (.slice none 0 0), some (.slice none 0 0), some (.int .u64 ((0 : Nat) : Int)), some (.int .u64 ((0 : Nat) : Int)), some (.slice none 0 0), some (.int .u16 ((0 : Nat) : Int)), some (.slice none 0 0)], true⟩] [Byt A n c bs] rfl rfl ?_
  refine HT.seq ?_
  refine HT.drawnS mixed (St.closed _ _ _ _) ?_
  refine dtake (f := 0) [0, 1, 2, 3, 4] (by kernel_rfl) (St.closed _ _ _ _) (fun _ h => h) (by kernel_rfl) ?_
  refine dq rfl (q_loadEmpty rfl aggs_210) ?_
  refine dq rfl (q_move rfl) ?_
  refine dq rfl (q_slice (lo := 1) (hi := 3) rfl Tryz.underlying22 nagg_5 (.inr ⟨_, _, rfl, rfl⟩) (.inr ⟨_, _, rfl, rfl⟩) (by omega) (by omega)) ?_
  refine dq rfl (q_call (vs := [(.agg #[]), (.slice (cutA A c 1) (3 - 1) (c - 1))]) (v := (.int .u16 ((bN bs 1 2 : Nat) : Int))) rfl ca_91 (fun w h => U16 w A n c bs (lo := 1) (hi := 3) (h.fact (j := 0) rfl) (by omega) (by omega))) ?_
  refine dq rfl (q_assign rfl) ?_
  refine QL.nil ?_
  refine dend (by kernel_rfl) ?_
  refine eseq ?_
  refine HT.seq ?_
  refine HT.plain ?_
  refine sq (St.closed _ _ _ _) (q_move rfl) rfl ?_
  refine sq (St.closed _ _ _ _) (q_move rfl) rfl ?_
  refine sq (St.closed _ _ _ _) (q_and (p := bN bs 1 2) (q := 7) rfl rfl rfl (show bN bs 1 2 < 65536 by have := bN_lt bs 1 2 65536 rfl; omega) (by decide)) rfl ?_
  refine sq (St.closed _ _ _ _) (q_convn (p := (bN bs 1 2) &&& 7) rfl Tryz.underlying70 Tryz.underlying101 (show (bN bs 1 2) &&& 7 < 256 by have := bN_lt bs 1 2 65536 rfl; have := zm7 (bN bs 1 2); have := Nat.and_le_left (n := bN bs 1 2) (m := 7); have := Nat.and_le_right (n := bN bs 1 2) (m := 7); omega)) rfl ?_
  refine sq (St.closed _ _ _ _) (q_nil rfl) rfl ?_
  refine sq (St.closed _ _ _ _) (q_field (b := rb) (off := 0) rfl fo_104_2) rfl ?_
  refine sl_ (l_store (b := rb) (off := 3) (j := 0) rfl rfl nagg_101 rfl rfl rfl rfl (dlt rfl) ?_)
  refine send ?_
  refine eseq ?_
  refine HT.norm [⟨rb, 104, [some (.slice none 0 0), some (.slice none 0 0), some (.int .u8 ((nb bs 0 : Nat) : Int)), some (.int .u8 (((bN bs 1 2) &&& 7 : Nat) : Int)), some (.int .u8 ((0 : Nat) : Int)), some (.int .u8 ((0 : Nat) : Int)), some (.bool false), some (.bool false), some (.bool false), some (.bool false), some (.bool false), some (.bool false), some (.bool false), some (.bool false), some (.int .u16 ((0 : Nat) : Int)), some (.int .u64 ((0 : Nat) : Int)), some (.slice none 0 0), some (.slice none 0 0), some (.int .u64 ((0 : Nat) : Int)), some (.int .u64 ((0 : Nat) : Int)), some (.slice none 0 0), some (.int .u16 ((0 : Nat) : Int)), some (.slice none 0 0)], true⟩] [Byt A n c bs] rfl rfl ?_
  refine HT.seq ?_
  refine HT.plain ?_
  refine sq (St.closed _ _ _ _) (q_move rfl) rfl ?_
  refine sq (St.closed _ _ _ _) (q_move rfl) rfl ?_
  refine sq (St.closed _ _ _ _) (q_and (p := bN bs 1 2) (q := 8) rfl rfl rfl (show bN bs 1 2 < 65536 by have := bN_lt bs 1 2 65536 rfl; omega) (by decide)) rfl ?_
  refine sq (St.closed _ _ _ _) (q_shr (p := (bN bs 1 2) &&& 8) (e := 3) (N := 8) rfl rfl (by decide) rfl) rfl ?_
  refine sq (St.closed _ _ _ _) (q_convn (p := ((bN bs 1 2) &&& 8) / 8) rfl Tryz.underlying70 Tryz.underlying102 (show ((bN bs 1 2) &&& 8) / 8 < 256 by have := bN_lt bs 1 2 65536 rfl; have := zb8 (bN bs 1 2); have := Nat.and_le_left (n := bN bs 1 2) (m := 8); have := Nat.and_le_right (n := bN bs 1 2) (m := 8); omega)) rfl ?_
  refine sq (St.closed _ _ _ _) (q_nil rfl) rfl ?_
  refine sq (St.closed _ _ _ _) (q_field (b := rb) (off := 0) rfl fo_104_3) rfl ?_
  refine sl_ (l_store (b := rb) (off := 4) (j := 0) rfl rfl nagg_102 rfl rfl rfl rfl (dlt rfl) ?_)
  refine send ?_
  refine eseq ?_
  refine HT.norm [⟨rb, 104, [some (.slice none 0 0), some (.slice none 0 0), some (.int .u8 ((nb bs 0 : Nat) : Int)), some (.int .u8 (((bN bs 1 2) &&& 7 : Nat) : Int)), some (.int .u8 ((((bN bs 1 2) &&& 8) / 8 : Nat) : Int)), some (.int .u8 ((0 : Nat) : Int)), some (.bool false), some (.bool false), some (.bool false), some (.bool false), some (.bool false), some (.bool false), some (.bool false), some (.bool false), some (.int .u16 ((0 : Nat) : Int)), some (.int .u64 ((0 : Nat) : Int)), some (.slice none 0 0), some (.slice none 0 0), some (.int .u64 ((0 : Nat) : Int)), some (.int .u64 ((0 : Nat) : Int)), some (.slice none 0 0), some (.int .u16 ((0 : Nat) : Int)), some (.slice none 0 0)], true⟩] [Byt A n c bs] rfl rfl ?_
  refine HT.seq ?_
  refine HT.plain ?_
  refine sq (St.closed _ _ _ _) (q_move rfl) rfl ?_
  refine sq (St.closed _ _ _ _) (q_move rfl) rfl ?_
  refine sq (St.closed _ _ _ _) (q_and (p := bN bs 1 2) (q := 48) rfl rfl rfl (show bN bs 1 2 < 65536 by have := bN_lt bs 1 2 65536 rfl; omega) (by decide)) rfl ?_
  refine sq (St.closed _ _ _ _) (q_shr (p := (bN bs 1 2) &&& 48) (e := 4) (N := 16) rfl rfl (by decide) rfl) rfl ?_
  refine sq (St.closed _ _ _ _) (q_convn (p := ((bN bs 1 2) &&& 48) / 16) rfl Tryz.underlying70 Tryz.underlying5 (show ((bN bs 1 2) &&& 48) / 16 < 256 by have := bN_lt bs 1 2 65536 rfl; have := Nat.and_le_left (n := bN bs 1 2) (m := 48); have := Nat.and_le_right (n := bN bs 1 2) (m := 48); omega)) rfl ?_
  refine sq (St.closed _ _ _ _) (q_nil rfl) rfl ?_
  refine sq (St.closed _ _ _ _) (q_field (b := rb) (off := 0) rfl fo_104_4) rfl ?_
  refine sl_ (l_store (b := rb) (off := 5) (j := 0) rfl rfl nagg_5 rfl rfl rfl rfl (dlt rfl) ?_)
  refine send ?_
  refine eseq ?_
  refine HT.norm [⟨rb, 104, [some (.slice none 0 0), some (.slice none 0 0), some (.int .u8 ((nb bs 0 : Nat) : Int)), some (.int .u8 (((bN bs 1 2) &&& 7 : Nat) : Int)), some (.int .u8 ((((bN bs 1 2) &&& 8) / 8 : Nat) : Int)), some (.int .u8 ((((bN bs 1 2) &&& 48) / 16 : Nat) : Int)), some (.bool false), some (.bool false), some (.bool false), some (.bool false), some (.bool false), some (.bool false), some (.bool false), some (.bool false), some (.int .u16 ((0 : Nat) : Int)), some (.int .u64 ((0 : Nat) : Int)), some (.slice none 0 0), some (.slice none 0 0), some (.int .u64 ((0 : Nat) : Int)), some (.int .u64 ((0 : Nat) : Int)), some (.slice none 0 0), some (.int .u16 ((0 : Nat) : Int)), some (.slice none 0 0)], true⟩] [Byt A n c bs] rfl rfl ?_
  refine HT.seq ?_
  refine HT.plain ?_
  refine sq (St.closed _ _ _ _) (q_move rfl) rfl ?_
  refine sq (St.closed _ _ _ _) (q_move rfl) rfl ?_
  refine sq (St.closed _ _ _ _) (q_and (p := bN bs 1 2) (q := 64) rfl rfl rfl (show bN bs 1 2 < 65536 by have := bN_lt bs 1 2 65536 rfl; omega) (by decide)) rfl ?_
  refine sq (St.closed _ _ _ _) (q_ne (p := (bN bs 1 2) &&& 64) (q := 0) rfl rfl) rfl ?_
  refine sq (St.closed _ _ _ _) (q_nil rfl) rfl ?_
  refine sq (St.closed _ _ _ _) (q_field (b := rb) (off := 0) rfl fo_104_5) rfl ?_
  refine sl_ (l_store (b := rb) (off := 6) (j := 0) rfl rfl nagg_4 rfl rfl rfl rfl (dlt rfl) ?_)
  refine send ?_
  refine eseq ?_
  refine HT.norm [⟨rb, 104, [some (.slice none 0 0), some (.slice none 0 0), some (.int .u8 ((nb bs 0 : Nat) : Int)), some (.int .u8 (((bN bs 1 2) &&& 7 : Nat) : Int)), some (.int .u8 ((((bN bs 1 2) &&& 8) / 8 : Nat) : Int)), some (.int .u8 ((((bN bs 1 2) &&& 48) / 16 : Nat) : Int)), some (.bool (decide ((bN bs 1 2) &&& 64 ≠ 0))), some (.bool false), some (.bool false), some (.bool false), some (.bool false), some (.bool false), some (.bool false), some (.bool false), some (.int .u16 ((0 : Nat) : Int)), some (.int .u64 ((0 : Nat) : Int)), some (.slice none 0 0), some (.slice none 0 0), some (.int .u64 ((0 : Nat) : Int)), some (.int .u64 ((0 : Nat) : Int)), some (.slice none 0 0), some (.int .u16 ((0 : Nat) : Int)), some (.slice none 0 0)], true⟩] [Byt A n c bs] rfl rfl ?_
  refine HT.seq ?_
  refine HT.plain ?_
  refine sq (St.closed _ _ _ _) (q_move rfl) rfl ?_
  refine sq (St.closed _ _ _ _) (q_move rfl) rfl ?_
  refine sq (St.closed _ _ _ _) (q_and (p := bN bs 1 2) (q := 128) rfl rfl rfl (show bN bs 1 2 < 65536 by have := bN_lt bs 1 2 65536 rfl; omega) (by decide)) rfl ?_
  refine sq (St.closed _ _ _ _) (q_ne (p := (bN bs 1 2) &&& 128) (q := 0) rfl rfl) rfl ?_
  refine sq (St.closed _ _ _ _) (q_nil rfl) rfl ?_
  refine sq (St.closed _ _ _ _) (q_field (b := rb) (off := 0) rfl fo_104_6) rfl ?_
  refine sl_ (l_store (b := rb) (off := 7) (j := 0) rfl rfl nagg_4 rfl rfl rfl rfl (dlt rfl) ?_)
  refine send ?_
  refine eseq ?_
  refine HT.norm [⟨rb, 104, [some (.slice none 0 0), some (.slice none 0 0), some (.int .u8 ((nb bs 0 : Nat) : Int)), some (.int .u8 (((bN bs 1 2) &&& 7 : Nat) : Int)), some (.int .u8 ((((bN bs 1 2) &&& 8) / 8 : Nat) : Int)), some (.int .u8 ((((bN bs 1 2) &&& 48) / 16 : Nat) : Int)), some (.bool (decide ((bN bs 1 2) &&& 64 ≠ 0))), some (.bool (decide ((bN bs 1 2) &&& 128 ≠ 0))), some (.bool false), some (.bool false), some (.bool false), some (.bool false), some (.bool false), some (.bool false), some (.int .u16 ((0 : Nat) : Int)), some (.int .u64 ((0 : Nat) : Int)), some (.slice none 0 0), some (.slice none 0 0), some (.int .u64 ((0 : Nat) : Int)), some (.int .u64 ((0 : Nat) : Int)), some (.slice none 0 0), some (.int .u16 ((0 : Nat) : Int)), some (.slice none 0 0)], true⟩] [Byt A n c bs] rfl rfl ?_
  refine HT.seq ?_
  refine HT.plain ?_
  refine sq (St.closed _ _ _ _) (q_move rfl) rfl ?_
  refine sq (St.closed _ _ _ _) (q_move rfl) rfl ?_
  refine sq (St.closed _ _ _ _) (q_and (p := bN bs 1 2) (q := 256) rfl rfl rfl (show bN bs 1 2 < 65536 by have := bN_lt bs 1 2 65536 rfl; omega) (by decide)) rfl ?_
  refine sq (St.closed _ _ _ _) (q_ne (p := (bN bs 1 2) &&& 256) (q := 0) rfl rfl) rfl ?_
  refine sq (St.closed _ _ _ _) (q_nil rfl) rfl ?_
  refine sq (St.closed _ _ _ _) (q_field (b := rb) (off := 0) rfl fo_104_7) rfl ?_
  refine sl_ (l_store (b := rb) (off := 8) (j := 0) rfl rfl nagg_4 rfl rfl rfl rfl (dlt rfl) ?_)
  refine send ?_
  refine eseq ?_
  refine HT.norm [⟨rb, 104, [some (.slice none 0 0), some (.slice none 0 0), some (.int .u8 ((nb bs 0 : Nat) : Int)), some (.int .u8 (((bN bs 1 2) &&& 7 : Nat) : Int)), some (.int .u8 ((((bN bs 1 2) &&& 8) / 8 : Nat) : Int)), some (.int .u8 ((((bN bs 1 2) &&& 48) / 16 : Nat) : Int)), some (.bool (decide ((bN bs 1 2) &&& 64 ≠ 0))), some (.bool (decide ((bN bs 1 2) &&& 128 ≠ 0))), some (.bool (decide ((bN bs 1 2) &&& 256 ≠ 0))), some (.bool false), some (.bool false), some (.bool false), some (.bool false), some (.bool false), some (.int .u16 ((0 : Nat) : Int)), some (.int .u64 ((0 : Nat) : Int)), some (.slice none 0 0), some (.slice none 0 0), some (.int .u64 ((0 : Nat) : Int)), some (.int .u64 ((0 : Nat) : Int)), some (.slice none 0 0), some (.int .u16 ((0 : Nat) : Int)), some (.slice none 0 0)], true⟩] [Byt A n c bs] rfl rfl ?_
  refine HT.seq ?_
  refine HT.plain ?_
  refine sq (St.closed _ _ _ _) (q_move rfl) rfl ?_
  refine sq (St.closed _ _ _ _) (q_move rfl) rfl ?_
  refine sq (St.closed _ _ _ _) (q_and (p := bN bs 1 2) (q := 512) rfl rfl rfl (show bN bs 1 2 < 65536 by have := bN_lt bs 1 2 65536 rfl; omega) (by decide)) rfl ?_
  refine sq (St.closed _ _ _ _) (q_ne (p := (bN bs 1 2) &&& 512) (q := 0) rfl rfl) rfl ?_
  refine sq (St.closed _ _ _ _) (q_nil rfl) rfl ?_
  refine sq (St.closed _ _ _ _) (q_field (b := rb) (off := 0) rfl fo_104_8) rfl ?_
  refine sl_ (l_store (b := rb) (off := 9) (j := 0) rfl rfl nagg_4 rfl rfl rfl rfl (dlt rfl) ?_)
  refine send ?_
  refine eseq ?_
  refine HT.norm [⟨rb, 104, [some (.slice none 0 0), some (.slice none 0 0), some (.int .u8 ((nb bs 0 : Nat) : Int)), some (.int .u8 (((bN bs 1 2) &&& 7 : Nat) : Int)), some (.int .u8 ((((bN bs 1 2) &&& 8) / 8 : Nat) : Int)), some (.int .u8 ((((bN bs 1 2) &&& 48) / 16 : Nat) : Int)), some (.bool (decide ((bN bs 1 2) &&& 64 ≠ 0))), some (.bool (decide ((bN bs 1 2) &&& 128 ≠ 0))), some (.bool (decide ((bN bs 1 2) &&& 256 ≠ 0))), some (.bool (decide ((bN bs 1 2) &&& 512 ≠ 0))), some (.bool false), some (.bool false), some (.bool false), some (.bool false), some (.int .u16 ((0 : Nat) : Int)), some (.int .u64 ((0 : Nat) : Int)), some (.slice none 0 0), some (.slice none 0 0), some (.int .u64 ((0 : Nat) : Int)), some (.int .u64 ((0 : Nat) : Int)), some (.slice none 0 0), some (.int .u16 ((0 : Nat) : Int)), some (.slice none 0 0)], true⟩] [Byt A n c bs] rfl rfl ?_
  refine HT.seq ?_
  refine HT.plain ?_
  refine sq (St.closed _ _ _ _) (q_move rfl) rfl ?_
  refine sq (St.closed _ _ _ _) (q_move rfl) rfl ?_
  refine sq (St.closed _ _ _ _) (q_and (p := bN bs 1 2) (q := 1024) rfl rfl rfl (show bN bs 1 2 < 65536 by have := bN_lt bs 1 2 65536 rfl; omega) (by decide)) rfl ?_
  refine sq (St.closed _ _ _ _) (q_ne (p := (bN bs 1 2) &&& 1024) (q := 0) rfl rfl) rfl ?_
  refine sq (St.closed _ _ _ _) (q_nil rfl) rfl ?_
  refine sq (St.closed _ _ _ _) (q_field (b := rb) (off := 0) rfl fo_104_9) rfl ?_
  refine sl_ (l_store (b := rb) (off := 10) (j := 0) rfl rfl nagg_4 rfl rfl rfl rfl (dlt rfl) ?_)
  refine send ?_
  refine eseq ?_
  refine HT.norm [⟨rb, 104, [some (.slice none 0 0), some (.slice none 0 0), some (.int .u8 ((nb bs 0 : Nat) : Int)), some (.int .u8 (((bN bs 1 2) &&& 7 : Nat) : Int)), some (.int .u8 ((((bN bs 1 2) &&& 8) / 8 : Nat) : Int)), some (.int .u8 ((((bN bs 1 2) &&& 48) / 16 : Nat) : Int)), some (.bool (decide ((bN bs 1 2) &&& 64 ≠ 0))), some (.bool (decide ((bN bs 1 2) &&& 128 ≠ 0))), some (.bool (decide ((bN bs 1 2) &&& 256 ≠ 0))), some (.bool (decide ((bN bs 1 2) &&& 512 ≠ 0))), some (.bool (decide ((bN bs 1 2) &&& 1024 ≠ 0))), some (.bool false), some (.bool false), some (.bool false), some (.int .u16 ((0 : Nat) : Int)), some (.int .u64 ((0 : Nat) : Int)), some (.slice none 0 0), some (.slice none 0 0), some (.int .u64 ((0 : Nat) : Int)), some (.int .u64 ((0 : Nat) : Int)), some (.slice none 0 0), some (.int .u16 ((0 : Nat) : Int)), some (.slice none 0 0)], true⟩] [Byt A n c bs] rfl rfl ?_
  refine HT.seq ?_
  refine HT.plain ?_
  refine sq (St.closed _ _ _ _) (q_move rfl) rfl ?_
  refine sq (St.closed _ _ _ _) (q_move rfl) rfl ?_
  refine sq (St.closed _ _ _ _) (q_and (p := bN bs 1 2) (q := 2048) rfl rfl rfl (show bN bs 1 2 < 65536 by have := bN_lt bs 1 2 65536 rfl; omega) (by decide)) rfl ?_
  refine sq (St.closed _ _ _ _) (q_ne (p := (bN bs 1 2) &&& 2048) (q := 0) rfl rfl) rfl ?_
  refine sq (St.closed _ _ _ _) (q_nil rfl) rfl ?_
  refine sq (St.closed _ _ _ _) (q_field (b := rb) (off := 0) rfl fo_104_10) rfl ?_
  refine sl_ (l_store (b := rb) (off := 11) (j := 0) rfl rfl nagg_4 rfl rfl rfl rfl (dlt rfl) ?_)
  refine send ?_
  refine eseq ?_
  refine HT.norm [⟨rb, 104, [some (.slice none 0 0), some (.slice none 0 0), some (.int .u8 ((nb bs 0 : Nat) : Int)), some (.int .u8 (((bN bs 1 2) &&& 7 : Nat) : Int)), some (.int .u8 ((((bN bs 1 2) &&& 8) / 8 : Nat) : Int)), some (.int .u8 ((((bN bs 1 2) &&& 48) / 16 : Nat) : Int)), some (.bool (decide ((bN bs 1 2) &&& 64 ≠ 0))), some (.bool (decide ((bN bs 1 2) &&& 128 ≠ 0))), some (.bool (decide ((bN bs 1 2) &&& 256 ≠ 0))), some (.bool (decide ((bN bs 1 2) &&& 512 ≠ 0))), some (.bool (decide ((bN bs 1 2) &&& 1024 ≠ 0))), some (.bool (decide ((bN bs 1 2) &&& 2048 ≠ 0))), some (.bool false), some (.bool false), some (.int .u16 ((0 : Nat) : Int)), some (.int .u64 ((0 : Nat) : Int)), some (.slice none 0 0), some (.slice none 0 0), some (.int .u64 ((0 : Nat) : Int)), some (.int .u64 ((0 : Nat) : Int)), some (.slice none 0 0), some (.int .u16 ((0 : Nat) : Int)), some (.slice none 0 0)], true⟩] [Byt A n c bs] rfl rfl ?_
  refine HT.seq ?_
  refine HT.plain ?_
  refine sq (St.closed _ _ _ _) (q_move rfl) rfl ?_
  refine sq (St.closed _ _ _ _) (q_move rfl) rfl ?_
  refine sq (St.closed _ _ _ _) (q_and (p := bN bs 1 2) (q := 4096) rfl rfl rfl (show bN bs 1 2 < 65536 by have := bN_lt bs 1 2 65536 rfl; omega) (by decide)) rfl ?_
  refine sq (St.closed _ _ _ _) (q_F (q_ne (p := (bN bs 1 2) &&& 4096) (q := 0) rfl rfl) (by have := bN_lt bs 1 2 65536 rfl; have := zb4096 (bN bs 1 2); have := Nat.and_le_left (n := bN bs 1 2) (m := 4096); have := Nat.and_le_right (n := bN bs 1 2) (m := 4096); omega)) rfl ?_
  refine sq (St.closed _ _ _ _) (q_nil rfl) rfl ?_
  refine sq (St.closed _ _ _ _) (q_field (b := rb) (off := 0) rfl fo_104_11) rfl ?_
  refine sl_ (l_store (b := rb) (off := 12) (j := 0) rfl rfl nagg_4 rfl rfl rfl rfl (dlt rfl) ?_)
  refine send ?_
  refine eseq ?_
  refine HT.seq ?_
  refine HT.plain ?_
  refine sq (St.closed _ _ _ _) (q_move rfl) rfl ?_
  refine sq (St.closed _ _ _ _) (q_move rfl) rfl ?_
  refine sq (St.closed _ _ _ _) (q_and (p := bN bs 1 2) (q := 8192) rfl rfl rfl (show bN bs 1 2 < 65536 by have := bN_lt bs 1 2 65536 rfl; omega) (by decide)) rfl ?_
  refine sq (St.closed _ _ _ _) (q_ne (p := (bN bs 1 2) &&& 8192) (q := 0) rfl rfl) rfl ?_
  refine sq (St.closed _ _ _ _) (q_nil rfl) rfl ?_
  refine sq (St.closed _ _ _ _) (q_field (b := rb) (off := 0) rfl fo_104_12) rfl ?_
  refine sl_ (l_store (b := rb) (off := 13) (j := 0) rfl rfl nagg_4 rfl rfl rfl rfl (dlt rfl) ?_)
  refine send ?_
  refine eseq ?_
  refine HT.norm [⟨rb, 104, [some (.slice none 0 0), some (.slice none 0 0), some (.int .u8 ((nb bs 0 : Nat) : Int)), some (.int .u8 (((bN bs 1 2) &&& 7 : Nat) : Int)), some (.int .u8 ((((bN bs 1 2) &&& 8) / 8 : Nat) : Int)), some (.int .u8 ((((bN bs 1 2) &&& 48) / 16 : Nat) : Int)), some (.bool (decide ((bN bs 1 2) &&& 64 ≠ 0))), some (.bool (decide ((bN bs 1 2) &&& 128 ≠ 0))), some (.bool (decide ((bN bs 1 2) &&& 256 ≠ 0))), some (.bool (decide ((bN bs 1 2) &&& 512 ≠ 0))), some (.bool (decide ((bN bs 1 2) &&& 1024 ≠ 0))), some (.bool (decide ((bN bs 1 2) &&& 2048 ≠ 0))), some (.bool false), some (.bool (decide ((bN bs 1 2) &&& 8192 ≠ 0))), some (.int .u16 ((0 : Nat) : Int)), some (.int .u64 ((0 : Nat) : Int)), some (.slice none 0 0), some (.slice none 0 0), some (.int .u64 ((0 : Nat) : Int)), some (.int .u64 ((0 : Nat) : Int)), some (.slice none 0 0), some (.int .u16 ((0 : Nat) : Int)), some (.slice none 0 0)], true⟩] [Byt A n c bs] rfl rfl ?_
  refine HT.seq ?_
  refine HT.drawn mixed (St.closed _ _ _ _) (St w [rb] [⟨rb, 104, [some (.slice none 0 0), some (.slice none 0 0), some (.int .u8 ((nb bs 0 : Nat) : Int)), some (.int .u8 (((bN bs 1 2) &&& 7 : Nat) : Int)), some (.int .u8 ((((bN bs 1 2) &&& 8) / 8 : Nat) : Int)), some (.int .u8 ((((bN bs 1 2) &&& 48) / 16 : Nat) : Int)), some (.bool (decide ((bN bs 1 2) &&& 64 ≠ 0))), some (.bool (decide ((bN bs 1 2) &&& 128 ≠ 0))), some (.bool (decide ((bN bs 1 2) &&& 256 ≠ 0))), some (.bool (decide ((bN bs 1 2) &&& 512 ≠ 0))), some (.bool (decide ((bN bs 1 2) &&& 1024 ≠ 0))), some (.bool (decide ((bN bs 1 2) &&& 2048 ≠ 0))), some (.bool false), some (.bool (decide ((bN bs 1 2) &&& 8192 ≠ 0))), none, some (.int .u64 ((0 : Nat) : Int)), some (.slice none 0 0), some (.slice none 0 0), some (.int .u64 ((0 : Nat) : Int)), some (.int .u64 ((0 : Nat) : Int)), some (.slice none 0 0), some (.int .u16 ((0 : Nat) : Int)), some (.slice none 0 0)], true⟩] [Byt A n c bs]) ?_
  refine dtake (f := 1) [0, 1, 2, 3, 4, 5, 6] (by kernel_rfl) (St.closed _ _ _ _) (fun _ h => (h.wk [(0, [14])] rfl)) (by kernel_rfl) ?_
  refine dq rfl (q_move rfl) ?_
  refine dq rfl (q_loadEmpty rfl aggs_210) ?_
  refine dq rfl (q_move rfl) ?_
  refine dq rfl (q_slice (lo := 3) (hi := 5) rfl Tryz.underlying22 nagg_5 (.inr ⟨_, _, rfl, rfl⟩) (.inr ⟨_, _, rfl, rfl⟩) (by omega) (by omega)) ?_
  refine dq rfl (q_call (vs := [(.agg #[]), (.slice (cutA A c 3) (5 - 3) (c - 3))]) (v := (.int .u16 ((bN bs 3 2 : Nat) : Int))) rfl ca_91 (fun w h => U16 w A n c bs (lo := 3) (hi := 5) (h.fact (j := 0) rfl) (by omega) (by omega))) ?_
  refine dq rfl (q_nil rfl) ?_
  refine dq rfl (q_field (b := rb) (off := 0) rfl fo_104_13) ?_
  refine QL.nil ?_
  refine RG.step1 7 (by kernel_rfl) ?_
  refine dop rfl (l_store (b := rb) (off := 14) (j := 0) rfl rfl nagg_70 rfl rfl rfl rfl (dlt rfl) ⟨(fun _ h => (h.wk [(0, [14])] rfl)), ?_⟩)
  refine dend (by kernel_rfl) ?_
  refine eseq ?_
  refine HT.norm [⟨rb, 104, [some (.slice none 0 0), some (.slice none 0 0), some (.int .u8 ((nb bs 0 : Nat) : Int)), some (.int .u8 (((bN bs 1 2) &&& 7 : Nat) : Int)), some (.int .u8 ((((bN bs 1 2) &&& 8) / 8 : Nat) : Int)), some (.int .u8 ((((bN bs 1 2) &&& 48) / 16 : Nat) : Int)), some (.bool (decide ((bN bs 1 2) &&& 64 ≠ 0))), some (.bool (decide ((bN bs 1 2) &&& 128 ≠ 0))), some (.bool (decide ((bN bs 1 2) &&& 256 ≠ 0))), some (.bool (decide ((bN bs 1 2) &&& 512 ≠ 0))), some (.bool (decide ((bN bs 1 2) &&& 1024 ≠ 0))), some (.bool (decide ((bN bs 1 2) &&& 2048 ≠ 0))), some (.bool false), some (.bool (decide ((bN bs 1 2) &&& 8192 ≠ 0))), some (.int .u16 ((bN bs 3 2 : Nat) : Int)), some (.int .u64 ((0 : Nat) : Int)), some (.slice none 0 0), some (.slice none 0 0), some (.int .u64 ((0 : Nat) : Int)), some (.int .u64 ((0 : Nat) : Int)), some (.slice none 0 0), some (.int .u16 ((0 : Nat) : Int)), some (.slice none 0 0)], true⟩] [Byt A n c bs] rfl rfl ?_
  refine HT.seq ?_
  refine HT.drawn mixed (St.closed _ _ _ _) (St w [rb] [⟨rb, 104, [some (.slice none 0 0), some (.slice none 0 0), some (.int .u8 ((nb bs 0 : Nat) : Int)), some (.int .u8 (((bN bs 1 2) &&& 7 : Nat) : Int)), some (.int .u8 ((((bN bs 1 2) &&& 8) / 8 : Nat) : Int)), some (.int .u8 ((((bN bs 1 2) &&& 48) / 16 : Nat) : Int)), some (.bool (decide ((bN bs 1 2) &&& 64 ≠ 0))), some (.bool (decide ((bN bs 1 2) &&& 128 ≠ 0))), some (.bool (decide ((bN bs 1 2) &&& 256 ≠ 0))), some (.bool (decide ((bN bs 1 2) &&& 512 ≠ 0))), some (.bool (decide ((bN bs 1 2) &&& 1024 ≠ 0))), some (.bool (decide ((bN bs 1 2) &&& 2048 ≠ 0))), some (.bool false), some (.bool (decide ((bN bs 1 2) &&& 8192 ≠ 0))), some (.int .u16 ((bN bs 3 2 : Nat) : Int)), none, some (.slice none 0 0), some (.slice none 0 0), some (.int .u64 ((0 : Nat) : Int)), some (.int .u64 ((0 : Nat) : Int)), some (.slice none 0 0), some (.int .u16 ((0 : Nat) : Int)), some (.slice none 0 0)], true⟩] [Byt A n c bs]) ?_
  refine dtake (f := 1) [0, 1, 2, 3, 4, 5, 6] (by kernel_rfl) (St.closed _ _ _ _) (fun _ h => (h.wk [(0, [15])] rfl)) (by kernel_rfl) ?_
  refine dq rfl (q_move rfl) ?_
  refine dq rfl (q_loadEmpty rfl aggs_210) ?_
  refine dq rfl (q_move rfl) ?_
  refine dq rfl (q_slice (lo := 5) (hi := 13) rfl Tryz.underlying22 nagg_5 (.inr ⟨_, _, rfl, rfl⟩) (.inr ⟨_, _, rfl, rfl⟩) (by omega) (by omega)) ?_
  refine dq rfl (q_call (vs := [(.agg #[]), (.slice (cutA A c 5) (13 - 5) (c - 5))]) (v := (.int .u64 ((bN bs 5 8 : Nat) : Int))) rfl ca_102 (fun w h => U64 w A n c bs (lo := 5) (hi := 13) (h.fact (j := 0) rfl) (by omega) (by omega))) ?_
  refine dq rfl (q_nil rfl) ?_
  refine dq rfl (q_field (b := rb) (off := 0) rfl fo_104_14) ?_
  refine QL.nil ?_
  refine RG.step1 7 (by kernel_rfl) ?_
  refine dop rfl (l_store (b := rb) (off := 15) (j := 0) rfl rfl nagg_39 rfl rfl rfl rfl (dlt rfl) ⟨(fun _ h => (h.wk [(0, [15])] rfl)), ?_⟩)
  refine dend (by kernel_rfl) ?_
  refine eseq ?_
  refine HT.norm [⟨rb, 104, [some (.slice none 0 0), some (.slice none 0 0), some (.int .u8 ((nb bs 0 : Nat) : Int)), some (.int .u8 (((bN bs 1 2) &&& 7 : Nat) : Int)), some (.int .u8 ((((bN bs 1 2) &&& 8) / 8 : Nat) : Int)), some (.int .u8 ((((bN bs 1 2) &&& 48) / 16 : Nat) : Int)), some (.bool (decide ((bN bs 1 2) &&& 64 ≠ 0))), some (.bool (decide ((bN bs 1 2) &&& 128 ≠ 0))), some (.bool (decide ((bN bs 1 2) &&& 256 ≠ 0))), some (.bool (decide ((bN bs 1 2) &&& 512 ≠ 0))), some (.bool (decide ((bN bs 1 2) &&& 1024 ≠ 0))), some (.bool (decide ((bN bs 1 2) &&& 2048 ≠ 0))), some (.bool false), some (.bool (decide ((bN bs 1 2) &&& 8192 ≠ 0))), some (.int .u16 ((bN bs 3 2 : Nat) : Int)), some (.int .u64 ((bN bs 5 8 : Nat) : Int)), some (.slice none 0 0), some (.slice none 0 0), some (.int .u64 ((0 : Nat) : Int)), some (.int .u64 ((0 : Nat) : Int)), some (.slice none 0 0), some (.int .u16 ((0 : Nat) : Int)), some (.slice none 0 0)], true⟩] [Byt A n c bs] rfl rfl ?_
  refine HT.seq ?_
  refine HT.plain ?_
  refine sq (St.closed _ _ _ _) (q_move rfl) rfl ?_
  refine sq (St.closed _ _ _ _) (q_move rfl) rfl ?_
  refine sq (St.closed _ _ _ _) (q_slice (lo := 13) (hi := 45) rfl Tryz.underlying22 nagg_5 (.inr ⟨_, _, rfl, rfl⟩) (.inr ⟨_, _, rfl, rfl⟩) (by omega) (by omega)) rfl ?_
  refine sq (St.closed _ _ _ _) (q_nil rfl) rfl ?_
  refine sq (St.closed _ _ _ _) (q_field (b := rb) (off := 0) rfl fo_104_15) rfl ?_
  refine sl_ (l_store (b := rb) (off := 16) (j := 0) rfl rfl nagg_22 rfl rfl rfl rfl (dlt rfl) ?_)
  refine send ?_
  refine eseq ?_
  refine HT.norm [⟨rb, 104, [some (.slice none 0 0), some (.slice none 0 0), some (.int .u8 ((nb bs 0 : Nat) : Int)), some (.int .u8 (((bN bs 1 2) &&& 7 : Nat) : Int)), some (.int .u8 ((((bN bs 1 2) &&& 8) / 8 : Nat) : Int)), some (.int .u8 ((((bN bs 1 2) &&& 48) / 16 : Nat) : Int)), some (.bool (decide ((bN bs 1 2) &&& 64 ≠ 0))), some (.bool (decide ((bN bs 1 2) &&& 128 ≠ 0))), some (.bool (decide ((bN bs 1 2) &&& 256 ≠ 0))), some (.bool (decide ((bN bs 1 2) &&& 512 ≠ 0))), some (.bool (decide ((bN bs 1 2) &&& 1024 ≠ 0))), some (.bool (decide ((bN bs 1 2) &&& 2048 ≠ 0))), some (.bool false), some (.bool (decide ((bN bs 1 2) &&& 8192 ≠ 0))), some (.int .u16 ((bN bs 3 2 : Nat) : Int)), some (.int .u64 ((bN bs 5 8 : Nat) : Int)), some (.slice (cutA A c 13) (45 - 13) (c - 13)), some (.slice none 0 0), some (.int .u64 ((0 : Nat) : Int)), some (.int .u64 ((0 : Nat) : Int)), some (.slice none 0 0), some (.int .u16 ((0 : Nat) : Int)), some (.slice none 0 0)], true⟩] [Byt A n c bs] rfl rfl ?_
  refine HT.seq ?_
  refine HT.plain ?_
  refine sq (St.closed _ _ _ _) (q_move rfl) rfl ?_
  refine sq (St.closed _ _ _ _) (q_move rfl) rfl ?_
  refine sq (St.closed _ _ _ _) (q_slice (lo := 45) (hi := 61) rfl Tryz.underlying22 nagg_5 (.inr ⟨_, _, rfl, rfl⟩) (.inr ⟨_, _, rfl, rfl⟩) (by omega) (by omega)) rfl ?_
  refine sq (St.closed _ _ _ _) (q_nil rfl) rfl ?_
  refine sq (St.closed _ _ _ _) (q_field (b := rb) (off := 0) rfl fo_104_16) rfl ?_
  refine sl_ (l_store (b := rb) (off := 17) (j := 0) rfl rfl nagg_22 rfl rfl rfl rfl (dlt rfl) ?_)
  refine send ?_
  refine eseq ?_
  refine HT.norm [⟨rb, 104, [some (.slice none 0 0), some (.slice none 0 0), some (.int .u8 ((nb bs 0 : Nat) : Int)), some (.int .u8 (((bN bs 1 2) &&& 7 : Nat) : Int)), some (.int .u8 ((((bN bs 1 2) &&& 8) / 8 : Nat) : Int)), some (.int .u8 ((((bN bs 1 2) &&& 48) / 16 : Nat) : Int)), some (.bool (decide ((bN bs 1 2) &&& 64 ≠ 0))), some (.bool (decide ((bN bs 1 2) &&& 128 ≠ 0))), some (.bool (decide ((bN bs 1 2) &&& 256 ≠ 0))), some (.bool (decide ((bN bs 1 2) &&& 512 ≠ 0))), some (.bool (decide ((bN bs 1 2) &&& 1024 ≠ 0))), some (.bool (decide ((bN bs 1 2) &&& 2048 ≠ 0))), some (.bool false), some (.bool (decide ((bN bs 1 2) &&& 8192 ≠ 0))), some (.int .u16 ((bN bs 3 2 : Nat) : Int)), some (.int .u64 ((bN bs 5 8 : Nat) : Int)), some (.slice (cutA A c 13) (45 - 13) (c - 13)), some (.slice (cutA A c 45) (61 - 45) (c - 45)), some (.int .u64 ((0 : Nat) : Int)), some (.int .u64 ((0 : Nat) : Int)), some (.slice none 0 0), some (.int .u16 ((0 : Nat) : Int)), some (.slice none 0 0)], true⟩] [Byt A n c bs] rfl rfl ?_
  refine HT.seq ?_
  refine HT.drawn mixed (St.closed _ _ _ _) (St w [rb] [⟨rb, 104, [some (.slice none 0 0), some (.slice none 0 0), some (.int .u8 ((nb bs 0 : Nat) : Int)), some (.int .u8 (((bN bs 1 2) &&& 7 : Nat) : Int)), some (.int .u8 ((((bN bs 1 2) &&& 8) / 8 : Nat) : Int)), some (.int .u8 ((((bN bs 1 2) &&& 48) / 16 : Nat) : Int)), some (.bool (decide ((bN bs 1 2) &&& 64 ≠ 0))), some (.bool (decide ((bN bs 1 2) &&& 128 ≠ 0))), some (.bool (decide ((bN bs 1 2) &&& 256 ≠ 0))), some (.bool (decide ((bN bs 1 2) &&& 512 ≠ 0))), some (.bool (decide ((bN bs 1 2) &&& 1024 ≠ 0))), some (.bool (decide ((bN bs 1 2) &&& 2048 ≠ 0))), some (.bool false), some (.bool (decide ((bN bs 1 2) &&& 8192 ≠ 0))), some (.int .u16 ((bN bs 3 2 : Nat) : Int)), some (.int .u64 ((bN bs 5 8 : Nat) : Int)), some (.slice (cutA A c 13) (45 - 13) (c - 13)), some (.slice (cutA A c 45) (61 - 45) (c - 45)), none, some (.int .u64 ((0 : Nat) : Int)), some (.slice none 0 0), some (.int .u16 ((0 : Nat) : Int)), some (.slice none 0 0)], true⟩] [Byt A n c bs]) ?_
  refine dtake (f := 1) [0, 1, 2, 3, 4, 5, 6] (by kernel_rfl) (St.closed _ _ _ _) (fun _ h => (h.wk [(0, [18])] rfl)) (by kernel_rfl) ?_
  refine dq rfl (q_move rfl) ?_
  refine dq rfl (q_loadEmpty rfl aggs_210) ?_
  refine dq rfl (q_move rfl) ?_
  refine dq rfl (q_slice (lo := 61) (hi := 69) rfl Tryz.underlying22 nagg_5 (.inr ⟨_, _, rfl, rfl⟩) (.inr ⟨_, _, rfl, rfl⟩) (by omega) (by omega)) ?_
  refine dq rfl (q_call (vs := [(.agg #[]), (.slice (cutA A c 61) (69 - 61) (c - 61))]) (v := (.int .u64 ((bN bs 61 8 : Nat) : Int))) rfl ca_102 (fun w h => U64 w A n c bs (lo := 61) (hi := 69) (h.fact (j := 0) rfl) (by omega) (by omega))) ?_
  refine dq rfl (q_nil rfl) ?_
  refine dq rfl (q_field (b := rb) (off := 0) rfl fo_104_17) ?_
  refine QL.nil ?_
  refine RG.step1 7 (by kernel_rfl) ?_
  refine dop rfl (l_store (b := rb) (off := 18) (j := 0) rfl rfl nagg_39 rfl rfl rfl rfl (dlt rfl) ⟨(fun _ h => (h.wk [(0, [18])] rfl)), ?_⟩)
  refine dend (by kernel_rfl) ?_
  refine eseq ?_
  refine HT.norm [⟨rb, 104, [some (.slice none 0 0), some (.slice none 0 0), some (.int .u8 ((nb bs 0 : Nat) : Int)), some (.int .u8 (((bN bs 1 2) &&& 7 : Nat) : Int)), some (.int .u8 ((((bN bs 1 2) &&& 8) / 8 : Nat) : Int)), some (.int .u8 ((((bN bs 1 2) &&& 48) / 16 : Nat) : Int)), some (.bool (decide ((bN bs 1 2) &&& 64 ≠ 0))), some (.bool (decide ((bN bs 1 2) &&& 128 ≠ 0))), some (.bool (decide ((bN bs 1 2) &&& 256 ≠ 0))), some (.bool (decide ((bN bs 1 2) &&& 512 ≠ 0))), some (.bool (decide ((bN bs 1 2) &&& 1024 ≠ 0))), some (.bool (decide ((bN bs 1 2) &&& 2048 ≠ 0))), some (.bool false), some (.bool (decide ((bN bs 1 2) &&& 8192 ≠ 0))), some (.int .u16 ((bN bs 3 2 : Nat) : Int)), some (.int .u64 ((bN bs 5 8 : Nat) : Int)), some (.slice (cutA A c 13) (45 - 13) (c - 13)), some (.slice (cutA A c 45) (61 - 45) (c - 45)), some (.int .u64 ((bN bs 61 8 : Nat) : Int)), some (.int .u64 ((0 : Nat) : Int)), some (.slice none 0 0), some (.int .u16 ((0 : Nat) : Int)), some (.slice none 0 0)], true⟩] [Byt A n c bs] rfl rfl ?_
  refine HT.seq ?_
  refine HT.drawn mixed (St.closed _ _ _ _) (St w [rb] [⟨rb, 104, [some (.slice none 0 0), some (.slice none 0 0), some (.int .u8 ((nb bs 0 : Nat) : Int)), some (.int .u8 (((bN bs 1 2) &&& 7 : Nat) : Int)), some (.int .u8 ((((bN bs 1 2) &&& 8) / 8 : Nat) : Int)), some (.int .u8 ((((bN bs 1 2) &&& 48) / 16 : Nat) : Int)), some (.bool (decide ((bN bs 1 2) &&& 64 ≠ 0))), some (.bool (decide ((bN bs 1 2) &&& 128 ≠ 0))), some (.bool (decide ((bN bs 1 2) &&& 256 ≠ 0))), some (.bool (decide ((bN bs 1 2) &&& 512 ≠ 0))), some (.bool (decide ((bN bs 1 2) &&& 1024 ≠ 0))), some (.bool (decide ((bN bs 1 2) &&& 2048 ≠ 0))), some (.bool false), some (.bool (decide ((bN bs 1 2) &&& 8192 ≠ 0))), some (.int .u16 ((bN bs 3 2 : Nat) : Int)), some (.int .u64 ((bN bs 5 8 : Nat) : Int)), some (.slice (cutA A c 13) (45 - 13) (c - 13)), some (.slice (cutA A c 45) (61 - 45) (c - 45)), some (.int .u64 ((bN bs 61 8 : Nat) : Int)), none, some (.slice none 0 0), some (.int .u16 ((0 : Nat) : Int)), some (.slice none 0 0)], true⟩] [Byt A n c bs]) ?_
  refine dtake (f := 1) [0, 1, 2, 3, 4, 5, 6] (by kernel_rfl) (St.closed _ _ _ _) (fun _ h => (h.wk [(0, [19])] rfl)) (by kernel_rfl) ?_
  refine dq rfl (q_move rfl) ?_
  refine dq rfl (q_loadEmpty rfl aggs_210) ?_
  refine dq rfl (q_move rfl) ?_
  refine dq rfl (q_slice (lo := 69) (hi := 77) rfl Tryz.underlying22 nagg_5 (.inr ⟨_, _, rfl, rfl⟩) (.inr ⟨_, _, rfl, rfl⟩) (by omega) (by omega)) ?_
  refine dq rfl (q_call (vs := [(.agg #[]), (.slice (cutA A c 69) (77 - 69) (c - 69))]) (v := (.int .u64 ((bN bs 69 8 : Nat) : Int))) rfl ca_102 (fun w h => U64 w A n c bs (lo := 69) (hi := 77) (h.fact (j := 0) rfl) (by omega) (by omega))) ?_
  refine dq rfl (q_nil rfl) ?_
  refine dq rfl (q_field (b := rb) (off := 0) rfl fo_104_18) ?_
  refine QL.nil ?_
  refine RG.step1 7 (by kernel_rfl) ?_
  refine dop rfl (l_store (b := rb) (off := 19) (j := 0) rfl rfl nagg_39 rfl rfl rfl rfl (dlt rfl) ⟨(fun _ h => (h.wk [(0, [19])] rfl)), ?_⟩)
  refine dend (by kernel_rfl) ?_
  refine eseq ?_
  refine HT.norm [⟨rb, 104, [some (.slice none 0 0), some (.slice none 0 0), some (.int .u8 ((nb bs 0 : Nat) : Int)), some (.int .u8 (((bN bs 1 2) &&& 7 : Nat) : Int)), some (.int .u8 ((((bN bs 1 2) &&& 8) / 8 : Nat) : Int)), some (.int .u8 ((((bN bs 1 2) &&& 48) / 16 : Nat) : Int)), some (.bool (decide ((bN bs 1 2) &&& 64 ≠ 0))), some (.bool (decide ((bN bs 1 2) &&& 128 ≠ 0))), some (.bool (decide ((bN bs 1 2) &&& 256 ≠ 0))), some (.bool (decide ((bN bs 1 2) &&& 512 ≠ 0))), some (.bool (decide ((bN bs 1 2) &&& 1024 ≠ 0))), some (.bool (decide ((bN bs 1 2) &&& 2048 ≠ 0))), some (.bool false), some (.bool (decide ((bN bs 1 2) &&& 8192 ≠ 0))), some (.int .u16 ((bN bs 3 2 : Nat) : Int)), some (.int .u64 ((bN bs 5 8 : Nat) : Int)), some (.slice (cutA A c 13) (45 - 13) (c - 13)), some (.slice (cutA A c 45) (61 - 45) (c - 45)), some (.int .u64 ((bN bs 61 8 : Nat) : Int)), some (.int .u64 ((bN bs 69 8 : Nat) : Int)), some (.slice none 0 0), some (.int .u16 ((0 : Nat) : Int)), some (.slice none 0 0)], true⟩] [Byt A n c bs] rfl rfl ?_
  refine HT.seq ?_
  refine HT.plain ?_
  refine sq (St.closed _ _ _ _) (q_move rfl) rfl ?_
  refine sq (St.closed _ _ _ _) (q_move rfl) rfl ?_
  refine sq (St.closed _ _ _ _) (q_slice (lo := 77) (hi := 93) rfl Tryz.underlying22 nagg_5 (.inr ⟨_, _, rfl, rfl⟩) (.inr ⟨_, _, rfl, rfl⟩) (by omega) (by omega)) rfl ?_
  refine sq (St.closed _ _ _ _) (q_nil rfl) rfl ?_
  refine sq (St.closed _ _ _ _) (q_field (b := rb) (off := 0) rfl fo_104_19) rfl ?_
  refine sl_ (l_store (b := rb) (off := 20) (j := 0) rfl rfl nagg_22 rfl rfl rfl rfl (dlt rfl) ?_)
  refine send ?_
  refine eseq ?_
  refine HT.norm [⟨rb, 104, [some (.slice none 0 0), some (.slice none 0 0), some (.int .u8 ((nb bs 0 : Nat) : Int)), some (.int .u8 (((bN bs 1 2) &&& 7 : Nat) : Int)), some (.int .u8 ((((bN bs 1 2) &&& 8) / 8 : Nat) : Int)), some (.int .u8 ((((bN bs 1 2) &&& 48) / 16 : Nat) : Int)), some (.bool (decide ((bN bs 1 2) &&& 64 ≠ 0))), some (.bool (decide ((bN bs 1 2) &&& 128 ≠ 0))), some (.bool (decide ((bN bs 1 2) &&& 256 ≠ 0))), some (.bool (decide ((bN bs 1 2) &&& 512 ≠ 0))), some (.bool (decide ((bN bs 1 2) &&& 1024 ≠ 0))), some (.bool (decide ((bN bs 1 2) &&& 2048 ≠ 0))), some (.bool false), some (.bool (decide ((bN bs 1 2) &&& 8192 ≠ 0))), some (.int .u16 ((bN bs 3 2 : Nat) : Int)), some (.int .u64 ((bN bs 5 8 : Nat) : Int)), some (.slice (cutA A c 13) (45 - 13) (c - 13)), some (.slice (cutA A c 45) (61 - 45) (c - 45)), some (.int .u64 ((bN bs 61 8 : Nat) : Int)), some (.int .u64 ((bN bs 69 8 : Nat) : Int)), some (.slice (cutA A c 77) (93 - 77) (c - 77)), some (.int .u16 ((0 : Nat) : Int)), some (.slice none 0 0)], true⟩] [Byt A n c bs] rfl rfl ?_
  refine HT.seq ?_
  refine HT.drawn mixed (St.closed _ _ _ _) (St w [rb] [⟨rb, 104, [some (.slice none 0 0), some (.slice none 0 0), some (.int .u8 ((nb bs 0 : Nat) : Int)), some (.int .u8 (((bN bs 1 2) &&& 7 : Nat) : Int)), some (.int .u8 ((((bN bs 1 2) &&& 8) / 8 : Nat) : Int)), some (.int .u8 ((((bN bs 1 2) &&& 48) / 16 : Nat) : Int)), some (.bool (decide ((bN bs 1 2) &&& 64 ≠ 0))), some (.bool (decide ((bN bs 1 2) &&& 128 ≠ 0))), some (.bool (decide ((bN bs 1 2) &&& 256 ≠ 0))), some (.bool (decide ((bN bs 1 2) &&& 512 ≠ 0))), some (.bool (decide ((bN bs 1 2) &&& 1024 ≠ 0))), some (.bool (decide ((bN bs 1 2) &&& 2048 ≠ 0))), some (.bool false), some (.bool (decide ((bN bs 1 2) &&& 8192 ≠ 0))), some (.int .u16 ((bN bs 3 2 : Nat) : Int)), some (.int .u64 ((bN bs 5 8 : Nat) : Int)), some (.slice (cutA A c 13) (45 - 13) (c - 13)), some (.slice (cutA A c 45) (61 - 45) (c - 45)), some (.int .u64 ((bN bs 61 8 : Nat) : Int)), some (.int .u64 ((bN bs 69 8 : Nat) : Int)), some (.slice (cutA A c 77) (93 - 77) (c - 77)), none, some (.slice none 0 0)], true⟩] [Byt A n c bs]) ?_
  refine dtake (f := 1) [0, 1, 2, 3, 4, 5, 6] (by kernel_rfl) (St.closed _ _ _ _) (fun _ h => (h.wk [(0, [21])] rfl)) (by kernel_rfl) ?_
  refine dq rfl (q_move rfl) ?_
  refine dq rfl (q_loadEmpty rfl aggs_210) ?_
  refine dq rfl (q_move rfl) ?_
  refine dq rfl (q_slice (lo := 93) (hi := 95) rfl Tryz.underlying22 nagg_5 (.inr ⟨_, _, rfl, rfl⟩) (.inr ⟨_, _, rfl, rfl⟩) (by omega) (by omega)) ?_
  refine dq rfl (q_call (vs := [(.agg #[]), (.slice (cutA A c 93) (95 - 93) (c - 93))]) (v := (.int .u16 ((bN bs 93 2 : Nat) : Int))) rfl ca_91 (fun w h => U16 w A n c bs (lo := 93) (hi := 95) (h.fact (j := 0) rfl) (by omega) (by omega))) ?_
  refine dq rfl (q_nil rfl) ?_
  refine dq rfl (q_field (b := rb) (off := 0) rfl fo_104_20) ?_
  refine QL.nil ?_
  refine RG.step1 7 (by kernel_rfl) ?_
  refine dop rfl (l_store (b := rb) (off := 21) (j := 0) rfl rfl nagg_70 rfl rfl rfl rfl (dlt rfl) ⟨(fun _ h => (h.wk [(0, [21])] rfl)), ?_⟩)
  refine dend (by kernel_rfl) ?_
  refine eseq ?_
  refine HT.norm [⟨rb, 104, [some (.slice none 0 0), some (.slice none 0 0), some (.int .u8 ((nb bs 0 : Nat) : Int)), some (.int .u8 (((bN bs 1 2) &&& 7 : Nat) : Int)), some (.int .u8 ((((bN bs 1 2) &&& 8) / 8 : Nat) : Int)), some (.int .u8 ((((bN bs 1 2) &&& 48) / 16 : Nat) : Int)), some (.bool (decide ((bN bs 1 2) &&& 64 ≠ 0))), some (.bool (decide ((bN bs 1 2) &&& 128 ≠ 0))), some (.bool (decide ((bN bs 1 2) &&& 256 ≠ 0))), some (.bool (decide ((bN bs 1 2) &&& 512 ≠ 0))), some (.bool (decide ((bN bs 1 2) &&& 1024 ≠ 0))), some (.bool (decide ((bN bs 1 2) &&& 2048 ≠ 0))), some (.bool false), some (.bool (decide ((bN bs 1 2) &&& 8192 ≠ 0))), some (.int .u16 ((bN bs 3 2 : Nat) : Int)), some (.int .u64 ((bN bs 5 8 : Nat) : Int)), some (.slice (cutA A c 13) (45 - 13) (c - 13)), some (.slice (cutA A c 45) (61 - 45) (c - 45)), some (.int .u64 ((bN bs 61 8 : Nat) : Int)), some (.int .u64 ((bN bs 69 8 : Nat) : Int)), some (.slice (cutA A c 77) (93 - 77) (c - 77)), some (.int .u16 ((bN bs 93 2 : Nat) : Int)), some (.slice none 0 0)], true⟩] [Byt A n c bs] rfl rfl ?_
  refine HT.seq ?_
  refine HT.plain ?_
  refine sq (St.closed _ _ _ _) (q_move rfl) rfl ?_
  refine sq (St.closed _ _ _ _) (q_nil rfl) rfl ?_
  refine sq (St.closed _ _ _ _) (q_field (b := rb) (off := 0) rfl fo_104_20) rfl ?_
  refine sq (St.closed _ _ _ _) (q_load (b := rb) (off := 21) (j := 0) rfl nagg_70 (fun _ h => h) rfl rfl rfl) rfl ?_
  refine sq (St.closed _ _ _ _) (q_convn (p := bN bs 93 2) rfl Tryz.underlying70 Tryz.underlying3 (show bN bs 93 2 < 9223372036854775808 by have := bN_lt bs 93 2 65536 rfl; omega)) rfl ?_
  refine sq (St.closed _ _ _ _) (q_add (p := 95) (q := bN bs 93 2) rfl rfl (show 95 + (bN bs 93 2) < 9223372036854775808 by have := bN_lt bs 93 2 65536 rfl; omega)) rfl ?_
  refine sq (St.closed _ _ _ _) (q_assign rfl) rfl ?_
  refine send ?_
  refine eseq ?_
  refine HT.seq ?_
  refine HT.seq ?_
  refine HT.plain ?_
  refine sq (St.closed _ _ _ _) (q_move rfl) rfl ?_
  refine sq (St.closed _ _ _ _) (q_len (len := n) rfl Tryz.underlying22) rfl ?_
  refine sq (St.closed _ _ _ _) (q_move rfl) rfl ?_
  refine sq (St.closed _ _ _ _) (q_F (q_lt (p := n) (q := 95 + (bN bs 93 2)) rfl rfl) (by have := bN_lt bs 93 2 65536 rfl; omega)) rfl ?_
  refine send ?_
  refine eseq ?_
  refine HT.no rfl ?_
  refine HT.skip ?_
  refine eseq ?_
  refine HT.seq ?_
  refine HT.seq ?_
  refine HT.plain ?_
  refine sq (St.closed _ _ _ _) (q_move rfl) rfl ?_
  refine sq (St.closed _ _ _ _) (q_nil rfl) rfl ?_
  refine sq (St.closed _ _ _ _) (q_field (b := rb) (off := 0) rfl fo_104_11) rfl ?_
  refine sq (St.closed _ _ _ _) (q_load (b := rb) (off := 12) (j := 0) rfl nagg_4 (fun _ h => h) rfl rfl rfl) rfl ?_
  refine send ?_
  refine eseq ?_
  refine HT.no rfl ?_
  refine HT.drawn mixed (St.closed _ _ _ _) (St w [rb] [⟨rb, 104, [none, none, some (.int .u8 ((nb bs 0 : Nat) : Int)), some (.int .u8 (((bN bs 1 2) &&& 7 : Nat) : Int)), some (.int .u8 ((((bN bs 1 2) &&& 8) / 8 : Nat) : Int)), some (.int .u8 ((((bN bs 1 2) &&& 48) / 16 : Nat) : Int)), some (.bool (decide ((bN bs 1 2) &&& 64 ≠ 0))), some (.bool (decide ((bN bs 1 2) &&& 128 ≠ 0))), some (.bool (decide ((bN bs 1 2) &&& 256 ≠ 0))), some (.bool (decide ((bN bs 1 2) &&& 512 ≠ 0))), some (.bool (decide ((bN bs 1 2) &&& 1024 ≠ 0))), some (.bool (decide ((bN bs 1 2) &&& 2048 ≠ 0))), some (.bool false), some (.bool (decide ((bN bs 1 2) &&& 8192 ≠ 0))), some (.int .u16 ((bN bs 3 2 : Nat) : Int)), some (.int .u64 ((bN bs 5 8 : Nat) : Int)), some (.slice (cutA A c 13) (45 - 13) (c - 13)), some (.slice (cutA A c 45) (61 - 45) (c - 45)), some (.int .u64 ((bN bs 61 8 : Nat) : Int)), some (.int .u64 ((bN bs 69 8 : Nat) : Int)), some (.slice (cutA A c 77) (93 - 77) (c - 77)), some (.int .u16 ((bN bs 93 2 : Nat) : Int)), some (.slice none 0 0)], true⟩] [Byt A n c bs]) ?_
  refine dtake (f := 1) [0, 1, 2, 3, 4, 5, 6, 7] (by kernel_rfl) (St.closed _ _ _ _) (fun _ h => (h.wk [(0, [0, 1])] rfl)) (by kernel_rfl) ?_
  refine dq rfl (q_move rfl) ?_
  refine dq rfl (q_move rfl) ?_
  refine dq rfl (q_slice (lo := 0) (hi := 95) rfl Tryz.underlying22 nagg_5 (.inl ⟨rfl, rfl⟩) (.inr ⟨_, _, rfl, rfl⟩) (by omega) (by omega)) ?_
  refine dq rfl (q_move rfl) ?_
  refine dq rfl (q_slice (lo := 95) (hi := n) rfl Tryz.underlying22 nagg_5 (.inr ⟨_, _, rfl, rfl⟩) (.inl ⟨rfl, rfl⟩) (by omega) (by omega)) ?_
  refine dq rfl (q_build (vs := [(0, (.slice (cutA A c 0) (95 - 0) (c - 0))), (1, (.slice (cutA A c 95) (n - 95) (c - 95)))]) (v := (.agg #[(.slice (cutA A c 0) (95 - 0) (c - 0)), (.slice (cutA A c 95) (n - 95) (c - 95))])) rfl (fun _ => by kernel_rfl)) ?_
  refine dq rfl (q_nil rfl) ?_
  refine dq rfl (q_field (b := rb) (off := 0) rfl fo_104_0) ?_
  refine QL.nil ?_
  refine RG.step1 8 (by kernel_rfl) ?_
  refine dop rfl (l_storeAgg (b := rb) (off := 0) (j := 0) (vs := [(.slice (cutA A c 0) (95 - 0) (c - 0)), (.slice (cutA A c 95) (n - 95) (c - 95))]) rfl rfl aggs_68 (by simp [Value.one1]) rfl rfl rfl (Nat.le_of_ble_eq_true rfl) ⟨(fun _ h => (h.wk [(0, [0, 1])] rfl)), ?_⟩)
  refine dend (by kernel_rfl) ?_
  refine eseq ?_
  refine HT.norm [⟨rb, 104, [some (.slice (cutA A c 0) (95 - 0) (c - 0)), some (.slice (cutA A c 95) (n - 95) (c - 95)), some (.int .u8 ((nb bs 0 : Nat) : Int)), some (.int .u8 (((bN bs 1 2) &&& 7 : Nat) : Int)), some (.int .u8 ((((bN bs 1 2) &&& 8) / 8 : Nat) : Int)), some (.int .u8 ((((bN bs 1 2) &&& 48) / 16 : Nat) : Int)), some (.bool (decide ((bN bs 1 2) &&& 64 ≠ 0))), some (.bool (decide ((bN bs 1 2) &&& 128 ≠ 0))), some (.bool (decide ((bN bs 1 2) &&& 256 ≠ 0))), some (.bool (decide ((bN bs 1 2) &&& 512 ≠ 0))), some (.bool (decide ((bN bs 1 2) &&& 1024 ≠ 0))), some (.bool (decide ((bN bs 1 2) &&& 2048 ≠ 0))), some (.bool false), some (.bool (decide ((bN bs 1 2) &&& 8192 ≠ 0))), some (.int .u16 ((bN bs 3 2 : Nat) : Int)), some (.int .u64 ((bN bs 5 8 : Nat) : Int)), some (.slice (cutA A c 13) (45 - 13) (c - 13)), some (.slice (cutA A c 45) (61 - 45) (c - 45)), some (.int .u64 ((bN bs 61 8 : Nat) : Int)), some (.int .u64 ((bN bs 69 8 : Nat) : Int)), some (.slice (cutA A c 77) (93 - 77) (c - 77)), some (.int .u16 ((bN bs 93 2 : Nat) : Int)), some (.slice none 0 0)], true⟩] [Byt A n c bs] rfl rfl ?_
  refine HT.seq ?_
  refine HT.plain ?_
  refine sq (St.closed _ _ _ _) (q_assign rfl) rfl ?_
  refine send ?_
  refine eseq ?_
  refine HT.ret ?_
  exact fun a ha w' hw => fin_ ha (res1 ha Tryz.results139 rfl) ⟨rfl, hw, fr0⟩

theorem eapolkey_dd3 (w : World) (A : Option Addr) (n : Nat) (c : Nat) (bs : List UInt8) (rb : Nat) (kb : Nat) (hn : n ≤ 400) (ha : 95 ≤ n) (hb : bN bs 93 2 ≤ n - 95) (hc : bN bs 1 2 / 4096 % 2 = 0) (hst : St w [rb, kb] [⟨rb, 104, [some (.slice none 0 0), some (.slice none 0 0), some (.int .u8 ((0 : Nat) : Int)), some (.int .u8 ((0 : Nat) : Int)), some (.int .u8 ((0 : Nat) : Int)), some (.int .u8 ((0 : Nat) : Int)), some (.bool false), some (.bool false), some (.bool false), some (.bool false), some (.bool false), some (.bool false), some (.bool false), some (.bool false), some (.int .u16 ((0 : Nat) : Int)), some (.int .u64 ((0 : Nat) : Int)), some (.slice none 0 0), some (.slice none 0 0), some (.int .u64 ((0 : Nat) : Int)), some (.int .u64 ((0 : Nat) : Int)), some (.slice none 0 0), some (.int .u16 ((0 : Nat) : Int)), some (.slice none 0 0)], true⟩, ⟨kb, 201, [some .nilIface], true⟩] [Byt A n c bs] w) : Calls Tryz.prog 96 #[(.iface 99 (.pointer (some ⟨rb, 0, none⟩))), (.slice A n c), (.iface 199 (.pointer (some ⟨kb, 0, none⟩)))] w (CP0 w [rb, kb] [Byt A n c bs] (.nilIface) ([⟨rb, 104, [some (.slice (cutA A c 0) (95 - 0) (c - 0)), some (.slice (cutA A c 95) (n - 95) (c - 95)), some (.int .u8 ((nb bs 0 : Nat) : Int)), some (.int .u8 (((bN bs 1 2) &&& 7 : Nat) : Int)), some (.int .u8 ((((bN bs 1 2) &&& 8) / 8 : Nat) : Int)), some (.int .u8 ((((bN bs 1 2) &&& 48) / 16 : Nat) : Int)), some (.bool (decide ((bN bs 1 2) &&& 64 ≠ 0))), some (.bool (decide ((bN bs 1 2) &&& 128 ≠ 0))), some (.bool (decide ((bN bs 1 2) &&& 256 ≠ 0))), some (.bool (decide ((bN bs 1 2) &&& 512 ≠ 0))), some (.bool (decide ((bN bs 1 2) &&& 1024 ≠ 0))), some (.bool (decide ((bN bs 1 2) &&& 2048 ≠ 0))), some (.bool false), some (.bool (decide ((bN bs 1 2) &&& 8192 ≠ 0))), some (.int .u16 ((bN bs 3 2 : Nat) : Int)), some (.int .u64 ((bN bs 5 8 : Nat) : Int)), some (.slice (cutA A c 13) (45 - 13) (c - 13)), some (.slice (cutA A c 45) (61 - 45) (c - 45)), some (.int .u64 ((bN bs 61 8 : Nat) : Int)), some (.int .u64 ((bN bs 69 8 : Nat) : Int)), some (.slice (cutA A c 77) (93 - 77) (c - 77)), some (.int .u16 ((bN bs 93 2 : Nat) : Int)), some (.slice none 0 0)], true⟩, ⟨kb, 201, [some (.iface 99 (.pointer (some ⟨rb, 0, none⟩)))], true⟩]) ([])) := by
  have hnc00 : n ≤ c := (hst.fact (j := 0) rfl).2.1
  refine enter (vs := [(.iface 99 (.pointer (some ⟨rb, 0, none⟩))), (.slice A n c), (.iface 199 (.pointer (some ⟨kb, 0, none⟩)))]) Tryz.func96 rfl rfl rfl hst ?_
  refine HT.seq ?_
  refine HT.plain ?_
  refine sq (St.closed _ _ _ _) (q_assign rfl) rfl ?_
  refine send ?_
  refine eseq ?_
  refine HT.seq ?_
  refine HT.plain ?_
  refine sq (St.closed _ _ _ _) (q_move rfl) rfl ?_
  refine sq (St.closed _ _ _ _) (q_move rfl) rfl ?_
  refine sq (St.closed _ _ _ _) (q_move rfl) rfl ?_
  refine sl_ (l_invX0 (vs := [(.slice A n c), (.iface 199 (.pointer (some ⟨kb, 0, none⟩)))]) (Kc := [⟨rb, 104, [some (.slice none 0 0), some (.slice none 0 0), some (.int .u8 ((0 : Nat) : Int)), some (.int .u8 ((0 : Nat) : Int)), some (.int .u8 ((0 : Nat) : Int)), some (.int .u8 ((0 : Nat) : Int)), some (.bool false), some (.bool false), some (.bool false), some (.bool false), some (.bool false), some (.bool false), some (.bool false), some (.bool false), some (.int .u16 ((0 : Nat) : Int)), some (.int .u64 ((0 : Nat) : Int)), some (.slice none 0 0), some (.slice none 0 0), some (.int .u64 ((0 : Nat) : Int)), some (.int .u64 ((0 : Nat) : Int)), some (.slice none 0 0), some (.int .u16 ((0 : Nat) : Int)), some (.slice none 0 0)], true⟩]) (Bc := [Byt A n c bs]) [0] [0] [Byt A n c bs] ([⟨kb, 201, [some .nilIface], true⟩, ⟨rb, 104, [some (.slice (cutA A c 0) (95 - 0) (c - 0)), some (.slice (cutA A c 95) (n - 95) (c - 95)), some (.int .u8 ((nb bs 0 : Nat) : Int)), some (.int .u8 (((bN bs 1 2) &&& 7 : Nat) : Int)), some (.int .u8 ((((bN bs 1 2) &&& 8) / 8 : Nat) : Int)), some (.int .u8 ((((bN bs 1 2) &&& 48) / 16 : Nat) : Int)), some (.bool (decide ((bN bs 1 2) &&& 64 ≠ 0))), some (.bool (decide ((bN bs 1 2) &&& 128 ≠ 0))), some (.bool (decide ((bN bs 1 2) &&& 256 ≠ 0))), some (.bool (decide ((bN bs 1 2) &&& 512 ≠ 0))), some (.bool (decide ((bN bs 1 2) &&& 1024 ≠ 0))), some (.bool (decide ((bN bs 1 2) &&& 2048 ≠ 0))), some (.bool false), some (.bool (decide ((bN bs 1 2) &&& 8192 ≠ 0))), some (.int .u16 ((bN bs 3 2 : Nat) : Int)), some (.int .u64 ((bN bs 5 8 : Nat) : Int)), some (.slice (cutA A c 13) (45 - 13) (c - 13)), some (.slice (cutA A c 45) (61 - 45) (c - 45)), some (.int .u64 ((bN bs 61 8 : Nat) : Int)), some (.int .u64 ((bN bs 69 8 : Nat) : Int)), some (.slice (cutA A c 77) (93 - 77) (c - 77)), some (.int .u16 ((bN bs 93 2 : Nat) : Int)), some (.slice none 0 0)], true⟩]) ([Byt A n c bs]) (by decide) rfl (fun w => me_99_DecodeFromBytes _ w) rfl ca_139 (fun _ h => h) rfl rfl rfl rfl (fun w h => eapolkey_m1_3 w A n c bs rb kb (by omega) (by omega) (by omega) (by omega) h) rfl rfl rfl rfl fun hf1 he2 => ?_)
  refine sq (St.closed _ _ _ _) (q_assign rfl) rfl ?_
  refine send ?_
  refine eseq ?_
  refine HT.norm [⟨kb, 201, [some .nilIface], true⟩, ⟨rb, 104, [some (.slice (cutA A c 0) (95 - 0) (c - 0)), some (.slice (cutA A c 95) (n - 95) (c - 95)), some (.int .u8 ((nb bs 0 : Nat) : Int)), some (.int .u8 (((bN bs 1 2) &&& 7 : Nat) : Int)), some (.int .u8 ((((bN bs 1 2) &&& 8) / 8 : Nat) : Int)), some (.int .u8 ((((bN bs 1 2) &&& 48) / 16 : Nat) : Int)), some (.bool (decide ((bN bs 1 2) &&& 64 ≠ 0))), some (.bool (decide ((bN bs 1 2) &&& 128 ≠ 0))), some (.bool (decide ((bN bs 1 2) &&& 256 ≠ 0))), some (.bool (decide ((bN bs 1 2) &&& 512 ≠ 0))), some (.bool (decide ((bN bs 1 2) &&& 1024 ≠ 0))), some (.bool (decide ((bN bs 1 2) &&& 2048 ≠ 0))), some (.bool false), some (.bool (decide ((bN bs 1 2) &&& 8192 ≠ 0))), some (.int .u16 ((bN bs 3 2 : Nat) : Int)), some (.int .u64 ((bN bs 5 8 : Nat) : Int)), some (.slice (cutA A c 13) (45 - 13) (c - 13)), some (.slice (cutA A c 45) (61 - 45) (c - 45)), some (.int .u64 ((bN bs 61 8 : Nat) : Int)), some (.int .u64 ((bN bs 69 8 : Nat) : Int)), some (.slice (cutA A c 77) (93 - 77) (c - 77)), some (.int .u16 ((bN bs 93 2 : Nat) : Int)), some (.slice none 0 0)], true⟩] [Byt A n c bs] rfl rfl ?_
  refine HT.seq ?_
  refine HT.seq ?_
  refine HT.plain ?_
  refine sq (St.closed _ _ _ _) (q_move rfl) rfl ?_
  refine sq (St.closed _ _ _ _) (q_notNil rfl rfl Tryz.underlying59) rfl ?_
  refine send ?_
  refine eseq ?_
  refine HT.no rfl ?_
  refine HT.skip ?_
  refine eseq ?_
  refine HT.seq ?_
  refine HT.plain ?_
  refine sq (St.closed _ _ _ _) (q_move rfl) rfl ?_
  refine sq (St.closed _ _ _ _) (q_move rfl) rfl ?_
  refine sl_ (l_invX0 (vs := [(.iface 99 (.pointer (some ⟨rb, 0, none⟩)))]) (Kc := [⟨kb, 201, [some .nilIface], true⟩]) (Bc := []) [0] [] [Byt A n c bs] ([⟨rb, 104, [some (.slice (cutA A c 0) (95 - 0) (c - 0)), some (.slice (cutA A c 95) (n - 95) (c - 95)), some (.int .u8 ((nb bs 0 : Nat) : Int)), some (.int .u8 (((bN bs 1 2) &&& 7 : Nat) : Int)), some (.int .u8 ((((bN bs 1 2) &&& 8) / 8 : Nat) : Int)), some (.int .u8 ((((bN bs 1 2) &&& 48) / 16 : Nat) : Int)), some (.bool (decide ((bN bs 1 2) &&& 64 ≠ 0))), some (.bool (decide ((bN bs 1 2) &&& 128 ≠ 0))), some (.bool (decide ((bN bs 1 2) &&& 256 ≠ 0))), some (.bool (decide ((bN bs 1 2) &&& 512 ≠ 0))), some (.bool (decide ((bN bs 1 2) &&& 1024 ≠ 0))), some (.bool (decide ((bN bs 1 2) &&& 2048 ≠ 0))), some (.bool false), some (.bool (decide ((bN bs 1 2) &&& 8192 ≠ 0))), some (.int .u16 ((bN bs 3 2 : Nat) : Int)), some (.int .u64 ((bN bs 5 8 : Nat) : Int)), some (.slice (cutA A c 13) (45 - 13) (c - 13)), some (.slice (cutA A c 45) (61 - 45) (c - 45)), some (.int .u64 ((bN bs 61 8 : Nat) : Int)), some (.int .u64 ((bN bs 69 8 : Nat) : Int)), some (.slice (cutA A c 77) (93 - 77) (c - 77)), some (.int .u16 ((bN bs 93 2 : Nat) : Int)), some (.slice none 0 0)], true⟩, ⟨kb, 201, [some (.iface 99 (.pointer (some ⟨rb, 0, none⟩)))], true⟩]) ([Byt A n c bs]) (by decide) rfl (fun w => me_199_AddLayer _ w) rfl ca_166 (fun _ h => h) rfl rfl rfl rfl (fun w h => addLayer w kb 99 rb  h) rfl rfl rfl rfl fun hf3 he4 => ?_)
  refine send ?_
  refine eseq ?_
  refine HT.norm [⟨rb, 104, [some (.slice (cutA A c 0) (95 - 0) (c - 0)), some (.slice (cutA A c 95) (n - 95) (c - 95)), some (.int .u8 ((nb bs 0 : Nat) : Int)), some (.int .u8 (((bN bs 1 2) &&& 7 : Nat) : Int)), some (.int .u8 ((((bN bs 1 2) &&& 8) / 8 : Nat) : Int)), some (.int .u8 ((((bN bs 1 2) &&& 48) / 16 : Nat) : Int)), some (.bool (decide ((bN bs 1 2) &&& 64 ≠ 0))), some (.bool (decide ((bN bs 1 2) &&& 128 ≠ 0))), some (.bool (decide ((bN bs 1 2) &&& 256 ≠ 0))), some (.bool (decide ((bN bs 1 2) &&& 512 ≠ 0))), some (.bool (decide ((bN bs 1 2) &&& 1024 ≠ 0))), some (.bool (decide ((bN bs 1 2) &&& 2048 ≠ 0))), some (.bool false), some (.bool (decide ((bN bs 1 2) &&& 8192 ≠ 0))), some (.int .u16 ((bN bs 3 2 : Nat) : Int)), some (.int .u64 ((bN bs 5 8 : Nat) : Int)), some (.slice (cutA A c 13) (45 - 13) (c - 13)), some (.slice (cutA A c 45) (61 - 45) (c - 45)), some (.int .u64 ((bN bs 61 8 : Nat) : Int)), some (.int .u64 ((bN bs 69 8 : Nat) : Int)), some (.slice (cutA A c 77) (93 - 77) (c - 77)), some (.int .u16 ((bN bs 93 2 : Nat) : Int)), some (.slice none 0 0)], true⟩, ⟨kb, 201, [some (.iface 99 (.pointer (some ⟨rb, 0, none⟩)))], true⟩] [Byt A n c bs] rfl rfl ?_
  refine HT.seq ?_
  refine HT.plain ?_
  refine sq (St.closed _ _ _ _) (q_assign rfl) rfl ?_
  refine send ?_
  refine eseq ?_
  refine HT.ret ?_
  exact fun a ha w' hw => fin_ ha (res1 ha Tryz.results96 rfl) ⟨rfl, hw, fr0⟩

theorem eapolkey_d3 (w : World) (A : Option Addr) (n : Nat) (c : Nat) (bs : List UInt8) (kb : Nat) (hn : n ≤ 400) (ha : 95 ≤ n) (hb : bN bs 93 2 ≤ n - 95) (hc : bN bs 1 2 / 4096 % 2 = 0) (hst : St w [kb] [⟨kb, 201, [some .nilIface], true⟩] [Byt A n c bs] w) : Calls Tryz.prog 76 #[(.slice A n c), (.iface 199 (.pointer (some ⟨kb, 0, none⟩)))] w (CP1 w [kb] [Byt A n c bs] (fun b7 => .nilIface) (fun b7 => [⟨kb, 201, [some (.iface 99 (.pointer (some ⟨b7, 0, none⟩)))], true⟩, ⟨b7, 104, [some (.slice (cutA A c 0) (95 - 0) (c - 0)), some (.slice (cutA A c 95) (n - 95) (c - 95)), some (.int .u8 ((nb bs 0 : Nat) : Int)), some (.int .u8 (((bN bs 1 2) &&& 7 : Nat) : Int)), some (.int .u8 ((((bN bs 1 2) &&& 8) / 8 : Nat) : Int)), some (.int .u8 ((((bN bs 1 2) &&& 48) / 16 : Nat) : Int)), some (.bool (decide ((bN bs 1 2) &&& 64 ≠ 0))), some (.bool (decide ((bN bs 1 2) &&& 128 ≠ 0))), some (.bool (decide ((bN bs 1 2) &&& 256 ≠ 0))), some (.bool (decide ((bN bs 1 2) &&& 512 ≠ 0))), some (.bool (decide ((bN bs 1 2) &&& 1024 ≠ 0))), some (.bool (decide ((bN bs 1 2) &&& 2048 ≠ 0))), some (.bool false), some (.bool (decide ((bN bs 1 2) &&& 8192 ≠ 0))), some (.int .u16 ((bN bs 3 2 : Nat) : Int)), some (.int .u64 ((bN bs 5 8 : Nat) : Int)), some (.slice (cutA A c 13) (45 - 13) (c - 13)), some (.slice (cutA A c 45) (61 - 45) (c - 45)), some (.int .u64 ((bN bs 61 8 : Nat) : Int)), some (.int .u64 ((bN bs 69 8 : Nat) : Int)), some (.slice (cutA A c 77) (93 - 77) (c - 77)), some (.int .u16 ((bN bs 93 2 : Nat) : Int)), some (.slice none 0 0)], true⟩]) (fun b7 => [])) := by
  have hnc00 : n ≤ c := (hst.fact (j := 0) rfl).2.1
  refine enter (vs := [(.slice A n c), (.iface 199 (.pointer (some ⟨kb, 0, none⟩)))]) Tryz.func76 rfl rfl rfl hst ?_
  refine HT.seq ?_
  refine HT.plain ?_
  refine sq (St.closed _ _ _ _) (q_assign rfl) rfl ?_
  refine send ?_
  refine eseq ?_
  refine HT.seq ?_
  refine HT.plain ?_
  refine sq (St.closed _ _ _ _) (q_build (vs := []) (v := (.agg #[(.slice none 0 0), (.slice none 0 0), (.int .u8 ((0 : Nat) : Int)), (.int .u8 ((0 : Nat) : Int)), (.int .u8 ((0 : Nat) : Int)), (.int .u8 ((0 : Nat) : Int)), (.bool false), (.bool false), (.bool false), (.bool false), (.bool false), (.bool false), (.bool false), (.bool false), (.int .u16 ((0 : Nat) : Int)), (.int .u64 ((0 : Nat) : Int)), (.slice none 0 0), (.slice none 0 0), (.int .u64 ((0 : Nat) : Int)), (.int .u64 ((0 : Nat) : Int)), (.slice none 0 0), (.int .u16 ((0 : Nat) : Int)), (.slice none 0 0)])) rfl (fun _ => by kernel_rfl)) rfl ?_
  refine sl_ (l_box (by decide) rfl fun b7 => ?_)
  refine sq (St.closed _ _ _ _) (q_assign rfl) rfl ?_
  refine send ?_
  refine eseq ?_
  refine HT.norm [⟨kb, 201, [some .nilIface], true⟩, ⟨b7, 104, [some (.slice none 0 0), some (.slice none 0 0), some (.int .u8 ((0 : Nat) : Int)), some (.int .u8 ((0 : Nat) : Int)), some (.int .u8 ((0 : Nat) : Int)), some (.int .u8 ((0 : Nat) : Int)), some (.bool false), some (.bool false), some (.bool false), some (.bool false), some (.bool false), some (.bool false), some (.bool false), some (.bool false), some (.int .u16 ((0 : Nat) : Int)), some (.int .u64 ((0 : Nat) : Int)), some (.slice none 0 0), some (.slice none 0 0), some (.int .u64 ((0 : Nat) : Int)), some (.int .u64 ((0 : Nat) : Int)), some (.slice none 0 0), some (.int .u16 ((0 : Nat) : Int)), some (.slice none 0 0)], true⟩] [Byt A n c bs] rfl rfl ?_
  refine HT.seq ?_
  refine HT.plain ?_
  refine sq (St.closed _ _ _ _) (q_move rfl) rfl ?_
  refine sq (St.closed _ _ _ _) (q_iface rfl Tryz.underlying99 (fun _ h => nomatch h)) rfl ?_
  refine sq (St.closed _ _ _ _) (q_move rfl) rfl ?_
  refine sq (St.closed _ _ _ _) (q_move rfl) rfl ?_
  refine sl_ (l_callX0 (vs := [(.iface 99 (.pointer (some ⟨b7, 0, none⟩))), (.slice A n c), (.iface 199 (.pointer (some ⟨kb, 0, none⟩)))]) (Kc := [⟨b7, 104, [some (.slice none 0 0), some (.slice none 0 0), some (.int .u8 ((0 : Nat) : Int)), some (.int .u8 ((0 : Nat) : Int)), some (.int .u8 ((0 : Nat) : Int)), some (.int .u8 ((0 : Nat) : Int)), some (.bool false), some (.bool false), some (.bool false), some (.bool false), some (.bool false), some (.bool false), some (.bool false), some (.bool false), some (.int .u16 ((0 : Nat) : Int)), some (.int .u64 ((0 : Nat) : Int)), some (.slice none 0 0), some (.slice none 0 0), some (.int .u64 ((0 : Nat) : Int)), some (.int .u64 ((0 : Nat) : Int)), some (.slice none 0 0), some (.int .u16 ((0 : Nat) : Int)), some (.slice none 0 0)], true⟩, ⟨kb, 201, [some .nilIface], true⟩]) (Bc := [Byt A n c bs]) [1, 0] [0] [Byt A n c bs] ([⟨b7, 104, [some (.slice (cutA A c 0) (95 - 0) (c - 0)), some (.slice (cutA A c 95) (n - 95) (c - 95)), some (.int .u8 ((nb bs 0 : Nat) : Int)), some (.int .u8 (((bN bs 1 2) &&& 7 : Nat) : Int)), some (.int .u8 ((((bN bs 1 2) &&& 8) / 8 : Nat) : Int)), some (.int .u8 ((((bN bs 1 2) &&& 48) / 16 : Nat) : Int)), some (.bool (decide ((bN bs 1 2) &&& 64 ≠ 0))), some (.bool (decide ((bN bs 1 2) &&& 128 ≠ 0))), some (.bool (decide ((bN bs 1 2) &&& 256 ≠ 0))), some (.bool (decide ((bN bs 1 2) &&& 512 ≠ 0))), some (.bool (decide ((bN bs 1 2) &&& 1024 ≠ 0))), some (.bool (decide ((bN bs 1 2) &&& 2048 ≠ 0))), some (.bool false), some (.bool (decide ((bN bs 1 2) &&& 8192 ≠ 0))), some (.int .u16 ((bN bs 3 2 : Nat) : Int)), some (.int .u64 ((bN bs 5 8 : Nat) : Int)), some (.slice (cutA A c 13) (45 - 13) (c - 13)), some (.slice (cutA A c 45) (61 - 45) (c - 45)), some (.int .u64 ((bN bs 61 8 : Nat) : Int)), some (.int .u64 ((bN bs 69 8 : Nat) : Int)), some (.slice (cutA A c 77) (93 - 77) (c - 77)), some (.int .u16 ((bN bs 93 2 : Nat) : Int)), some (.slice none 0 0)], true⟩, ⟨kb, 201, [some (.iface 99 (.pointer (some ⟨b7, 0, none⟩)))], true⟩]) ([Byt A n c bs]) (by decide) rfl ca_96 (fun _ h => h) rfl rfl rfl rfl (fun w h => eapolkey_dd3 w A n c bs b7 kb (by omega) (by omega) (by omega) (by omega) h) rfl rfl rfl rfl fun hf1 he2 => ?_)
  refine sq (St.closed _ _ _ _) (q_assign rfl) rfl ?_
  refine send ?_
  refine eseq ?_
  refine HT.norm [⟨b7, 104, [some (.slice (cutA A c 0) (95 - 0) (c - 0)), some (.slice (cutA A c 95) (n - 95) (c - 95)), some (.int .u8 ((nb bs 0 : Nat) : Int)), some (.int .u8 (((bN bs 1 2) &&& 7 : Nat) : Int)), some (.int .u8 ((((bN bs 1 2) &&& 8) / 8 : Nat) : Int)), some (.int .u8 ((((bN bs 1 2) &&& 48) / 16 : Nat) : Int)), some (.bool (decide ((bN bs 1 2) &&& 64 ≠ 0))), some (.bool (decide ((bN bs 1 2) &&& 128 ≠ 0))), some (.bool (decide ((bN bs 1 2) &&& 256 ≠ 0))), some (.bool (decide ((bN bs 1 2) &&& 512 ≠ 0))), some (.bool (decide ((bN bs 1 2) &&& 1024 ≠ 0))), some (.bool (decide ((bN bs 1 2) &&& 2048 ≠ 0))), some (.bool false), some (.bool (decide ((bN bs 1 2) &&& 8192 ≠ 0))), some (.int .u16 ((bN bs 3 2 : Nat) : Int)), some (.int .u64 ((bN bs 5 8 : Nat) : Int)), some (.slice (cutA A c 13) (45 - 13) (c - 13)), some (.slice (cutA A c 45) (61 - 45) (c - 45)), some (.int .u64 ((bN bs 61 8 : Nat) : Int)), some (.int .u64 ((bN bs 69 8 : Nat) : Int)), some (.slice (cutA A c 77) (93 - 77) (c - 77)), some (.int .u16 ((bN bs 93 2 : Nat) : Int)), some (.slice none 0 0)], true⟩, ⟨kb, 201, [some (.iface 99 (.pointer (some ⟨b7, 0, none⟩)))], true⟩] [Byt A n c bs] rfl rfl ?_
  refine HT.ret ?_
  exact fun a ha w' hw => fin_ ha (res1 ha Tryz.results76 rfl) ⟨b7, rfl, (hw.wk [(1, []), (0, [])] rfl), fr0⟩

theorem eapolkey_z3 (w : World) (A : Option Addr) (n : Nat) (c : Nat) (bs : List UInt8) (hn : n ≤ 400) (ha : 95 ≤ n) (hb : bN bs 93 2 ≤ n - 95) (hc : bN bs 1 2 / 4096 % 2 = 0) (hst : St w [] [] [Byt A n c bs] w) : Calls Tryz.prog 58 #[(.string ⟨#[101, 97, 112, 111, 108, 107, 101, 121]⟩), (.slice A n c)] w (CP1 w [] [Byt A n c bs] (fun b7 => (.tuple #[(.iface 99 (.pointer (some ⟨b7, 0, none⟩))), .nilIface])) (fun b7 => [⟨b7, 104, [some (.slice (cutA A c 0) (95 - 0) (c - 0)), some (.slice (cutA A c 95) (n - 95) (c - 95)), some (.int .u8 ((nb bs 0 : Nat) : Int)), some (.int .u8 (((bN bs 1 2) &&& 7 : Nat) : Int)), some (.int .u8 ((((bN bs 1 2) &&& 8) / 8 : Nat) : Int)), some (.int .u8 ((((bN bs 1 2) &&& 48) / 16 : Nat) : Int)), some (.bool (decide ((bN bs 1 2) &&& 64 ≠ 0))), some (.bool (decide ((bN bs 1 2) &&& 128 ≠ 0))), some (.bool (decide ((bN bs 1 2) &&& 256 ≠ 0))), some (.bool (decide ((bN bs 1 2) &&& 512 ≠ 0))), some (.bool (decide ((bN bs 1 2) &&& 1024 ≠ 0))), some (.bool (decide ((bN bs 1 2) &&& 2048 ≠ 0))), some (.bool false), some (.bool (decide ((bN bs 1 2) &&& 8192 ≠ 0))), some (.int .u16 ((bN bs 3 2 : Nat) : Int)), some (.int .u64 ((bN bs 5 8 : Nat) : Int)), some (.slice (cutA A c 13) (45 - 13) (c - 13)), some (.slice (cutA A c 45) (61 - 45) (c - 45)), some (.int .u64 ((bN bs 61 8 : Nat) : Int)), some (.int .u64 ((bN bs 69 8 : Nat) : Int)), some (.slice (cutA A c 77) (93 - 77) (c - 77)), some (.int .u16 ((bN bs 93 2 : Nat) : Int)), some (.slice none 0 0)], true⟩]) (fun b7 => [])) := by
  have hnc00 : n ≤ c := (hst.fact (j := 0) rfl).2.1
  refine enter (vs := [(.string ⟨#[101, 97, 112, 111, 108, 107, 101, 121]⟩), (.slice A n c)]) Tryz.func58 rfl rfl rfl hst ?_
  refine HT.seq ?_
  refine HT.plain ?_
  refine sq (St.closed _ _ _ _) (q_assign rfl) rfl ?_
  refine sq (St.closed _ _ _ _) (q_assign rfl) rfl ?_
  refine send ?_
  refine eseq ?_
  refine HT.seq ?_
  refine HT.plain ?_
  refine sq (St.closed _ _ _ _) (q_build (vs := []) (v := (.agg #[.nilIface])) rfl (fun _ => by kernel_rfl)) rfl ?_
  refine sl_ (l_box (by decide) rfl fun b9 => ?_)
  refine sq (St.closed _ _ _ _) (q_assign rfl) rfl ?_
  refine send ?_
  refine eseq ?_
  refine HT.seq ?_
  refine HT.plain ?_
  refine sl_ (l_callX1 (vs := [(.string ⟨#[110, 111, 32, 107, 105, 110, 100]⟩)]) (Kc := []) (Bc := []) [] [] [Byt A n c bs] (fun b5 => [⟨b9, 201, [some .nilIface], true⟩, ⟨b5, 206, [some (.string (⟨#[110, 111, 32, 107, 105, 110, 100]⟩))], true⟩]) (fun b5 => [Byt A n c bs]) (by decide) rfl ca_67 (fun _ h => h) rfl rfl rfl rfl (fun w h => errNew w (⟨#[110, 111, 32, 107, 105, 110, 100]⟩)  h) (fun _ => rfl) (fun _ => rfl) (fun _ => rfl) (fun _ => rfl) fun b5 hf1 he2 => ?_)
  refine sq (St.closed _ _ _ _) (q_assign rfl) rfl ?_
  refine send ?_
  refine eseq ?_
  refine HT.seq ?_
  refine HT.seq ?_
  refine HT.plain ?_
  refine sq (St.closed _ _ _ _) (q_move rfl) rfl ?_
  refine send ?_
  refine eseq ?_
  refine HT.block ?_
  refine HT.seq ?_
  refine HT.plain ?_
  refine sq (St.closed _ _ _ _) (q_eqs rfl rfl (r := false) (by kernel_rfl)) rfl ?_
  refine sq (St.closed _ _ _ _) (q_assign rfl) rfl ?_
  refine send ?_
  refine eseq ?_
  refine HT.no rfl ?_
  refine HT.seq ?_
  refine HT.plain ?_
  refine sq (St.closed _ _ _ _) (q_eqs rfl rfl (r := false) (by kernel_rfl)) rfl ?_
  refine sq (St.closed _ _ _ _) (q_assign rfl) rfl ?_
  refine send ?_
  refine eseq ?_
  refine HT.no rfl ?_
  refine HT.seq ?_
  refine HT.plain ?_
  refine sq (St.closed _ _ _ _) (q_eqs rfl rfl (r := false) (by kernel_rfl)) rfl ?_
  refine sq (St.closed _ _ _ _) (q_assign rfl) rfl ?_
  refine send ?_
  refine eseq ?_
  refine HT.no rfl ?_
  refine HT.seq ?_
  refine HT.plain ?_
  refine sq (St.closed _ _ _ _) (q_eqs rfl rfl (r := false) (by kernel_rfl)) rfl ?_
  refine sq (St.closed _ _ _ _) (q_assign rfl) rfl ?_
  refine send ?_
  refine eseq ?_
  refine HT.no rfl ?_
  refine HT.seq ?_
  refine HT.plain ?_
  refine sq (St.closed _ _ _ _) (q_eqs rfl rfl (r := false) (by kernel_rfl)) rfl ?_
  refine sq (St.closed _ _ _ _) (q_assign rfl) rfl ?_
  refine send ?_
  refine eseq ?_
  refine HT.no rfl ?_
  refine HT.seq ?_
  refine HT.plain ?_
  refine sq (St.closed _ _ _ _) (q_eqs rfl rfl (r := false) (by kernel_rfl)) rfl ?_
  refine sq (St.closed _ _ _ _) (q_assign rfl) rfl ?_
  refine send ?_
  refine eseq ?_
  refine HT.no rfl ?_
  refine HT.seq ?_
  refine HT.plain ?_
  refine sq (St.closed _ _ _ _) (q_eqs rfl rfl (r := false) (by kernel_rfl)) rfl ?_
  refine sq (St.closed _ _ _ _) (q_assign rfl) rfl ?_
  refine send ?_
  refine eseq ?_
  refine HT.no rfl ?_
  refine HT.seq ?_
  refine HT.plain ?_
  refine sq (St.closed _ _ _ _) (q_eqs rfl rfl (r := false) (by kernel_rfl)) rfl ?_
  refine sq (St.closed _ _ _ _) (q_assign rfl) rfl ?_
  refine send ?_
  refine eseq ?_
  refine HT.no rfl ?_
  refine HT.seq ?_
  refine HT.plain ?_
  refine sq (St.closed _ _ _ _) (q_eqs rfl rfl (r := true) (by kernel_rfl)) rfl ?_
  refine sq (St.closed _ _ _ _) (q_assign rfl) rfl ?_
  refine send ?_
  refine eseq ?_
  refine HT.yes rfl ?_
  refine HT.plain ?_
  refine sq (St.closed _ _ _ _) (q_move rfl) rfl ?_
  refine sq (St.closed _ _ _ _) (q_move rfl) rfl ?_
  refine sq (St.closed _ _ _ _) (q_iface rfl Tryz.underlying199 (fun _ h => nomatch h)) rfl ?_
  refine sl_ (l_callX1 (vs := [(.slice A n c), (.iface 199 (.pointer (some ⟨b9, 0, none⟩)))]) (Kc := [⟨b9, 201, [some .nilIface], true⟩]) (Bc := [Byt A n c bs]) [0] [0] [Byt A n c bs] (fun b7 => [⟨b5, 206, [some (.string (⟨#[110, 111, 32, 107, 105, 110, 100]⟩))], true⟩, ⟨b9, 201, [some (.iface 99 (.pointer (some ⟨b7, 0, none⟩)))], true⟩, ⟨b7, 104, [some (.slice (cutA A c 0) (95 - 0) (c - 0)), some (.slice (cutA A c 95) (n - 95) (c - 95)), some (.int .u8 ((nb bs 0 : Nat) : Int)), some (.int .u8 (((bN bs 1 2) &&& 7 : Nat) : Int)), some (.int .u8 ((((bN bs 1 2) &&& 8) / 8 : Nat) : Int)), some (.int .u8 ((((bN bs 1 2) &&& 48) / 16 : Nat) : Int)), some (.bool (decide ((bN bs 1 2) &&& 64 ≠ 0))), some (.bool (decide ((bN bs 1 2) &&& 128 ≠ 0))), some (.bool (decide ((bN bs 1 2) &&& 256 ≠ 0))), some (.bool (decide ((bN bs 1 2) &&& 512 ≠ 0))), some (.bool (decide ((bN bs 1 2) &&& 1024 ≠ 0))), some (.bool (decide ((bN bs 1 2) &&& 2048 ≠ 0))), some (.bool false), some (.bool (decide ((bN bs 1 2) &&& 8192 ≠ 0))), some (.int .u16 ((bN bs 3 2 : Nat) : Int)), some (.int .u64 ((bN bs 5 8 : Nat) : Int)), some (.slice (cutA A c 13) (45 - 13) (c - 13)), some (.slice (cutA A c 45) (61 - 45) (c - 45)), some (.int .u64 ((bN bs 61 8 : Nat) : Int)), some (.int .u64 ((bN bs 69 8 : Nat) : Int)), some (.slice (cutA A c 77) (93 - 77) (c - 77)), some (.int .u16 ((bN bs 93 2 : Nat) : Int)), some (.slice none 0 0)], true⟩]) (fun b7 => [Byt A n c bs]) (by decide) rfl ca_76 (fun _ h => h) rfl rfl rfl rfl (fun w h => eapolkey_d3 w A n c bs b9 (by omega) (by omega) (by omega) (by omega) h) (fun _ => rfl) (fun _ => rfl) (fun _ => rfl) (fun _ => rfl) fun b7 hf3 he4 => ?_)
  refine sq (St.closed _ _ _ _) (q_assign rfl) rfl ?_
  refine send ?_
  refine ein ?_
  refine eseq ?_
  refine HT.seq ?_
  refine HT.seq ?_
  refine HT.plain ?_
  refine sq (St.closed _ _ _ _) (q_move rfl) rfl ?_
  refine sq (St.closed _ _ _ _) (q_notNil rfl rfl Tryz.underlying59) rfl ?_
  refine send ?_
  refine eseq ?_
  refine HT.no rfl ?_
  refine HT.skip ?_
  refine eseq ?_
  refine HT.seq ?_
  refine HT.plain ?_
  refine sq (St.closed _ _ _ _) (q_move rfl) rfl ?_
  refine sq (St.closed _ _ _ _) (q_nil rfl) rfl ?_
  refine sq (St.closed _ _ _ _) (q_field (b := b9) (off := 0) rfl fo_201_0) rfl ?_
  refine sq (St.closed _ _ _ _) (q_load (b := b9) (off := 0) (j := 1) rfl nagg_43 (fun _ h => h) rfl rfl rfl) rfl ?_
  refine sq (St.closed _ _ _ _) (q_assign rfl) rfl ?_
  refine sq (St.closed _ _ _ _) (q_assign rfl) rfl ?_
  refine send ?_
  refine eseq ?_
  refine HT.ret ?_
  exact fun a ha w' hw => fin_ ha (res2 ha Tryz.results58 rfl rfl) ⟨b7, rfl, (hw.wk [(2, [])] rfl), fr0⟩

theorem eapolkey_e3 (w : World) (A : Option Addr) (n : Nat) (c : Nat) (bs : List UInt8) (hn : n ≤ 400) (ha : 95 ≤ n) (hb : bN bs 93 2 ≤ n - 95) (hc : bN bs 1 2 / 4096 % 2 = 0) (hst : St w [] [] [Byt A n c bs] w) : Calls Tryz.prog 46 #[(.string ⟨#[101, 97, 112, 111, 108, 107, 101, 121]⟩), (.slice A n c)] w (CP3 w [] [Byt A n c bs] (fun b7 A5 c5 => (.tuple #[(.iface 99 (.pointer (some ⟨b7, 0, none⟩))), (.bool true)])) (fun b7 A5 c5 => [⟨b7, 104, [some (.slice (cutA A5 c5 0) (95 - 0) (c5 - 0)), some (.slice (cutA A5 c5 95) (n - 95) (c5 - 95)), some (.int .u8 ((nb bs 0 : Nat) : Int)), some (.int .u8 (((bN bs 1 2) &&& 7 : Nat) : Int)), some (.int .u8 ((((bN bs 1 2) &&& 8) / 8 : Nat) : Int)), some (.int .u8 ((((bN bs 1 2) &&& 48) / 16 : Nat) : Int)), some (.bool (decide ((bN bs 1 2) &&& 64 ≠ 0))), some (.bool (decide ((bN bs 1 2) &&& 128 ≠ 0))), some (.bool (decide ((bN bs 1 2) &&& 256 ≠ 0))), some (.bool (decide ((bN bs 1 2) &&& 512 ≠ 0))), some (.bool (decide ((bN bs 1 2) &&& 1024 ≠ 0))), some (.bool (decide ((bN bs 1 2) &&& 2048 ≠ 0))), some (.bool false), some (.bool (decide ((bN bs 1 2) &&& 8192 ≠ 0))), some (.int .u16 ((bN bs 3 2 : Nat) : Int)), some (.int .u64 ((bN bs 5 8 : Nat) : Int)), some (.slice (cutA A5 c5 13) (45 - 13) (c5 - 13)), some (.slice (cutA A5 c5 45) (61 - 45) (c5 - 45)), some (.int .u64 ((bN bs 61 8 : Nat) : Int)), some (.int .u64 ((bN bs 69 8 : Nat) : Int)), some (.slice (cutA A5 c5 77) (93 - 77) (c5 - 77)), some (.int .u16 ((bN bs 93 2 : Nat) : Int)), some (.slice none 0 0)], true⟩]) (fun b7 A5 c5 => [Byt A5 n c5 bs])) := by
  have hnc00 : n ≤ c := (hst.fact (j := 0) rfl).2.1
  refine enter (vs := [(.string ⟨#[101, 97, 112, 111, 108, 107, 101, 121]⟩), (.slice A n c)]) Tryz.func46 rfl rfl rfl hst ?_
  refine HT.seq ?_
  refine HT.plain ?_
  refine sq (St.closed _ _ _ _) (q_assign rfl) rfl ?_
  refine sq (St.closed _ _ _ _) (q_assign rfl) rfl ?_
  refine send ?_
  refine eseq ?_
  refine HT.seq ?_
  refine HT.seq ?_
  refine HT.plain ?_
  refine sq (St.closed _ _ _ _) (q_move rfl) rfl ?_
  refine sq (St.closed _ _ _ _) (q_len (len := n) rfl Tryz.underlying22) rfl ?_
  refine sq (St.closed _ _ _ _) (q_F (q_gt (p := n) (q := 2000) rfl rfl) (by omega)) rfl ?_
  refine send ?_
  refine eseq ?_
  refine HT.no rfl ?_
  refine HT.skip ?_
  refine eseq ?_
  refine HT.seq ?_
  refine HT.plain ?_
  refine sq (St.closed _ _ _ _) (q_move rfl) rfl ?_
  refine sq (St.closed _ _ _ _) (q_assign rfl) rfl ?_
  refine send ?_
  refine eseq ?_
  refine HT.seq ?_
  refine HT.seq ?_
  refine HT.plain ?_
  refine sq (St.closed _ _ _ _) (q_move rfl) rfl ?_
  refine sq (St.closed _ _ _ _) (q_eqs rfl rfl (r := false) (by kernel_rfl)) rfl ?_
  refine sq (St.closed _ _ _ _) (q_move rfl) rfl ?_
  refine sgq (St.closed _ _ _ _) rfl (q_move rfl) rfl ?_
  refine sgq (St.closed _ _ _ _) rfl (q_eqs rfl rfl (r := false) (by kernel_rfl)) rfl ?_
  refine sq (St.closed _ _ _ _) (q_pick rfl (fun h => nomatch h) (fun _ => rfl)) rfl ?_
  refine send ?_
  refine eseq ?_
  refine HT.no rfl ?_
  refine HT.seq ?_
  refine HT.plain ?_
  refine sq (St.closed _ _ _ _) (q_move rfl) rfl ?_
  refine sq (St.closed _ _ _ _) (q_eqs rfl rfl (r := false) (by kernel_rfl)) rfl ?_
  refine send ?_
  refine eseq ?_
  refine HT.no rfl ?_
  refine HT.skip ?_
  refine eseq ?_
  refine HT.seq ?_
  refine HT.seq ?_
  refine HT.plain ?_
  refine sq (St.closed _ _ _ _) (q_move rfl) rfl ?_
  refine sq (St.closed _ _ _ _) (q_move rfl) rfl ?_
  refine sq (St.closed _ _ _ _) (q_call (vs := [(.string ⟨#[101, 97, 112, 111, 108, 107, 101, 121]⟩), (.slice A n c)]) (v := (.bool true)) rfl ca_57 (fun w h => eapolkey_c3 w A n c bs (by omega) (by omega) (by omega) (by omega) (St.enter (sp := []) (Kc := []) (bi := [0]) h rfl rfl rfl))) rfl ?_
  refine sq (St.closed _ _ _ _) (q_not rfl) rfl ?_
  refine send ?_
  refine eseq ?_
  refine HT.no rfl ?_
  refine HT.skip ?_
  refine eseq ?_
  refine HT.seq ?_
  refine HT.plain ?_
  refine sq (St.closed _ _ _ _) (q_move rfl) rfl ?_
  refine sq (St.closed _ _ _ _) (q_move rfl) rfl ?_
  refine sl_ (l_callX2 (vs := [(.slice A n c)]) (Kc := []) (Bc := [Byt A n c bs]) [] [0] [Byt A n c bs] (fun A5 c5 => []) (fun A5 c5 => [Byt A n c bs, Byt A5 n c5 bs]) (by decide) rfl ca_59 (fun _ h => h) rfl rfl rfl rfl (fun w h => Clone w A n c bs (by omega) h) (fun _ _ => rfl) (fun _ _ => rfl) (fun _ _ => rfl) (fun _ _ => rfl) fun A5 c5 hf1 he2 => ?_)
  have hnc3 : n ≤ c5 := by obtain ⟨w, h⟩ := he2; exact (h _ List.mem_cons_self).2.1
  refine sl_ (l_callX1 (vs := [(.string ⟨#[101, 97, 112, 111, 108, 107, 101, 121]⟩), (.slice A5 n c5)]) (Kc := []) (Bc := [Byt A5 n c5 bs]) [] [1] [Byt A n c bs, Byt A5 n c5 bs] (fun b7 => [⟨b7, 104, [some (.slice (cutA A5 c5 0) (95 - 0) (c5 - 0)), some (.slice (cutA A5 c5 95) (n - 95) (c5 - 95)), some (.int .u8 ((nb bs 0 : Nat) : Int)), some (.int .u8 (((bN bs 1 2) &&& 7 : Nat) : Int)), some (.int .u8 ((((bN bs 1 2) &&& 8) / 8 : Nat) : Int)), some (.int .u8 ((((bN bs 1 2) &&& 48) / 16 : Nat) : Int)), some (.bool (decide ((bN bs 1 2) &&& 64 ≠ 0))), some (.bool (decide ((bN bs 1 2) &&& 128 ≠ 0))), some (.bool (decide ((bN bs 1 2) &&& 256 ≠ 0))), some (.bool (decide ((bN bs 1 2) &&& 512 ≠ 0))), some (.bool (decide ((bN bs 1 2) &&& 1024 ≠ 0))), some (.bool (decide ((bN bs 1 2) &&& 2048 ≠ 0))), some (.bool false), some (.bool (decide ((bN bs 1 2) &&& 8192 ≠ 0))), some (.int .u16 ((bN bs 3 2 : Nat) : Int)), some (.int .u64 ((bN bs 5 8 : Nat) : Int)), some (.slice (cutA A5 c5 13) (45 - 13) (c5 - 13)), some (.slice (cutA A5 c5 45) (61 - 45) (c5 - 45)), some (.int .u64 ((bN bs 61 8 : Nat) : Int)), some (.int .u64 ((bN bs 69 8 : Nat) : Int)), some (.slice (cutA A5 c5 77) (93 - 77) (c5 - 77)), some (.int .u16 ((bN bs 93 2 : Nat) : Int)), some (.slice none 0 0)], true⟩]) (fun b7 => [Byt A n c bs, Byt A5 n c5 bs]) (by decide) rfl ca_58 (fun _ h => h) rfl rfl rfl rfl (fun w h => eapolkey_z3 w A5 n c5 bs (by omega) (by omega) (by omega) (by omega) h) (fun _ => rfl) (fun _ => rfl) (fun _ => rfl) (fun _ => rfl) fun b7 hf4 he5 => ?_)
  refine sq (St.closed _ _ _ _) (q_move rfl) rfl ?_
  refine sq (St.closed _ _ _ _) (q_extract (vs := [(.iface 99 (.pointer (some ⟨b7, 0, none⟩))), .nilIface]) (i := 0) rfl rfl) rfl ?_
  refine sq (St.closed _ _ _ _) (q_extract (vs := [(.iface 99 (.pointer (some ⟨b7, 0, none⟩))), .nilIface]) (i := 1) rfl rfl) rfl ?_
  refine sq (St.closed _ _ _ _) (q_assign rfl) rfl ?_
  refine sq (St.closed _ _ _ _) (q_assign rfl) rfl ?_
  refine send ?_
  refine eseq ?_
  refine HT.seq ?_
  refine HT.seq ?_
  refine HT.plain ?_
  refine sq (St.closed _ _ _ _) (q_move rfl) rfl ?_
  refine sq (St.closed _ _ _ _) (q_notNil rfl rfl Tryz.underlying59) rfl ?_
  refine sq (St.closed _ _ _ _) (q_move rfl) rfl ?_
  refine sgq (St.closed _ _ _ _) rfl (q_move rfl) rfl ?_
  refine sgq (St.closed _ _ _ _) rfl (q_isNil' rfl rfl Tryz.underlying43) rfl ?_
  refine sq (St.closed _ _ _ _) (q_pick rfl (fun h => nomatch h) (fun _ => rfl)) rfl ?_
  refine send ?_
  refine eseq ?_
  refine HT.no rfl ?_
  refine HT.skip ?_
  refine eseq ?_
  refine HT.seq ?_
  refine HT.seq ?_
  refine HT.plain ?_
  refine sq (St.closed _ _ _ _) (q_move rfl) rfl ?_
  refine sq (St.closed _ _ _ _) (q_isnt (T := 99) (z := (.pointer none)) rfl Tryz.underlying63 (fun _ h => nomatch h) (by decide) zero_63) rfl ?_
  refine sq (St.closed _ _ _ _) (q_move rfl) rfl ?_
  refine sq (St.closed _ _ _ _) (q_extract (vs := [(.pointer none), (.bool false)]) (i := 0) rfl rfl) rfl ?_
  refine sq (St.closed _ _ _ _) (q_extract (vs := [(.pointer none), (.bool false)]) (i := 1) rfl rfl) rfl ?_
  refine sq (St.closed _ _ _ _) (q_assign rfl) rfl ?_
  refine sq (St.closed _ _ _ _) (q_assign rfl) rfl ?_
  refine send ?_
  refine eseq ?_
  refine HT.seq ?_
  refine HT.plain ?_
  refine sq (St.closed _ _ _ _) (q_move rfl) rfl ?_
  refine sq (St.closed _ _ _ _) (q_move rfl) rfl ?_
  refine sq (St.closed _ _ _ _) (q_eqs rfl rfl (r := false) (by kernel_rfl)) rfl ?_
  refine sq (St.closed _ _ _ _) (q_neb rfl rfl Tryz.underlying4) rfl ?_
  refine sq (St.closed _ _ _ _) (q_move rfl) rfl ?_
  refine sskip rfl rfl ?_
  refine sskip rfl rfl ?_
  refine sq (St.closed _ _ _ _) (q_pick rfl (fun h => nomatch h) (fun _ => rfl)) rfl ?_
  refine send ?_
  refine eseq ?_
  refine HT.no rfl ?_
  refine HT.skip ?_
  refine eseq ?_
  refine HT.seq ?_
  refine HT.plain ?_
  refine sq (St.closed _ _ _ _) (q_move rfl) rfl ?_
  refine sq (St.closed _ _ _ _) (q_assign rfl) rfl ?_
  refine sq (St.closed _ _ _ _) (q_assign rfl) rfl ?_
  refine send ?_
  refine eseq ?_
  refine HT.ret ?_
  exact fun a ha w' hw => fin_ ha (res2 ha Tryz.results46 rfl rfl) ⟨b7, A5, c5, rfl, hw, (fr1 (hf1 _ List.mem_cons_self) fr0)⟩

theorem eapolkey_t3 (w : World) (A5 : Option Addr) (n : Nat) (c5 : Nat) (bs : List UInt8) (b7 : Nat) (hn : n ≤ 400) (ha : 95 ≤ n) (hb : bN bs 93 2 ≤ n - 95) (hc : bN bs 1 2 / 4096 % 2 = 0) (hst : St w [] [⟨b7, 104, [some (.slice (cutA A5 c5 0) (95 - 0) (c5 - 0)), some (.slice (cutA A5 c5 95) (n - 95) (c5 - 95)), some (.int .u8 ((nb bs 0 : Nat) : Int)), some (.int .u8 (((bN bs 1 2) &&& 7 : Nat) : Int)), some (.int .u8 ((((bN bs 1 2) &&& 8) / 8 : Nat) : Int)), some (.int .u8 ((((bN bs 1 2) &&& 48) / 16 : Nat) : Int)), some (.bool (decide ((bN bs 1 2) &&& 64 ≠ 0))), some (.bool (decide ((bN bs 1 2) &&& 128 ≠ 0))), some (.bool (decide ((bN bs 1 2) &&& 256 ≠ 0))), some (.bool (decide ((bN bs 1 2) &&& 512 ≠ 0))), some (.bool (decide ((bN bs 1 2) &&& 1024 ≠ 0))), some (.bool (decide ((bN bs 1 2) &&& 2048 ≠ 0))), some (.bool false), some (.bool (decide ((bN bs 1 2) &&& 8192 ≠ 0))), some (.int .u16 ((bN bs 3 2 : Nat) : Int)), some (.int .u64 ((bN bs 5 8 : Nat) : Int)), some (.slice (cutA A5 c5 13) (45 - 13) (c5 - 13)), some (.slice (cutA A5 c5 45) (61 - 45) (c5 - 45)), some (.int .u64 ((bN bs 61 8 : Nat) : Int)), some (.int .u64 ((bN bs 69 8 : Nat) : Int)), some (.slice (cutA A5 c5 77) (93 - 77) (c5 - 77)), some (.int .u16 ((bN bs 93 2 : Nat) : Int)), some (.slice none 0 0)], false⟩] [Byt A5 n c5 bs] w) : Calls Tryz.prog 47 #[(.iface 99 (.pointer (some ⟨b7, 0, none⟩))), (.slice (cutA A5 c5 95) (n - 95) (c5 - 95))] w (IP w (Byt A5 n c5 bs) (some (some ⟨[nb bs 0, (bN bs 1 2) &&& 7, ((bN bs 1 2) / 8) &&& 1, ((bN bs 1 2) / 16) &&& 3, ((bN bs 1 2) / 64) &&& 1, ((bN bs 1 2) / 128) &&& 1, ((bN bs 1 2) / 256) &&& 1, ((bN bs 1 2) / 512) &&& 1, ((bN bs 1 2) / 1024) &&& 1, ((bN bs 1 2) / 2048) &&& 1, ((bN bs 1 2) / 4096) &&& 1, ((bN bs 1 2) / 8192) &&& 1, bN bs 3 2, bN bs 5 8, bN bs 61 8, bN bs 69 8, bN bs 93 2], [sl bs 13 45, sl bs 45 61, sl bs 77 93, []], [], sl bs 95 n⟩))) := by
  have hnc00 : n ≤ c5 := (hst.fact (j := 0) rfl).2.1
  refine enter (vs := [(.iface 99 (.pointer (some ⟨b7, 0, none⟩))), (.slice (cutA A5 c5 95) (n - 95) (c5 - 95))]) Tryz.func47 rfl rfl rfl hst ?_
  refine HT.seq ?_
  refine HT.plain ?_
  refine sl_ (l_alloc (by decide) zero_29 fun b4 => ?_)
  refine sq (St.closed _ _ _ _) (q_assign rfl) rfl ?_
  refine send ?_
  refine eseq ?_
  refine HT.seq ?_
  refine HT.plain ?_
  refine sq (St.closed _ _ _ _) (q_move rfl) rfl ?_
  refine sl_ (l_callX2 (vs := [(.slice (cutA A5 c5 95) (n - 95) (c5 - 95))]) (Kc := []) (Bc := [Byt (cutA A5 c5 95) (n - 95) (c5 - 95) (sl bs 95 n)]) [] [1] [Byt A5 n c5 bs, Byt (cutA A5 c5 95) (n - 95) (c5 - 95) (sl bs 95 n)] (fun A5_1 c5_1 => [⟨b7, 104, [some (.slice (cutA A5 c5 0) (95 - 0) (c5 - 0)), some (.slice (cutA A5 c5 95) (n - 95) (c5 - 95)), some (.int .u8 ((nb bs 0 : Nat) : Int)), some (.int .u8 (((bN bs 1 2) &&& 7 : Nat) : Int)), some (.int .u8 ((((bN bs 1 2) &&& 8) / 8 : Nat) : Int)), some (.int .u8 ((((bN bs 1 2) &&& 48) / 16 : Nat) : Int)), some (.bool (decide ((bN bs 1 2) &&& 64 ≠ 0))), some (.bool (decide ((bN bs 1 2) &&& 128 ≠ 0))), some (.bool (decide ((bN bs 1 2) &&& 256 ≠ 0))), some (.bool (decide ((bN bs 1 2) &&& 512 ≠ 0))), some (.bool (decide ((bN bs 1 2) &&& 1024 ≠ 0))), some (.bool (decide ((bN bs 1 2) &&& 2048 ≠ 0))), some (.bool false), some (.bool (decide ((bN bs 1 2) &&& 8192 ≠ 0))), some (.int .u16 ((bN bs 3 2 : Nat) : Int)), some (.int .u64 ((bN bs 5 8 : Nat) : Int)), some (.slice (cutA A5 c5 13) (45 - 13) (c5 - 13)), some (.slice (cutA A5 c5 45) (61 - 45) (c5 - 45)), some (.int .u64 ((bN bs 61 8 : Nat) : Int)), some (.int .u64 ((bN bs 69 8 : Nat) : Int)), some (.slice (cutA A5 c5 77) (93 - 77) (c5 - 77)), some (.int .u16 ((bN bs 93 2 : Nat) : Int)), some (.slice none 0 0)], false⟩, ⟨b4, 29, [some (.slice none 0 0), some (.slice none 0 0), some (.slice none 0 0), some (.slice none 0 0)], true⟩]) (fun A5_1 c5_1 => [Byt A5 n c5 bs, Byt A5_1 (n - 95) c5_1 (sl bs 95 n)]) (by decide) rfl ca_60 (fun _ h => (h.cut (j := 0) (lo := 95) (hi := n) rfl (by omega) (by omega))) rfl rfl rfl rfl (fun w h => clone w (cutA A5 c5 95) (n - 95) (c5 - 95) (sl bs 95 n) (by omega) h) (fun _ _ => rfl) (fun _ _ => rfl) (fun _ _ => rfl) (fun _ _ => rfl) fun A5_1 c5_1 hf1 he2 => ?_)
  have hnc3 : (n - 95) ≤ c5_1 := by obtain ⟨w, h⟩ := he2; exact (h _ List.mem_cons_self).2.1
  refine sq (St.closed _ _ _ _) (q_build (vs := [(3, (.slice A5_1 (n - 95) c5_1))]) (v := (.agg #[(.slice none 0 0), (.slice none 0 0), (.slice none 0 0), (.slice A5_1 (n - 95) c5_1)])) rfl (fun _ => by kernel_rfl)) rfl ?_
  refine sl_ (l_box (by decide) rfl fun b50 => ?_)
  refine sq (St.closed _ _ _ _) (q_assign rfl) rfl ?_
  refine send ?_
  refine eseq ?_
  refine HT.seq ?_
  refine HT.seq ?_
  refine HT.plain ?_
  refine sq (St.closed _ _ _ _) (q_move rfl) rfl ?_
  refine send ?_
  refine eseq ?_
  refine HT.block ?_
  refine HT.seq ?_
  refine HT.plain ?_
  refine sq (St.closed _ _ _ _) (q_isnt (T := 99) (z := (.pointer none)) rfl Tryz.underlying66 (fun _ h => nomatch h) (by decide) zero_66) rfl ?_
  refine sq (St.closed _ _ _ _) (q_extract (vs := [(.pointer none), (.bool false)]) (i := 1) rfl rfl) rfl ?_
  refine sq (St.closed _ _ _ _) (q_extract (vs := [(.pointer none), (.bool false)]) (i := 0) rfl rfl) rfl ?_
  refine send ?_
  refine eseq ?_
  refine HT.no rfl ?_
  refine HT.seq ?_
  refine HT.plain ?_
  refine sq (St.closed _ _ _ _) (q_isnt (T := 99) (z := (.pointer none)) rfl Tryz.underlying73 (fun _ h => nomatch h) (by decide) zero_73) rfl ?_
  refine sq (St.closed _ _ _ _) (q_extract (vs := [(.pointer none), (.bool false)]) (i := 1) rfl rfl) rfl ?_
  refine sq (St.closed _ _ _ _) (q_extract (vs := [(.pointer none), (.bool false)]) (i := 0) rfl rfl) rfl ?_
  refine send ?_
  refine eseq ?_
  refine HT.no rfl ?_
  refine HT.seq ?_
  refine HT.plain ?_
  refine sq (St.closed _ _ _ _) (q_isnt (T := 99) (z := (.pointer none)) rfl Tryz.underlying78 (fun _ h => nomatch h) (by decide) zero_78) rfl ?_
  refine sq (St.closed _ _ _ _) (q_extract (vs := [(.pointer none), (.bool false)]) (i := 1) rfl rfl) rfl ?_
  refine sq (St.closed _ _ _ _) (q_extract (vs := [(.pointer none), (.bool false)]) (i := 0) rfl rfl) rfl ?_
  refine send ?_
  refine eseq ?_
  refine HT.no rfl ?_
  refine HT.seq ?_
  refine HT.plain ?_
  refine sq (St.closed _ _ _ _) (q_isnt (T := 99) (z := (.pointer none)) rfl Tryz.underlying81 (fun _ h => nomatch h) (by decide) zero_81) rfl ?_
  refine sq (St.closed _ _ _ _) (q_extract (vs := [(.pointer none), (.bool false)]) (i := 1) rfl rfl) rfl ?_
  refine sq (St.closed _ _ _ _) (q_extract (vs := [(.pointer none), (.bool false)]) (i := 0) rfl rfl) rfl ?_
  refine send ?_
  refine eseq ?_
  refine HT.no rfl ?_
  refine HT.seq ?_
  refine HT.plain ?_
  refine sq (St.closed _ _ _ _) (q_isnt (T := 99) (z := (.pointer none)) rfl Tryz.underlying85 (fun _ h => nomatch h) (by decide) zero_85) rfl ?_
  refine sq (St.closed _ _ _ _) (q_extract (vs := [(.pointer none), (.bool false)]) (i := 1) rfl rfl) rfl ?_
  refine sq (St.closed _ _ _ _) (q_extract (vs := [(.pointer none), (.bool false)]) (i := 0) rfl rfl) rfl ?_
  refine send ?_
  refine eseq ?_
  refine HT.no rfl ?_
  refine HT.seq ?_
  refine HT.plain ?_
  refine sq (St.closed _ _ _ _) (q_isnt (T := 99) (z := (.pointer none)) rfl Tryz.underlying89 (fun _ h => nomatch h) (by decide) zero_89) rfl ?_
  refine sq (St.closed _ _ _ _) (q_extract (vs := [(.pointer none), (.bool false)]) (i := 1) rfl rfl) rfl ?_
  refine sq (St.closed _ _ _ _) (q_extract (vs := [(.pointer none), (.bool false)]) (i := 0) rfl rfl) rfl ?_
  refine send ?_
  refine eseq ?_
  refine HT.no rfl ?_
  refine HT.seq ?_
  refine HT.plain ?_
  refine sq (St.closed _ _ _ _) (q_isnt (T := 99) (z := (.pointer none)) rfl Tryz.underlying94 (fun _ h => nomatch h) (by decide) zero_94) rfl ?_
  refine sq (St.closed _ _ _ _) (q_extract (vs := [(.pointer none), (.bool false)]) (i := 1) rfl rfl) rfl ?_
  refine sq (St.closed _ _ _ _) (q_extract (vs := [(.pointer none), (.bool false)]) (i := 0) rfl rfl) rfl ?_
  refine send ?_
  refine eseq ?_
  refine HT.no rfl ?_
  refine HT.seq ?_
  refine HT.plain ?_
  refine sq (St.closed _ _ _ _) (q_isnt (T := 99) (z := (.pointer none)) rfl Tryz.underlying95 (fun _ h => nomatch h) (by decide) zero_95) rfl ?_
  refine sq (St.closed _ _ _ _) (q_extract (vs := [(.pointer none), (.bool false)]) (i := 1) rfl rfl) rfl ?_
  refine sq (St.closed _ _ _ _) (q_extract (vs := [(.pointer none), (.bool false)]) (i := 0) rfl rfl) rfl ?_
  refine send ?_
  refine eseq ?_
  refine HT.no rfl ?_
  refine HT.seq ?_
  refine HT.plain ?_
  refine sq (St.closed _ _ _ _) (q_is rfl Tryz.underlying99 (fun _ h => nomatch h)) rfl ?_
  refine sq (St.closed _ _ _ _) (q_extract (vs := [(.pointer (some ⟨b7, 0, none⟩)), (.bool true)]) (i := 1) rfl rfl) rfl ?_
  refine sq (St.closed _ _ _ _) (q_extract (vs := [(.pointer (some ⟨b7, 0, none⟩)), (.bool true)]) (i := 0) rfl rfl) rfl ?_
  refine send ?_
  refine eseq ?_
  refine HT.yes rfl ?_
  refine HT.seq ?_
  refine HT.plain ?_
  refine sq (St.closed _ _ _ _) (q_assign rfl) rfl ?_
  refine send ?_
  refine eseq ?_
  refine HT.seq ?_
  refine HT.drawn mixed (St.closed _ _ _ _) (St w [] [⟨b7, 104, [some (.slice (cutA A5 c5 0) (95 - 0) (c5 - 0)), some (.slice (cutA A5 c5 95) (n - 95) (c5 - 95)), some (.int .u8 ((nb bs 0 : Nat) : Int)), some (.int .u8 (((bN bs 1 2) &&& 7 : Nat) : Int)), some (.int .u8 ((((bN bs 1 2) &&& 8) / 8 : Nat) : Int)), some (.int .u8 ((((bN bs 1 2) &&& 48) / 16 : Nat) : Int)), some (.bool (decide ((bN bs 1 2) &&& 64 ≠ 0))), some (.bool (decide ((bN bs 1 2) &&& 128 ≠ 0))), some (.bool (decide ((bN bs 1 2) &&& 256 ≠ 0))), some (.bool (decide ((bN bs 1 2) &&& 512 ≠ 0))), some (.bool (decide ((bN bs 1 2) &&& 1024 ≠ 0))), some (.bool (decide ((bN bs 1 2) &&& 2048 ≠ 0))), some (.bool false), some (.bool (decide ((bN bs 1 2) &&& 8192 ≠ 0))), some (.int .u16 ((bN bs 3 2 : Nat) : Int)), some (.int .u64 ((bN bs 5 8 : Nat) : Int)), some (.slice (cutA A5 c5 13) (45 - 13) (c5 - 13)), some (.slice (cutA A5 c5 45) (61 - 45) (c5 - 45)), some (.int .u64 ((bN bs 61 8 : Nat) : Int)), some (.int .u64 ((bN bs 69 8 : Nat) : Int)), some (.slice (cutA A5 c5 77) (93 - 77) (c5 - 77)), some (.int .u16 ((bN bs 93 2 : Nat) : Int)), some (.slice none 0 0)], false⟩, ⟨b4, 29, [some (.slice none 0 0), some (.slice none 0 0), some (.slice none 0 0), some (.slice none 0 0)], true⟩, ⟨b50, 29, [none, some (.slice none 0 0), some (.slice none 0 0), some (.slice A5_1 (n - 95) c5_1)], true⟩] [Byt A5 n c5 bs, Byt A5_1 (n - 95) c5_1 (sl bs 95 n)]) ?_
  refine dtake (f := 4) [0, 1, 2, 3, 4, 5, 6, 7, 8, 9, 10, 11, 12, 13, 14, 15, 16, 17, 18, 19, 20, 21, 22, 23, 24, 25, 26, 27, 28, 29, 30, 31, 32, 33, 34, 35, 36, 37, 38, 39, 40, 41, 42, 43, 44, 45, 46, 47, 48, 49, 50, 51, 52, 53, 54, 55, 56, 57, 58, 59, 60, 61, 62, 63, 64, 65, 66, 67, 68, 69, 70, 71, 72, 73, 74, 75, 76, 77, 78, 79, 80, 81, 82] (by kernel_rfl) (St.closed _ _ _ _) (fun _ h => (h.wk [(0, []), (1, []), (2, [0])] rfl)) (by kernel_rfl) ?_
  refine dq rfl (q_move rfl) ?_
  refine dq rfl (q_move rfl) ?_
  refine dq rfl (q_nil rfl) ?_
  refine dq rfl (q_field (b := b7) (off := 0) rfl fo_104_1) ?_
  refine dq rfl (q_load (b := b7) (off := 2) (j := 0) rfl nagg_100 (fun _ h => h) rfl rfl rfl) ?_
  refine dq rfl (q_convn (p := nb bs 0) rfl Tryz.underlying100 Tryz.underlying39 (show nb bs 0 < 18446744073709551616 by have := nb_lt bs 0; omega)) ?_
  refine dq rfl (q_move rfl) ?_
  refine dq rfl (q_nil rfl) ?_
  refine dq rfl (q_field (b := b7) (off := 0) rfl fo_104_2) ?_
  refine dq rfl (q_load (b := b7) (off := 3) (j := 0) rfl nagg_101 (fun _ h => h) rfl rfl rfl) ?_
  refine dq rfl (q_convn (p := (bN bs 1 2) &&& 7) rfl Tryz.underlying101 Tryz.underlying39 (show (bN bs 1 2) &&& 7 < 18446744073709551616 by have := bN_lt bs 1 2 65536 rfl; have := zm7 (bN bs 1 2); have := Nat.and_le_left (n := bN bs 1 2) (m := 7); have := Nat.and_le_right (n := bN bs 1 2) (m := 7); omega)) ?_
  refine dq rfl (q_move rfl) ?_
  refine dq rfl (q_nil rfl) ?_
  refine dq rfl (q_field (b := b7) (off := 0) rfl fo_104_3) ?_
  refine dq rfl (q_load (b := b7) (off := 4) (j := 0) rfl nagg_102 (fun _ h => h) rfl rfl rfl) ?_
  refine dq rfl (q_convn (p := ((bN bs 1 2) &&& 8) / 8) rfl Tryz.underlying102 Tryz.underlying39 (show ((bN bs 1 2) &&& 8) / 8 < 18446744073709551616 by have := bN_lt bs 1 2 65536 rfl; have := zb8 (bN bs 1 2); have := Nat.and_le_left (n := bN bs 1 2) (m := 8); have := Nat.and_le_right (n := bN bs 1 2) (m := 8); omega)) ?_
  refine dq rfl (q_move rfl) ?_
  refine dq rfl (q_nil rfl) ?_
  refine dq rfl (q_field (b := b7) (off := 0) rfl fo_104_4) ?_
  refine dq rfl (q_load (b := b7) (off := 5) (j := 0) rfl nagg_5 (fun _ h => h) rfl rfl rfl) ?_
  refine dq rfl (q_convn (p := ((bN bs 1 2) &&& 48) / 16) rfl Tryz.underlying5 Tryz.underlying39 (show ((bN bs 1 2) &&& 48) / 16 < 18446744073709551616 by have := bN_lt bs 1 2 65536 rfl; have := Nat.and_le_left (n := bN bs 1 2) (m := 48); have := Nat.and_le_right (n := bN bs 1 2) (m := 48); omega)) ?_
  refine dq rfl (q_move rfl) ?_
  refine dq rfl (q_nil rfl) ?_
  refine dq rfl (q_field (b := b7) (off := 0) rfl fo_104_5) ?_
  refine dq rfl (q_load (b := b7) (off := 6) (j := 0) rfl nagg_4 (fun _ h => h) rfl rfl rfl) ?_
  refine dq rfl (q_call (vs := [(.bool (decide ((bN bs 1 2) &&& 64 ≠ 0)))]) (v := (.int .u64 ((bitN (decide ((bN bs 1 2) &&& 64 ≠ 0)) : Nat) : Int))) rfl ca_61 (fun w h => bitC w (decide ((bN bs 1 2) &&& 64 ≠ 0))  (St.enter (sp := []) (Kc := []) (bi := []) h rfl rfl rfl))) ?_
  refine dq rfl (q_move rfl) ?_
  refine dq rfl (q_nil rfl) ?_
  refine dq rfl (q_field (b := b7) (off := 0) rfl fo_104_6) ?_
  refine dq rfl (q_load (b := b7) (off := 7) (j := 0) rfl nagg_4 (fun _ h => h) rfl rfl rfl) ?_
  refine dq rfl (q_call (vs := [(.bool (decide ((bN bs 1 2) &&& 128 ≠ 0)))]) (v := (.int .u64 ((bitN (decide ((bN bs 1 2) &&& 128 ≠ 0)) : Nat) : Int))) rfl ca_61 (fun w h => bitC w (decide ((bN bs 1 2) &&& 128 ≠ 0))  (St.enter (sp := []) (Kc := []) (bi := []) h rfl rfl rfl))) ?_
  refine dq rfl (q_move rfl) ?_
  refine dq rfl (q_nil rfl) ?_
  refine dq rfl (q_field (b := b7) (off := 0) rfl fo_104_7) ?_
  refine dq rfl (q_load (b := b7) (off := 8) (j := 0) rfl nagg_4 (fun _ h => h) rfl rfl rfl) ?_
  refine dq rfl (q_call (vs := [(.bool (decide ((bN bs 1 2) &&& 256 ≠ 0)))]) (v := (.int .u64 ((bitN (decide ((bN bs 1 2) &&& 256 ≠ 0)) : Nat) : Int))) rfl ca_61 (fun w h => bitC w (decide ((bN bs 1 2) &&& 256 ≠ 0))  (St.enter (sp := []) (Kc := []) (bi := []) h rfl rfl rfl))) ?_
  refine dq rfl (q_move rfl) ?_
  refine dq rfl (q_nil rfl) ?_
  refine dq rfl (q_field (b := b7) (off := 0) rfl fo_104_8) ?_
  refine dq rfl (q_load (b := b7) (off := 9) (j := 0) rfl nagg_4 (fun _ h => h) rfl rfl rfl) ?_
  refine dq rfl (q_call (vs := [(.bool (decide ((bN bs 1 2) &&& 512 ≠ 0)))]) (v := (.int .u64 ((bitN (decide ((bN bs 1 2) &&& 512 ≠ 0)) : Nat) : Int))) rfl ca_61 (fun w h => bitC w (decide ((bN bs 1 2) &&& 512 ≠ 0))  (St.enter (sp := []) (Kc := []) (bi := []) h rfl rfl rfl))) ?_
  refine dq rfl (q_move rfl) ?_
  refine dq rfl (q_nil rfl) ?_
  refine dq rfl (q_field (b := b7) (off := 0) rfl fo_104_9) ?_
  refine dq rfl (q_load (b := b7) (off := 10) (j := 0) rfl nagg_4 (fun _ h => h) rfl rfl rfl) ?_
  refine dq rfl (q_call (vs := [(.bool (decide ((bN bs 1 2) &&& 1024 ≠ 0)))]) (v := (.int .u64 ((bitN (decide ((bN bs 1 2) &&& 1024 ≠ 0)) : Nat) : Int))) rfl ca_61 (fun w h => bitC w (decide ((bN bs 1 2) &&& 1024 ≠ 0))  (St.enter (sp := []) (Kc := []) (bi := []) h rfl rfl rfl))) ?_
  refine dq rfl (q_move rfl) ?_
  refine dq rfl (q_nil rfl) ?_
  refine dq rfl (q_field (b := b7) (off := 0) rfl fo_104_10) ?_
  refine dq rfl (q_load (b := b7) (off := 11) (j := 0) rfl nagg_4 (fun _ h => h) rfl rfl rfl) ?_
  refine dq rfl (q_call (vs := [(.bool (decide ((bN bs 1 2) &&& 2048 ≠ 0)))]) (v := (.int .u64 ((bitN (decide ((bN bs 1 2) &&& 2048 ≠ 0)) : Nat) : Int))) rfl ca_61 (fun w h => bitC w (decide ((bN bs 1 2) &&& 2048 ≠ 0))  (St.enter (sp := []) (Kc := []) (bi := []) h rfl rfl rfl))) ?_
  refine dq rfl (q_move rfl) ?_
  refine dq rfl (q_nil rfl) ?_
  refine dq rfl (q_field (b := b7) (off := 0) rfl fo_104_11) ?_
  refine dq rfl (q_load (b := b7) (off := 12) (j := 0) rfl nagg_4 (fun _ h => h) rfl rfl rfl) ?_
  refine dq rfl (q_call (vs := [(.bool false)]) (v := (.int .u64 ((bitN false : Nat) : Int))) rfl ca_61 (fun w h => bitC w false  (St.enter (sp := []) (Kc := []) (bi := []) h rfl rfl rfl))) ?_
  refine dq rfl (q_move rfl) ?_
  refine dq rfl (q_nil rfl) ?_
  refine dq rfl (q_field (b := b7) (off := 0) rfl fo_104_12) ?_
  refine dq rfl (q_load (b := b7) (off := 13) (j := 0) rfl nagg_4 (fun _ h => h) rfl rfl rfl) ?_
  refine dq rfl (q_call (vs := [(.bool (decide ((bN bs 1 2) &&& 8192 ≠ 0)))]) (v := (.int .u64 ((bitN (decide ((bN bs 1 2) &&& 8192 ≠ 0)) : Nat) : Int))) rfl ca_61 (fun w h => bitC w (decide ((bN bs 1 2) &&& 8192 ≠ 0))  (St.enter (sp := []) (Kc := []) (bi := []) h rfl rfl rfl))) ?_
  refine dq rfl (q_move rfl) ?_
  refine dq rfl (q_nil rfl) ?_
  refine dq rfl (q_field (b := b7) (off := 0) rfl fo_104_13) ?_
  refine dq rfl (q_load (b := b7) (off := 14) (j := 0) rfl nagg_70 (fun _ h => h) rfl rfl rfl) ?_
  refine dq rfl (q_convn (p := bN bs 3 2) rfl Tryz.underlying70 Tryz.underlying39 (show bN bs 3 2 < 18446744073709551616 by have := bN_lt bs 3 2 65536 rfl; omega)) ?_
  refine dq rfl (q_move rfl) ?_
  refine dq rfl (q_nil rfl) ?_
  refine dq rfl (q_field (b := b7) (off := 0) rfl fo_104_14) ?_
  refine dq rfl (q_load (b := b7) (off := 15) (j := 0) rfl nagg_39 (fun _ h => h) rfl rfl rfl) ?_
  refine dq rfl (q_move rfl) ?_
  refine dq rfl (q_nil rfl) ?_
  refine dq rfl (q_field (b := b7) (off := 0) rfl fo_104_17) ?_
  refine dq rfl (q_load (b := b7) (off := 18) (j := 0) rfl nagg_39 (fun _ h => h) rfl rfl rfl) ?_
  refine dq rfl (q_move rfl) ?_
  refine dq rfl (q_nil rfl) ?_
  refine dq rfl (q_field (b := b7) (off := 0) rfl fo_104_18) ?_
  refine dq rfl (q_load (b := b7) (off := 19) (j := 0) rfl nagg_39 (fun _ h => h) rfl rfl rfl) ?_
  refine dq rfl (q_move rfl) ?_
  refine dq rfl (q_nil rfl) ?_
  refine dq rfl (q_field (b := b7) (off := 0) rfl fo_104_20) ?_
  refine dq rfl (q_load (b := b7) (off := 21) (j := 0) rfl nagg_70 (fun _ h => h) rfl rfl rfl) ?_
  refine dq rfl (q_convn (p := bN bs 93 2) rfl Tryz.underlying70 Tryz.underlying39 (show bN bs 93 2 < 18446744073709551616 by have := bN_lt bs 93 2 65536 rfl; omega)) ?_
  refine QL.nil ?_
  refine RG.step1 83 (by kernel_rfl) ?_
  refine dop rfl (l_buildSlice (e := 39) (vs := [(0, (.int .u64 ((nb bs 0 : Nat) : Int))), (1, (.int .u64 (((bN bs 1 2) &&& 7 : Nat) : Int))), (2, (.int .u64 ((((bN bs 1 2) &&& 8) / 8 : Nat) : Int))), (3, (.int .u64 ((((bN bs 1 2) &&& 48) / 16 : Nat) : Int))), (4, (.int .u64 ((bitN (decide ((bN bs 1 2) &&& 64 ≠ 0)) : Nat) : Int))), (5, (.int .u64 ((bitN (decide ((bN bs 1 2) &&& 128 ≠ 0)) : Nat) : Int))), (6, (.int .u64 ((bitN (decide ((bN bs 1 2) &&& 256 ≠ 0)) : Nat) : Int))), (7, (.int .u64 ((bitN (decide ((bN bs 1 2) &&& 512 ≠ 0)) : Nat) : Int))), (8, (.int .u64 ((bitN (decide ((bN bs 1 2) &&& 1024 ≠ 0)) : Nat) : Int))), (9, (.int .u64 ((bitN (decide ((bN bs 1 2) &&& 2048 ≠ 0)) : Nat) : Int))), (10, (.int .u64 ((bitN false : Nat) : Int))), (11, (.int .u64 ((bitN (decide ((bN bs 1 2) &&& 8192 ≠ 0)) : Nat) : Int))), (12, (.int .u64 ((bN bs 3 2 : Nat) : Int))), (13, (.int .u64 ((bN bs 5 8 : Nat) : Int))), (14, (.int .u64 ((bN bs 61 8 : Nat) : Int))), (15, (.int .u64 ((bN bs 69 8 : Nat) : Int))), (16, (.int .u64 ((bN bs 93 2 : Nat) : Int)))]) (cs := [(.int .u64 ((nb bs 0 : Nat) : Int)), (.int .u64 (((bN bs 1 2) &&& 7 : Nat) : Int)), (.int .u64 ((((bN bs 1 2) &&& 8) / 8 : Nat) : Int)), (.int .u64 ((((bN bs 1 2) &&& 48) / 16 : Nat) : Int)), (.int .u64 ((bitN (decide ((bN bs 1 2) &&& 64 ≠ 0)) : Nat) : Int)), (.int .u64 ((bitN (decide ((bN bs 1 2) &&& 128 ≠ 0)) : Nat) : Int)), (.int .u64 ((bitN (decide ((bN bs 1 2) &&& 256 ≠ 0)) : Nat) : Int)), (.int .u64 ((bitN (decide ((bN bs 1 2) &&& 512 ≠ 0)) : Nat) : Int)), (.int .u64 ((bitN (decide ((bN bs 1 2) &&& 1024 ≠ 0)) : Nat) : Int)), (.int .u64 ((bitN (decide ((bN bs 1 2) &&& 2048 ≠ 0)) : Nat) : Int)), (.int .u64 ((bitN false : Nat) : Int)), (.int .u64 ((bitN (decide ((bN bs 1 2) &&& 8192 ≠ 0)) : Nat) : Int)), (.int .u64 ((bN bs 3 2 : Nat) : Int)), (.int .u64 ((bN bs 5 8 : Nat) : Int)), (.int .u64 ((bN bs 61 8 : Nat) : Int)), (.int .u64 ((bN bs 69 8 : Nat) : Int)), (.int .u64 ((bN bs 93 2 : Nat) : Int))]) (by decide) rfl (fun _ => by kernel_rfl) fun b315 => ⟨(fun _ h => (h.wk [(0, []), (1, []), (2, [0])] rfl)), ?_⟩)
  refine dtake (f := 1) [84, 85] (by kernel_rfl) (St.closed _ _ _ _) (fun _ h => (h.wk [(0, []), (1, []), (2, [0])] rfl)) (by kernel_rfl) ?_
  refine dq rfl (q_nil rfl) ?_
  refine dq rfl (q_field (b := b50) (off := 0) rfl fo_29_0) ?_
  refine QL.nil ?_
  refine RG.step1 86 (by kernel_rfl) ?_
  refine dop rfl (l_store (b := b50) (off := 0) (j := 2) rfl rfl nagg_25 rfl rfl rfl rfl (dlt rfl) ⟨(fun _ h => (h.wk [(0, []), (1, []), (2, [0])] rfl)), ?_⟩)
  refine dend (by kernel_rfl) ?_
  refine eseq ?_
  refine HT.drawn mixed (St.closed _ _ _ _) (St w [] [⟨b7, 104, [some (.slice (cutA A5 c5 0) (95 - 0) (c5 - 0)), some (.slice (cutA A5 c5 95) (n - 95) (c5 - 95)), some (.int .u8 ((nb bs 0 : Nat) : Int)), some (.int .u8 (((bN bs 1 2) &&& 7 : Nat) : Int)), some (.int .u8 ((((bN bs 1 2) &&& 8) / 8 : Nat) : Int)), some (.int .u8 ((((bN bs 1 2) &&& 48) / 16 : Nat) : Int)), some (.bool (decide ((bN bs 1 2) &&& 64 ≠ 0))), some (.bool (decide ((bN bs 1 2) &&& 128 ≠ 0))), some (.bool (decide ((bN bs 1 2) &&& 256 ≠ 0))), some (.bool (decide ((bN bs 1 2) &&& 512 ≠ 0))), some (.bool (decide ((bN bs 1 2) &&& 1024 ≠ 0))), some (.bool (decide ((bN bs 1 2) &&& 2048 ≠ 0))), some (.bool false), some (.bool (decide ((bN bs 1 2) &&& 8192 ≠ 0))), some (.int .u16 ((bN bs 3 2 : Nat) : Int)), some (.int .u64 ((bN bs 5 8 : Nat) : Int)), some (.slice (cutA A5 c5 13) (45 - 13) (c5 - 13)), some (.slice (cutA A5 c5 45) (61 - 45) (c5 - 45)), some (.int .u64 ((bN bs 61 8 : Nat) : Int)), some (.int .u64 ((bN bs 69 8 : Nat) : Int)), some (.slice (cutA A5 c5 77) (93 - 77) (c5 - 77)), some (.int .u16 ((bN bs 93 2 : Nat) : Int)), some (.slice none 0 0)], false⟩, ⟨b4, 29, [some (.slice none 0 0), some (.slice none 0 0), some (.slice none 0 0), some (.slice none 0 0)], true⟩, ⟨b50, 29, [some (.slice (some ⟨b315, 0, none⟩) 17 17), none, some (.slice none 0 0), some (.slice A5_1 (n - 95) c5_1)], true⟩, ⟨b315, 39, [some (.int .u64 ((nb bs 0 : Nat) : Int)), some (.int .u64 (((bN bs 1 2) &&& 7 : Nat) : Int)), some (.int .u64 ((((bN bs 1 2) &&& 8) / 8 : Nat) : Int)), some (.int .u64 ((((bN bs 1 2) &&& 48) / 16 : Nat) : Int)), some (.int .u64 ((bitN (decide ((bN bs 1 2) &&& 64 ≠ 0)) : Nat) : Int)), some (.int .u64 ((bitN (decide ((bN bs 1 2) &&& 128 ≠ 0)) : Nat) : Int)), some (.int .u64 ((bitN (decide ((bN bs 1 2) &&& 256 ≠ 0)) : Nat) : Int)), some (.int .u64 ((bitN (decide ((bN bs 1 2) &&& 512 ≠ 0)) : Nat) : Int)), some (.int .u64 ((bitN (decide ((bN bs 1 2) &&& 1024 ≠ 0)) : Nat) : Int)), some (.int .u64 ((bitN (decide ((bN bs 1 2) &&& 2048 ≠ 0)) : Nat) : Int)), some (.int .u64 ((bitN false : Nat) : Int)), some (.int .u64 ((bitN (decide ((bN bs 1 2) &&& 8192 ≠ 0)) : Nat) : Int)), some (.int .u64 ((bN bs 3 2 : Nat) : Int)), some (.int .u64 ((bN bs 5 8 : Nat) : Int)), some (.int .u64 ((bN bs 61 8 : Nat) : Int)), some (.int .u64 ((bN bs 69 8 : Nat) : Int)), some (.int .u64 ((bN bs 93 2 : Nat) : Int))], true⟩] [Byt A5 n c5 bs, Byt A5_1 (n - 95) c5_1 (sl bs 95 n)]) ?_
  refine dtake (f := 8) [0, 1, 2, 3, 4, 6, 7, 8, 9, 11, 12, 13, 14, 16, 17, 18, 19] (by kernel_rfl) (St.closed _ _ _ _) (fun _ h => (h.wk [(0, []), (1, []), (2, [1]), (3, [])] rfl)) (by kernel_rfl) ?_
  refine dq rfl (q_move rfl) ?_
  refine dq rfl (q_move rfl) ?_
  refine dq rfl (q_nil rfl) ?_
  refine dq rfl (q_field (b := b7) (off := 0) rfl fo_104_15) ?_
  refine dq rfl (q_load (b := b7) (off := 16) (j := 0) rfl nagg_22 (fun _ h => h) rfl rfl rfl) ?_
  refine dq rfl (q_move rfl) ?_
  refine dq rfl (q_nil rfl) ?_
  refine dq rfl (q_field (b := b7) (off := 0) rfl fo_104_16) ?_
  refine dq rfl (q_load (b := b7) (off := 17) (j := 0) rfl nagg_22 (fun _ h => h) rfl rfl rfl) ?_
  refine dq rfl (q_move rfl) ?_
  refine dq rfl (q_nil rfl) ?_
  refine dq rfl (q_field (b := b7) (off := 0) rfl fo_104_19) ?_
  refine dq rfl (q_load (b := b7) (off := 20) (j := 0) rfl nagg_22 (fun _ h => h) rfl rfl rfl) ?_
  refine dq rfl (q_move rfl) ?_
  refine dq rfl (q_nil rfl) ?_
  refine dq rfl (q_field (b := b7) (off := 0) rfl fo_104_21) ?_
  refine dq rfl (q_load (b := b7) (off := 22) (j := 0) rfl nagg_22 (fun _ h => h) rfl rfl rfl) ?_
  refine QL.nil ?_
  refine RG.step1 5 (by kernel_rfl) ?_
  refine dop rfl (l_callX2 (vs := [(.slice (cutA A5 c5 13) (45 - 13) (c5 - 13))]) (Kc := []) (Bc := [Byt (cutA A5 c5 13) (45 - 13) (c5 - 13) (sl bs 13 45)]) [] [2] [Byt A5 n c5 bs, Byt A5_1 (n - 95) c5_1 (sl bs 95 n), Byt (cutA A5 c5 13) (45 - 13) (c5 - 13) (sl bs 13 45)] (fun A5_2 c5_2 => [⟨b7, 104, [some (.slice (cutA A5 c5 0) (95 - 0) (c5 - 0)), some (.slice (cutA A5 c5 95) (n - 95) (c5 - 95)), some (.int .u8 ((nb bs 0 : Nat) : Int)), some (.int .u8 (((bN bs 1 2) &&& 7 : Nat) : Int)), some (.int .u8 ((((bN bs 1 2) &&& 8) / 8 : Nat) : Int)), some (.int .u8 ((((bN bs 1 2) &&& 48) / 16 : Nat) : Int)), some (.bool (decide ((bN bs 1 2) &&& 64 ≠ 0))), some (.bool (decide ((bN bs 1 2) &&& 128 ≠ 0))), some (.bool (decide ((bN bs 1 2) &&& 256 ≠ 0))), some (.bool (decide ((bN bs 1 2) &&& 512 ≠ 0))), some (.bool (decide ((bN bs 1 2) &&& 1024 ≠ 0))), some (.bool (decide ((bN bs 1 2) &&& 2048 ≠ 0))), some (.bool false), some (.bool (decide ((bN bs 1 2) &&& 8192 ≠ 0))), some (.int .u16 ((bN bs 3 2 : Nat) : Int)), some (.int .u64 ((bN bs 5 8 : Nat) : Int)), some (.slice (cutA A5 c5 13) (45 - 13) (c5 - 13)), some (.slice (cutA A5 c5 45) (61 - 45) (c5 - 45)), some (.int .u64 ((bN bs 61 8 : Nat) : Int)), some (.int .u64 ((bN bs 69 8 : Nat) : Int)), some (.slice (cutA A5 c5 77) (93 - 77) (c5 - 77)), some (.int .u16 ((bN bs 93 2 : Nat) : Int)), some (.slice none 0 0)], false⟩, ⟨b4, 29, [some (.slice none 0 0), some (.slice none 0 0), some (.slice none 0 0), some (.slice none 0 0)], true⟩, ⟨b50, 29, [some (.slice (some ⟨b315, 0, none⟩) 17 17), some (.slice none 0 0), some (.slice none 0 0), some (.slice A5_1 (n - 95) c5_1)], true⟩, ⟨b315, 39, [some (.int .u64 ((nb bs 0 : Nat) : Int)), some (.int .u64 (((bN bs 1 2) &&& 7 : Nat) : Int)), some (.int .u64 ((((bN bs 1 2) &&& 8) / 8 : Nat) : Int)), some (.int .u64 ((((bN bs 1 2) &&& 48) / 16 : Nat) : Int)), some (.int .u64 ((bitN (decide ((bN bs 1 2) &&& 64 ≠ 0)) : Nat) : Int)), some (.int .u64 ((bitN (decide ((bN bs 1 2) &&& 128 ≠ 0)) : Nat) : Int)), some (.int .u64 ((bitN (decide ((bN bs 1 2) &&& 256 ≠ 0)) : Nat) : Int)), some (.int .u64 ((bitN (decide ((bN bs 1 2) &&& 512 ≠ 0)) : Nat) : Int)), some (.int .u64 ((bitN (decide ((bN bs 1 2) &&& 1024 ≠ 0)) : Nat) : Int)), some (.int .u64 ((bitN (decide ((bN bs 1 2) &&& 2048 ≠ 0)) : Nat) : Int)), some (.int .u64 ((bitN false : Nat) : Int)), some (.int .u64 ((bitN (decide ((bN bs 1 2) &&& 8192 ≠ 0)) : Nat) : Int)), some (.int .u64 ((bN bs 3 2 : Nat) : Int)), some (.int .u64 ((bN bs 5 8 : Nat) : Int)), some (.int .u64 ((bN bs 61 8 : Nat) : Int)), some (.int .u64 ((bN bs 69 8 : Nat) : Int)), some (.int .u64 ((bN bs 93 2 : Nat) : Int))], true⟩]) (fun A5_2 c5_2 => [Byt A5 n c5 bs, Byt A5_1 (n - 95) c5_1 (sl bs 95 n), Byt A5_2 (45 - 13) c5_2 (sl bs 13 45)]) (by decide) rfl ca_60 (fun _ h => (h.cut (j := 0) (lo := 13) (hi := 45) rfl (by omega) (by omega))) rfl rfl rfl rfl (fun w h => clone w (cutA A5 c5 13) (45 - 13) (c5 - 13) (sl bs 13 45) (by omega) h) (fun _ _ => rfl) (fun _ _ => rfl) (fun _ _ => rfl) (fun _ _ => rfl) fun A5_2 c5_2 hf4 he5 => ⟨(fun _ h => (St.selF (h.wk [(0, []), (1, []), (2, [1]), (3, [])] rfl) [0, 1] rfl)), ?_⟩)
  have hnc6 : (45 - 13) ≤ c5_2 := by obtain ⟨w, h⟩ := he5; exact (h _ List.mem_cons_self).2.1
  refine RG.step1 10 (by kernel_rfl) ?_
  refine dop rfl (l_callX2 (vs := [(.slice (cutA A5 c5 45) (61 - 45) (c5 - 45))]) (Kc := []) (Bc := [Byt (cutA A5 c5 45) (61 - 45) (c5 - 45) (sl bs 45 61)]) [] [3] [Byt A5 n c5 bs, Byt A5_1 (n - 95) c5_1 (sl bs 95 n), Byt A5_2 (45 - 13) c5_2 (sl bs 13 45), Byt (cutA A5 c5 45) (61 - 45) (c5 - 45) (sl bs 45 61)] (fun A5_3 c5_3 => [⟨b7, 104, [some (.slice (cutA A5 c5 0) (95 - 0) (c5 - 0)), some (.slice (cutA A5 c5 95) (n - 95) (c5 - 95)), some (.int .u8 ((nb bs 0 : Nat) : Int)), some (.int .u8 (((bN bs 1 2) &&& 7 : Nat) : Int)), some (.int .u8 ((((bN bs 1 2) &&& 8) / 8 : Nat) : Int)), some (.int .u8 ((((bN bs 1 2) &&& 48) / 16 : Nat) : Int)), some (.bool (decide ((bN bs 1 2) &&& 64 ≠ 0))), some (.bool (decide ((bN bs 1 2) &&& 128 ≠ 0))), some (.bool (decide ((bN bs 1 2) &&& 256 ≠ 0))), some (.bool (decide ((bN bs 1 2) &&& 512 ≠ 0))), some (.bool (decide ((bN bs 1 2) &&& 1024 ≠ 0))), some (.bool (decide ((bN bs 1 2) &&& 2048 ≠ 0))), some (.bool false), some (.bool (decide ((bN bs 1 2) &&& 8192 ≠ 0))), some (.int .u16 ((bN bs 3 2 : Nat) : Int)), some (.int .u64 ((bN bs 5 8 : Nat) : Int)), some (.slice (cutA A5 c5 13) (45 - 13) (c5 - 13)), some (.slice (cutA A5 c5 45) (61 - 45) (c5 - 45)), some (.int .u64 ((bN bs 61 8 : Nat) : Int)), some (.int .u64 ((bN bs 69 8 : Nat) : Int)), some (.slice (cutA A5 c5 77) (93 - 77) (c5 - 77)), some (.int .u16 ((bN bs 93 2 : Nat) : Int)), some (.slice none 0 0)], false⟩, ⟨b4, 29, [some (.slice none 0 0), some (.slice none 0 0), some (.slice none 0 0), some (.slice none 0 0)], true⟩, ⟨b50, 29, [some (.slice (some ⟨b315, 0, none⟩) 17 17), some (.slice none 0 0), some (.slice none 0 0), some (.slice A5_1 (n - 95) c5_1)], true⟩, ⟨b315, 39, [some (.int .u64 ((nb bs 0 : Nat) : Int)), some (.int .u64 (((bN bs 1 2) &&& 7 : Nat) : Int)), some (.int .u64 ((((bN bs 1 2) &&& 8) / 8 : Nat) : Int)), some (.int .u64 ((((bN bs 1 2) &&& 48) / 16 : Nat) : Int)), some (.int .u64 ((bitN (decide ((bN bs 1 2) &&& 64 ≠ 0)) : Nat) : Int)), some (.int .u64 ((bitN (decide ((bN bs 1 2) &&& 128 ≠ 0)) : Nat) : Int)), some (.int .u64 ((bitN (decide ((bN bs 1 2) &&& 256 ≠ 0)) : Nat) : Int)), some (.int .u64 ((bitN (decide ((bN bs 1 2) &&& 512 ≠ 0)) : Nat) : Int)), some (.int .u64 ((bitN (decide ((bN bs 1 2) &&& 1024 ≠ 0)) : Nat) : Int)), some (.int .u64 ((bitN (decide ((bN bs 1 2) &&& 2048 ≠ 0)) : Nat) : Int)), some (.int .u64 ((bitN false : Nat) : Int)), some (.int .u64 ((bitN (decide ((bN bs 1 2) &&& 8192 ≠ 0)) : Nat) : Int)), some (.int .u64 ((bN bs 3 2 : Nat) : Int)), some (.int .u64 ((bN bs 5 8 : Nat) : Int)), some (.int .u64 ((bN bs 61 8 : Nat) : Int)), some (.int .u64 ((bN bs 69 8 : Nat) : Int)), some (.int .u64 ((bN bs 93 2 : Nat) : Int))], true⟩]) (fun A5_3 c5_3 => [Byt A5 n c5 bs, Byt A5_1 (n - 95) c5_1 (sl bs 95 n), Byt A5_2 (45 - 13) c5_2 (sl bs 13 45), Byt A5_3 (61 - 45) c5_3 (sl bs 45 61)]) (by decide) rfl ca_60 (fun _ h => (h.cut (j := 0) (lo := 45) (hi := 61) rfl (by omega) (by omega))) rfl rfl rfl rfl (fun w h => clone w (cutA A5 c5 45) (61 - 45) (c5 - 45) (sl bs 45 61) (by omega) h) (fun _ _ => rfl) (fun _ _ => rfl) (fun _ _ => rfl) (fun _ _ => rfl) fun A5_3 c5_3 hf7 he8 => ⟨(fun _ h => (St.selF (h.wk [(0, []), (1, []), (2, [1]), (3, [])] rfl) [0, 1] rfl)), ?_⟩)
  have hnc9 : (61 - 45) ≤ c5_3 := by obtain ⟨w, h⟩ := he8; exact (h _ List.mem_cons_self).2.1
  refine RG.step1 15 (by kernel_rfl) ?_
  refine dop rfl (l_callX2 (vs := [(.slice (cutA A5 c5 77) (93 - 77) (c5 - 77))]) (Kc := []) (Bc := [Byt (cutA A5 c5 77) (93 - 77) (c5 - 77) (sl bs 77 93)]) [] [4] [Byt A5 n c5 bs, Byt A5_1 (n - 95) c5_1 (sl bs 95 n), Byt A5_2 (45 - 13) c5_2 (sl bs 13 45), Byt A5_3 (61 - 45) c5_3 (sl bs 45 61), Byt (cutA A5 c5 77) (93 - 77) (c5 - 77) (sl bs 77 93)] (fun A5_4 c5_4 => [⟨b7, 104, [some (.slice (cutA A5 c5 0) (95 - 0) (c5 - 0)), some (.slice (cutA A5 c5 95) (n - 95) (c5 - 95)), some (.int .u8 ((nb bs 0 : Nat) : Int)), some (.int .u8 (((bN bs 1 2) &&& 7 : Nat) : Int)), some (.int .u8 ((((bN bs 1 2) &&& 8) / 8 : Nat) : Int)), some (.int .u8 ((((bN bs 1 2) &&& 48) / 16 : Nat) : Int)), some (.bool (decide ((bN bs 1 2) &&& 64 ≠ 0))), some (.bool (decide ((bN bs 1 2) &&& 128 ≠ 0))), some (.bool (decide ((bN bs 1 2) &&& 256 ≠ 0))), some (.bool (decide ((bN bs 1 2) &&& 512 ≠ 0))), some (.bool (decide ((bN bs 1 2) &&& 1024 ≠ 0))), some (.bool (decide ((bN bs 1 2) &&& 2048 ≠ 0))), some (.bool false), some (.bool (decide ((bN bs 1 2) &&& 8192 ≠ 0))), some (.int .u16 ((bN bs 3 2 : Nat) : Int)), some (.int .u64 ((bN bs 5 8 : Nat) : Int)), some (.slice (cutA A5 c5 13) (45 - 13) (c5 - 13)), some (.slice (cutA A5 c5 45) (61 - 45) (c5 - 45)), some (.int .u64 ((bN bs 61 8 : Nat) : Int)), some (.int .u64 ((bN bs 69 8 : Nat) : Int)), some (.slice (cutA A5 c5 77) (93 - 77) (c5 - 77)), some (.int .u16 ((bN bs 93 2 : Nat) : Int)), some (.slice none 0 0)], false⟩, ⟨b4, 29, [some (.slice none 0 0), some (.slice none 0 0), some (.slice none 0 0), some (.slice none 0 0)], true⟩, ⟨b50, 29, [some (.slice (some ⟨b315, 0, none⟩) 17 17), some (.slice none 0 0), some (.slice none 0 0), some (.slice A5_1 (n - 95) c5_1)], true⟩, ⟨b315, 39, [some (.int .u64 ((nb bs 0 : Nat) : Int)), some (.int .u64 (((bN bs 1 2) &&& 7 : Nat) : Int)), some (.int .u64 ((((bN bs 1 2) &&& 8) / 8 : Nat) : Int)), some (.int .u64 ((((bN bs 1 2) &&& 48) / 16 : Nat) : Int)), some (.int .u64 ((bitN (decide ((bN bs 1 2) &&& 64 ≠ 0)) : Nat) : Int)), some (.int .u64 ((bitN (decide ((bN bs 1 2) &&& 128 ≠ 0)) : Nat) : Int)), some (.int .u64 ((bitN (decide ((bN bs 1 2) &&& 256 ≠ 0)) : Nat) : Int)), some (.int .u64 ((bitN (decide ((bN bs 1 2) &&& 512 ≠ 0)) : Nat) : Int)), some (.int .u64 ((bitN (decide ((bN bs 1 2) &&& 1024 ≠ 0)) : Nat) : Int)), some (.int .u64 ((bitN (decide ((bN bs 1 2) &&& 2048 ≠ 0)) : Nat) : Int)), some (.int .u64 ((bitN false : Nat) : Int)), some (.int .u64 ((bitN (decide ((bN bs 1 2) &&& 8192 ≠ 0)) : Nat) : Int)), some (.int .u64 ((bN bs 3 2 : Nat) : Int)), some (.int .u64 ((bN bs 5 8 : Nat) : Int)), some (.int .u64 ((bN bs 61 8 : Nat) : Int)), some (.int .u64 ((bN bs 69 8 : Nat) : Int)), some (.int .u64 ((bN bs 93 2 : Nat) : Int))], true⟩]) (fun A5_4 c5_4 => [Byt A5 n c5 bs, Byt A5_1 (n - 95) c5_1 (sl bs 95 n), Byt A5_2 (45 - 13) c5_2 (sl bs 13 45), Byt A5_3 (61 - 45) c5_3 (sl bs 45 61), Byt A5_4 (93 - 77) c5_4 (sl bs 77 93)]) (by decide) rfl ca_60 (fun _ h => (h.cut (j := 0) (lo := 77) (hi := 93) rfl (by omega) (by omega))) rfl rfl rfl rfl (fun w h => clone w (cutA A5 c5 77) (93 - 77) (c5 - 77) (sl bs 77 93) (by omega) h) (fun _ _ => rfl) (fun _ _ => rfl) (fun _ _ => rfl) (fun _ _ => rfl) fun A5_4 c5_4 hf10 he11 => ⟨(fun _ h => (St.selF (h.wk [(0, []), (1, []), (2, [1]), (3, [])] rfl) [0, 1] rfl)), ?_⟩)
  have hnc12 : (93 - 77) ≤ c5_4 := by obtain ⟨w, h⟩ := he11; exact (h _ List.mem_cons_self).2.1
  refine dtake (f := 4) [20] (by kernel_rfl) (St.closed _ _ _ _) (fun _ h => (St.selF (h.wk [(0, []), (1, []), (2, [1]), (3, [])] rfl) [0, 1] rfl)) (by kernel_rfl) ?_
  refine dq rfl (q_call (vs := [(.slice none 0 0)]) (v := (.slice none 0 0)) rfl ca_60 (fun w h => cloneNil w   (St.enter (sp := []) (Kc := []) (bi := []) h rfl rfl rfl))) ?_
  refine QL.nil ?_
  refine RG.step1 21 (by kernel_rfl) ?_
  refine dop rfl (l_buildSlice (e := 22) (vs := [(0, (.slice A5_2 (45 - 13) c5_2)), (1, (.slice A5_3 (61 - 45) c5_3)), (2, (.slice A5_4 (93 - 77) c5_4)), (3, (.slice none 0 0))]) (cs := [(.slice A5_2 (45 - 13) c5_2), (.slice A5_3 (61 - 45) c5_3), (.slice A5_4 (93 - 77) c5_4), (.slice none 0 0)]) (by decide) rfl (fun _ => by kernel_rfl) fun b339 => ⟨(fun _ h => (St.selF (h.wk [(0, []), (1, []), (2, [1]), (3, [])] rfl) [0, 1] rfl)), ?_⟩)
  refine dtake (f := 1) [22, 23] (by kernel_rfl) (St.closed _ _ _ _) (fun _ h => (St.selF (h.wk [(0, []), (1, []), (2, [1]), (3, [])] rfl) [0, 1] rfl)) (by kernel_rfl) ?_
  refine dq rfl (q_nil rfl) ?_
  refine dq rfl (q_field (b := b50) (off := 0) rfl fo_29_1) ?_
  refine QL.nil ?_
  refine RG.step1 24 (by kernel_rfl) ?_
  refine dop rfl (l_store (b := b50) (off := 1) (j := 2) rfl rfl nagg_26 rfl rfl rfl rfl (dlt rfl) ⟨(fun _ h => (St.selF (h.wk [(0, []), (1, []), (2, [1]), (3, [])] rfl) [0, 1] rfl)), ?_⟩)
  refine dend (by kernel_rfl) ?_
  refine ein ?_
  refine eseq ?_
  refine HT.seq ?_
  refine HT.plain ?_
  refine sq (St.closed _ _ _ _) (q_move rfl) rfl ?_
  refine sq (St.closed _ _ _ _) (q_nil rfl) rfl ?_
  refine sq (St.closed _ _ _ _) (q_loadAgg (b := b50) (off := 0) (j := 2) (vs := [(.slice (some ⟨b315, 0, none⟩) 17 17), (.slice (some ⟨b339, 0, none⟩) 4 4), (.slice none 0 0), (.slice A5_1 (n - 95) c5_1)]) rfl aggs_29 (fun _ h => h) rfl rfl rfl) rfl ?_
  refine sl_ (l_storeAgg (b := b4) (off := 0) (j := 1) (vs := [(.slice (some ⟨b315, 0, none⟩) 17 17), (.slice (some ⟨b339, 0, none⟩) 4 4), (.slice none 0 0), (.slice A5_1 (n - 95) c5_1)]) rfl rfl aggs_29 (by simp [Value.one1]) rfl rfl rfl (Nat.le_of_ble_eq_true rfl) ?_)
  refine sq (St.closed _ _ _ _) (q_assign rfl) rfl ?_
  refine send ?_
  refine eseq ?_
  refine HT.ret ?_
  exact fun a ha w' hw => fin_ ha (resc2 ha Tryz.results47 rfl (ld_ aggs_29 hw (j := 1) rfl rfl (vs := [(.slice (some ⟨b315, 0, none⟩) 17 17), (.slice (some ⟨b339, 0, none⟩) 4 4), (.slice none 0 0), (.slice A5_1 (n - 95) c5_1)]) rfl) rfl) ⟨⟨⟨some ⟨b315, 0, none⟩, 17, 17, [nb bs 0, (bN bs 1 2) &&& 7, ((bN bs 1 2) &&& 8) / 8, ((bN bs 1 2) &&& 48) / 16, bitN (decide ((bN bs 1 2) &&& 64 ≠ 0)), bitN (decide ((bN bs 1 2) &&& 128 ≠ 0)), bitN (decide ((bN bs 1 2) &&& 256 ≠ 0)), bitN (decide ((bN bs 1 2) &&& 512 ≠ 0)), bitN (decide ((bN bs 1 2) &&& 1024 ≠ 0)), bitN (decide ((bN bs 1 2) &&& 2048 ≠ 0)), bitN false, bitN (decide ((bN bs 1 2) &&& 8192 ≠ 0)), bN bs 3 2, bN bs 5 8, bN bs 61 8, bN bs 69 8, bN bs 93 2]⟩, some ⟨b339, 0, none⟩, 4, 4, [⟨A5_2, (45 - 13), c5_2, (sl bs 13 45)⟩, ⟨A5_3, (61 - 45), c5_3, (sl bs 45 61)⟩, ⟨A5_4, (93 - 77), c5_4, (sl bs 77 93)⟩, ⟨none, 0, 0, []⟩], none, 0, 0, [], ⟨A5_1, (n - 95), c5_1, (sl bs 95 n)⟩⟩, rfl, hw.pres, Own.lay (all1 (Own.cel hw (j := 3) (sz := 1) (r := []) rfl rfl rfl rfl (Nat.le_refl _)) (all1 (Own.cel hw (j := 4) (sz := 1) (r := []) rfl rfl rfl rfl (Nat.le_refl _)) (all1 (Own.nilCel 2) (all1 (Own.byt hw (j := 1) rfl (fun b h => .inl ((hf1 _ List.mem_cons_self) b h))) (all1 (Own.byt hw (j := 2) rfl (fun b h => .inl ((hf4 _ List.mem_cons_self) b h))) (all1 (Own.byt hw (j := 3) rfl (fun b h => .inl ((hf7 _ List.mem_cons_self) b h))) (all1 (Own.byt hw (j := 4) rfl (fun b h => .inl ((hf10 _ List.mem_cons_self) b h))) (all1 Own.nilByt all0)))))))), (LD_eq (lc rfl (lc rfl (lc (show ((bN bs 1 2) &&& 8) / 8 = ((bN bs 1 2) / 8) &&& 1 from by (have := nb_lt bs 1; have := nb_lt bs 2; first | omega | ((try simp only [zd224, zd240, zd192, zd24, zd56, zd65520, zd4, zd8, zd48, zd112]) <;> (try simp only [zt1, zt2, zt4, zt8, zt16, zt32, zt64, zt128, zt256, zt512, zt1024, zt2048, zt4096, zt8192]) <;> (try simp only [zm1, zm3, zm7, zm15, zm31, zm63, zm127, zm255, zm1023, zm4095, zm1048575, zb1, zb2, zb4, zb8, zb16, zb32, zb64, zb128, zb256, zb512, zb1024, zb2048, zb4096, zb8192, bitN, cond_true, cond_false]) <;> omega) | ((try simp only [zd224, zd240, zd192, zd24, zd56, zd65520, zd4, zd8, zd48, zd112]) <;> (try simp only [zt1, zt2, zt4, zt8, zt16, zt32, zt64, zt128, zt256, zt512, zt1024, zt2048, zt4096, zt8192]) <;> (try simp only [zm1, zm3, zm7, zm15, zm31, zm63, zm127, zm255, zm1023, zm4095, zm1048575, zb1, zb2, zb4, zb8, zb16, zb32, zb64, zb128, zb256, zb512, zb1024, zb2048, zb4096, zb8192, bitN, cond_true, cond_false, lN, bN, Nat.zero_mul, Nat.zero_add, Nat.add_zero, Nat.reduceAdd, Nat.reduceDiv, Nat.reduceMul]) <;> omega))) (lc (show ((bN bs 1 2) &&& 48) / 16 = ((bN bs 1 2) / 16) &&& 3 from by (have := nb_lt bs 1; have := nb_lt bs 2; first | omega | ((try simp only [zd224, zd240, zd192, zd24, zd56, zd65520, zd4, zd8, zd48, zd112]) <;> (try simp only [zt1, zt2, zt4, zt8, zt16, zt32, zt64, zt128, zt256, zt512, zt1024, zt2048, zt4096, zt8192]) <;> (try simp only [zm1, zm3, zm7, zm15, zm31, zm63, zm127, zm255, zm1023, zm4095, zm1048575, zb1, zb2, zb4, zb8, zb16, zb32, zb64, zb128, zb256, zb512, zb1024, zb2048, zb4096, zb8192, bitN, cond_true, cond_false]) <;> omega) | ((try simp only [zd224, zd240, zd192, zd24, zd56, zd65520, zd4, zd8, zd48, zd112]) <;> (try simp only [zt1, zt2, zt4, zt8, zt16, zt32, zt64, zt128, zt256, zt512, zt1024, zt2048, zt4096, zt8192]) <;> (try simp only [zm1, zm3, zm7, zm15, zm31, zm63, zm127, zm255, zm1023, zm4095, zm1048575, zb1, zb2, zb4, zb8, zb16, zb32, zb64, zb128, zb256, zb512, zb1024, zb2048, zb4096, zb8192, bitN, cond_true, cond_false, lN, bN, Nat.zero_mul, Nat.zero_add, Nat.add_zero, Nat.reduceAdd, Nat.reduceDiv, Nat.reduceMul]) <;> omega))) (lc (show bitN (decide ((bN bs 1 2) &&& 64 ≠ 0)) = ((bN bs 1 2) / 64) &&& 1 from by (have := nb_lt bs 1; have := nb_lt bs 2; first | omega | ((try simp only [zd224, zd240, zd192, zd24, zd56, zd65520, zd4, zd8, zd48, zd112]) <;> (try simp only [zt1, zt2, zt4, zt8, zt16, zt32, zt64, zt128, zt256, zt512, zt1024, zt2048, zt4096, zt8192]) <;> (try simp only [zm1, zm3, zm7, zm15, zm31, zm63, zm127, zm255, zm1023, zm4095, zm1048575, zb1, zb2, zb4, zb8, zb16, zb32, zb64, zb128, zb256, zb512, zb1024, zb2048, zb4096, zb8192, bitN, cond_true, cond_false]) <;> omega) | ((try simp only [zd224, zd240, zd192, zd24, zd56, zd65520, zd4, zd8, zd48, zd112]) <;> (try simp only [zt1, zt2, zt4, zt8, zt16, zt32, zt64, zt128, zt256, zt512, zt1024, zt2048, zt4096, zt8192]) <;> (try simp only [zm1, zm3, zm7, zm15, zm31, zm63, zm127, zm255, zm1023, zm4095, zm1048575, zb1, zb2, zb4, zb8, zb16, zb32, zb64, zb128, zb256, zb512, zb1024, zb2048, zb4096, zb8192, bitN, cond_true, cond_false, lN, bN, Nat.zero_mul, Nat.zero_add, Nat.add_zero, Nat.reduceAdd, Nat.reduceDiv, Nat.reduceMul]) <;> omega))) (lc (show bitN (decide ((bN bs 1 2) &&& 128 ≠ 0)) = ((bN bs 1 2) / 128) &&& 1 from by (have := nb_lt bs 1; have := nb_lt bs 2; first | omega | ((try simp only [zd224, zd240, zd192, zd24, zd56, zd65520, zd4, zd8, zd48, zd112]) <;> (try simp only [zt1, zt2, zt4, zt8, zt16, zt32, zt64, zt128, zt256, zt512, zt1024, zt2048, zt4096, zt8192]) <;> (try simp only [zm1, zm3, zm7, zm15, zm31, zm63, zm127, zm255, zm1023, zm4095, zm1048575, zb1, zb2, zb4, zb8, zb16, zb32, zb64, zb128, zb256, zb512, zb1024, zb2048, zb4096, zb8192, bitN, cond_true, cond_false]) <;> omega) | ((try simp only [zd224, zd240, zd192, zd24, zd56, zd65520, zd4, zd8, zd48, zd112]) <;> (try simp only [zt1, zt2, zt4, zt8, zt16, zt32, zt64, zt128, zt256, zt512, zt1024, zt2048, zt4096, zt8192]) <;> (try simp only [zm1, zm3, zm7, zm15, zm31, zm63, zm127, zm255, zm1023, zm4095, zm1048575, zb1, zb2, zb4, zb8, zb16, zb32, zb64, zb128, zb256, zb512, zb1024, zb2048, zb4096, zb8192, bitN, cond_true, cond_false, lN, bN, Nat.zero_mul, Nat.zero_add, Nat.add_zero, Nat.reduceAdd, Nat.reduceDiv, Nat.reduceMul]) <;> omega))) (lc (show bitN (decide ((bN bs 1 2) &&& 256 ≠ 0)) = ((bN bs 1 2) / 256) &&& 1 from by (have := nb_lt bs 1; have := nb_lt bs 2; first | omega | ((try simp only [zd224, zd240, zd192, zd24, zd56, zd65520, zd4, zd8, zd48, zd112]) <;> (try simp only [zt1, zt2, zt4, zt8, zt16, zt32, zt64, zt128, zt256, zt512, zt1024, zt2048, zt4096, zt8192]) <;> (try simp only [zm1, zm3, zm7, zm15, zm31, zm63, zm127, zm255, zm1023, zm4095, zm1048575, zb1, zb2, zb4, zb8, zb16, zb32, zb64, zb128, zb256, zb512, zb1024, zb2048, zb4096, zb8192, bitN, cond_true, cond_false]) <;> omega) | ((try simp only [zd224, zd240, zd192, zd24, zd56, zd65520, zd4, zd8, zd48, zd112]) <;> (try simp only [zt1, zt2, zt4, zt8, zt16, zt32, zt64, zt128, zt256, zt512, zt1024, zt2048, zt4096, zt8192]) <;> (try simp only [zm1, zm3, zm7, zm15, zm31, zm63, zm127, zm255, zm1023, zm4095, zm1048575, zb1, zb2, zb4, zb8, zb16, zb32, zb64, zb128, zb256, zb512, zb1024, zb2048, zb4096, zb8192, bitN, cond_true, cond_false, lN, bN, Nat.zero_mul, Nat.zero_add, Nat.add_zero, Nat.reduceAdd, Nat.reduceDiv, Nat.reduceMul]) <;> omega))) (lc (show bitN (decide ((bN bs 1 2) &&& 512 ≠ 0)) = ((bN bs 1 2) / 512) &&& 1 from by (have := nb_lt bs 1; have := nb_lt bs 2; first | omega | ((try simp only [zd224, zd240, zd192, zd24, zd56, zd65520, zd4, zd8, zd48, zd112]) <;> (try simp only [zt1, zt2, zt4, zt8, zt16, zt32, zt64, zt128, zt256, zt512, zt1024, zt2048, zt4096, zt8192]) <;> (try simp only [zm1, zm3, zm7, zm15, zm31, zm63, zm127, zm255, zm1023, zm4095, zm1048575, zb1, zb2, zb4, zb8, zb16, zb32, zb64, zb128, zb256, zb512, zb1024, zb2048, zb4096, zb8192, bitN, cond_true, cond_false]) <;> omega) | ((try simp only [zd224, zd240, zd192, zd24, zd56, zd65520, zd4, zd8, zd48, zd112]) <;> (try simp only [zt1, zt2, zt4, zt8, zt16, zt32, zt64, zt128, zt256, zt512, zt1024, zt2048, zt4096, zt8192]) <;> (try simp only [zm1, zm3, zm7, zm15, zm31, zm63, zm127, zm255, zm1023, zm4095, zm1048575, zb1, zb2, zb4, zb8, zb16, zb32, zb64, zb128, zb256, zb512, zb1024, zb2048, zb4096, zb8192, bitN, cond_true, cond_false, lN, bN, Nat.zero_mul, Nat.zero_add, Nat.add_zero, Nat.reduceAdd, Nat.reduceDiv, Nat.reduceMul]) <;> omega))) (lc (show bitN (decide ((bN bs 1 2) &&& 1024 ≠ 0)) = ((bN bs 1 2) / 1024) &&& 1 from by (have := nb_lt bs 1; have := nb_lt bs 2; first | omega | ((try simp only [zd224, zd240, zd192, zd24, zd56, zd65520, zd4, zd8, zd48, zd112]) <;> (try simp only [zt1, zt2, zt4, zt8, zt16, zt32, zt64, zt128, zt256, zt512, zt1024, zt2048, zt4096, zt8192]) <;> (try simp only [zm1, zm3, zm7, zm15, zm31, zm63, zm127, zm255, zm1023, zm4095, zm1048575, zb1, zb2, zb4, zb8, zb16, zb32, zb64, zb128, zb256, zb512, zb1024, zb2048, zb4096, zb8192, bitN, cond_true, cond_false]) <;> omega) | ((try simp only [zd224, zd240, zd192, zd24, zd56, zd65520, zd4, zd8, zd48, zd112]) <;> (try simp only [zt1, zt2, zt4, zt8, zt16, zt32, zt64, zt128, zt256, zt512, zt1024, zt2048, zt4096, zt8192]) <;> (try simp only [zm1, zm3, zm7, zm15, zm31, zm63, zm127, zm255, zm1023, zm4095, zm1048575, zb1, zb2, zb4, zb8, zb16, zb32, zb64, zb128, zb256, zb512, zb1024, zb2048, zb4096, zb8192, bitN, cond_true, cond_false, lN, bN, Nat.zero_mul, Nat.zero_add, Nat.add_zero, Nat.reduceAdd, Nat.reduceDiv, Nat.reduceMul]) <;> omega))) (lc (show bitN (decide ((bN bs 1 2) &&& 2048 ≠ 0)) = ((bN bs 1 2) / 2048) &&& 1 from by (have := nb_lt bs 1; have := nb_lt bs 2; first | omega | ((try simp only [zd224, zd240, zd192, zd24, zd56, zd65520, zd4, zd8, zd48, zd112]) <;> (try simp only [zt1, zt2, zt4, zt8, zt16, zt32, zt64, zt128, zt256, zt512, zt1024, zt2048, zt4096, zt8192]) <;> (try simp only [zm1, zm3, zm7, zm15, zm31, zm63, zm127, zm255, zm1023, zm4095, zm1048575, zb1, zb2, zb4, zb8, zb16, zb32, zb64, zb128, zb256, zb512, zb1024, zb2048, zb4096, zb8192, bitN, cond_true, cond_false]) <;> omega) | ((try simp only [zd224, zd240, zd192, zd24, zd56, zd65520, zd4, zd8, zd48, zd112]) <;> (try simp only [zt1, zt2, zt4, zt8, zt16, zt32, zt64, zt128, zt256, zt512, zt1024, zt2048, zt4096, zt8192]) <;> (try simp only [zm1, zm3, zm7, zm15, zm31, zm63, zm127, zm255, zm1023, zm4095, zm1048575, zb1, zb2, zb4, zb8, zb16, zb32, zb64, zb128, zb256, zb512, zb1024, zb2048, zb4096, zb8192, bitN, cond_true, cond_false, lN, bN, Nat.zero_mul, Nat.zero_add, Nat.add_zero, Nat.reduceAdd, Nat.reduceDiv, Nat.reduceMul]) <;> omega))) (lc (show bitN false = ((bN bs 1 2) / 4096) &&& 1 from by (have := nb_lt bs 1; have := nb_lt bs 2; first | omega | ((try simp only [zd224, zd240, zd192, zd24, zd56, zd65520, zd4, zd8, zd48, zd112]) <;> (try simp only [zt1, zt2, zt4, zt8, zt16, zt32, zt64, zt128, zt256, zt512, zt1024, zt2048, zt4096, zt8192]) <;> (try simp only [zm1, zm3, zm7, zm15, zm31, zm63, zm127, zm255, zm1023, zm4095, zm1048575, zb1, zb2, zb4, zb8, zb16, zb32, zb64, zb128, zb256, zb512, zb1024, zb2048, zb4096, zb8192, bitN, cond_true, cond_false]) <;> omega) | ((try simp only [zd224, zd240, zd192, zd24, zd56, zd65520, zd4, zd8, zd48, zd112]) <;> (try simp only [zt1, zt2, zt4, zt8, zt16, zt32, zt64, zt128, zt256, zt512, zt1024, zt2048, zt4096, zt8192]) <;> (try simp only [zm1, zm3, zm7, zm15, zm31, zm63, zm127, zm255, zm1023, zm4095, zm1048575, zb1, zb2, zb4, zb8, zb16, zb32, zb64, zb128, zb256, zb512, zb1024, zb2048, zb4096, zb8192, bitN, cond_true, cond_false, lN, bN, Nat.zero_mul, Nat.zero_add, Nat.add_zero, Nat.reduceAdd, Nat.reduceDiv, Nat.reduceMul]) <;> omega))) (lc (show bitN (decide ((bN bs 1 2) &&& 8192 ≠ 0)) = ((bN bs 1 2) / 8192) &&& 1 from by (have := nb_lt bs 1; have := nb_lt bs 2; first | omega | ((try simp only [zd224, zd240, zd192, zd24, zd56, zd65520, zd4, zd8, zd48, zd112]) <;> (try simp only [zt1, zt2, zt4, zt8, zt16, zt32, zt64, zt128, zt256, zt512, zt1024, zt2048, zt4096, zt8192]) <;> (try simp only [zm1, zm3, zm7, zm15, zm31, zm63, zm127, zm255, zm1023, zm4095, zm1048575, zb1, zb2, zb4, zb8, zb16, zb32, zb64, zb128, zb256, zb512, zb1024, zb2048, zb4096, zb8192, bitN, cond_true, cond_false]) <;> omega) | ((try simp only [zd224, zd240, zd192, zd24, zd56, zd65520, zd4, zd8, zd48, zd112]) <;> (try simp only [zt1, zt2, zt4, zt8, zt16, zt32, zt64, zt128, zt256, zt512, zt1024, zt2048, zt4096, zt8192]) <;> (try simp only [zm1, zm3, zm7, zm15, zm31, zm63, zm127, zm255, zm1023, zm4095, zm1048575, zb1, zb2, zb4, zb8, zb16, zb32, zb64, zb128, zb256, zb512, zb1024, zb2048, zb4096, zb8192, bitN, cond_true, cond_false, lN, bN, Nat.zero_mul, Nat.zero_add, Nat.add_zero, Nat.reduceAdd, Nat.reduceDiv, Nat.reduceMul]) <;> omega))) (lc rfl (lc rfl (lc rfl (lc rfl (lc rfl rfl))))))))))))))))) (lc (show (sl bs 13 45) = sl bs 13 45 from by first | rfl | (exact sl_nil (by omega)) | (congr 1 <;> omega) | (rw [sl_sl (by omega)]; congr 1 <;> omega)) (lc (show (sl bs 45 61) = sl bs 45 61 from by first | rfl | (exact sl_nil (by omega)) | (congr 1 <;> omega) | (rw [sl_sl (by omega)]; congr 1 <;> omega)) (lc (show (sl bs 77 93) = sl bs 77 93 from by first | rfl | (exact sl_nil (by omega)) | (congr 1 <;> omega) | (rw [sl_sl (by omega)]; congr 1 <;> omega)) (lc rfl rfl)))) rfl (show (sl bs 95 n) = sl bs 95 n from by first | rfl | (exact sl_nil (by omega)) | (congr 1 <;> omega) | (rw [sl_sl (by omega)]; congr 1 <;> omega)))⟩

theorem eapolkey_I3 (w : World) (A : Option Addr) (n : Nat) (c : Nat) (bs : List UInt8) (hn : n ≤ 400) (ha : 95 ≤ n) (hb : bN bs 93 2 ≤ n - 95) (hc : bN bs 1 2 / 4096 % 2 = 0) (hst : St w [] [] [Byt A n c bs] w) : Calls Tryz.prog 27 #[(.string ⟨#[101, 97, 112, 111, 108, 107, 101, 121]⟩), (.slice A n c)] w (IP w (Byt A n c bs) (some (some ⟨[nb bs 0, (bN bs 1 2) &&& 7, ((bN bs 1 2) / 8) &&& 1, ((bN bs 1 2) / 16) &&& 3, ((bN bs 1 2) / 64) &&& 1, ((bN bs 1 2) / 128) &&& 1, ((bN bs 1 2) / 256) &&& 1, ((bN bs 1 2) / 512) &&& 1, ((bN bs 1 2) / 1024) &&& 1, ((bN bs 1 2) / 2048) &&& 1, ((bN bs 1 2) / 4096) &&& 1, ((bN bs 1 2) / 8192) &&& 1, bN bs 3 2, bN bs 5 8, bN bs 61 8, bN bs 69 8, bN bs 93 2], [sl bs 13 45, sl bs 45 61, sl bs 77 93, []], [], sl bs 95 n⟩))) := by
  have hnc00 : n ≤ c := (hst.fact (j := 0) rfl).2.1
  refine enter (vs := [(.string ⟨#[101, 97, 112, 111, 108, 107, 101, 121]⟩), (.slice A n c)]) Tryz.func27 rfl rfl rfl hst ?_
  refine HT.seq ?_
  refine HT.plain ?_
  refine sl_ (l_alloc (by decide) zero_29 fun b4 => ?_)
  refine sq (St.closed _ _ _ _) (q_assign rfl) rfl ?_
  refine send ?_
  refine eseq ?_
  refine HT.seq ?_
  refine HT.plain ?_
  refine sq (St.closed _ _ _ _) (q_move rfl) rfl ?_
  refine sq (St.closed _ _ _ _) (q_move rfl) rfl ?_
  refine sl_ (l_callX3 (vs := [(.string ⟨#[101, 97, 112, 111, 108, 107, 101, 121]⟩), (.slice A n c)]) (Kc := []) (Bc := [Byt A n c bs]) [] [0] [Byt A n c bs] (fun b7 A5 c5 => [⟨b4, 29, [some (.slice none 0 0), some (.slice none 0 0), some (.slice none 0 0), some (.slice none 0 0)], true⟩, ⟨b7, 104, [some (.slice (cutA A5 c5 0) (95 - 0) (c5 - 0)), some (.slice (cutA A5 c5 95) (n - 95) (c5 - 95)), some (.int .u8 ((nb bs 0 : Nat) : Int)), some (.int .u8 (((bN bs 1 2) &&& 7 : Nat) : Int)), some (.int .u8 ((((bN bs 1 2) &&& 8) / 8 : Nat) : Int)), some (.int .u8 ((((bN bs 1 2) &&& 48) / 16 : Nat) : Int)), some (.bool (decide ((bN bs 1 2) &&& 64 ≠ 0))), some (.bool (decide ((bN bs 1 2) &&& 128 ≠ 0))), some (.bool (decide ((bN bs 1 2) &&& 256 ≠ 0))), some (.bool (decide ((bN bs 1 2) &&& 512 ≠ 0))), some (.bool (decide ((bN bs 1 2) &&& 1024 ≠ 0))), some (.bool (decide ((bN bs 1 2) &&& 2048 ≠ 0))), some (.bool false), some (.bool (decide ((bN bs 1 2) &&& 8192 ≠ 0))), some (.int .u16 ((bN bs 3 2 : Nat) : Int)), some (.int .u64 ((bN bs 5 8 : Nat) : Int)), some (.slice (cutA A5 c5 13) (45 - 13) (c5 - 13)), some (.slice (cutA A5 c5 45) (61 - 45) (c5 - 45)), some (.int .u64 ((bN bs 61 8 : Nat) : Int)), some (.int .u64 ((bN bs 69 8 : Nat) : Int)), some (.slice (cutA A5 c5 77) (93 - 77) (c5 - 77)), some (.int .u16 ((bN bs 93 2 : Nat) : Int)), some (.slice none 0 0)], true⟩]) (fun b7 A5 c5 => [Byt A n c bs, Byt A5 n c5 bs]) (by decide) rfl ca_46 (fun _ h => h) rfl rfl rfl rfl (fun w h => eapolkey_e3 w A n c bs (by omega) (by omega) (by omega) (by omega) h) (fun _ _ _ => rfl) (fun _ _ _ => rfl) (fun _ _ _ => rfl) (fun _ _ _ => rfl) fun b7 A5 c5 hf1 he2 => ?_)
  have hnc3 : n ≤ c5 := by obtain ⟨w, h⟩ := he2; exact (h _ List.mem_cons_self).2.1
  refine sq (St.closed _ _ _ _) (q_move rfl) rfl ?_
  refine sq (St.closed _ _ _ _) (q_extract (vs := [(.iface 99 (.pointer (some ⟨b7, 0, none⟩))), (.bool true)]) (i := 0) rfl rfl) rfl ?_
  refine sq (St.closed _ _ _ _) (q_extract (vs := [(.iface 99 (.pointer (some ⟨b7, 0, none⟩))), (.bool true)]) (i := 1) rfl rfl) rfl ?_
  refine sq (St.closed _ _ _ _) (q_assign rfl) rfl ?_
  refine sq (St.closed _ _ _ _) (q_assign rfl) rfl ?_
  refine send ?_
  refine eseq ?_
  refine HT.seq ?_
  refine HT.seq ?_
  refine HT.plain ?_
  refine sq (St.closed _ _ _ _) (q_move rfl) rfl ?_
  refine sq (St.closed _ _ _ _) (q_not rfl) rfl ?_
  refine send ?_
  refine eseq ?_
  refine HT.no rfl ?_
  refine HT.skip ?_
  refine eseq ?_
  refine HT.seq ?_
  refine HT.plain ?_
  refine sq (St.closed _ _ _ _) (q_move rfl) rfl ?_
  refine sq (St.closed _ _ _ _) (q_move rfl) rfl ?_
  refine sq (St.closed _ _ _ _) (q_invoke (vs := []) (v := (.slice (cutA A5 c5 95) (n - 95) (c5 - 95))) rfl (fun w => me_99_LayerPayload _ w) rfl ca_120 (fun w h => layPay0 w b7 104 _ _ _ (h.ro (j := 1) rfl))) rfl ?_
  refine sl_ (l_callLay (vs := [(.iface 99 (.pointer (some ⟨b7, 0, none⟩))), (.slice (cutA A5 c5 95) (n - 95) (c5 - 95))]) (tup := fun L => .tuple #[L.val, .bool true]) 1 (by decide) rfl ca_47 rfl (fun w h => eapolkey_t3 w A5 n c5 bs b7 (by omega) (by omega) (by omega) (by omega) (h.ro2 (j := 1) rfl (bi := [1]) rfl)) fun L20 hfr hda hoL => ?_)
  refine sq (St.closed _ _ _ _) (q_extract (vs := [(.agg #[(L20.nums.val), (.slice L20.dA L20.dn L20.dc), (.slice L20.pA L20.pn L20.pc), (L20.pay.val)]), (.bool true)]) (i := 0) rfl rfl) rfl ?_
  refine sq (St.closed _ _ _ _) (q_extract (vs := [(.agg #[(L20.nums.val), (.slice L20.dA L20.dn L20.dc), (.slice L20.pA L20.pn L20.pc), (L20.pay.val)]), (.bool true)]) (i := 1) rfl rfl) rfl ?_
  refine sl_ (l_storeAgg (b := b4) (off := 0) (j := 0) (vs := [(L20.nums.val), (.slice L20.dA L20.dn L20.dc), (.slice L20.pA L20.pn L20.pc), (L20.pay.val)]) rfl rfl aggs_29 (by simp [Value.one1]) rfl rfl rfl (Nat.le_of_ble_eq_true rfl) ?_)
  refine sq (St.closed _ _ _ _) (q_assign rfl) rfl ?_
  refine send ?_
  refine eseq ?_
  refine HT.ret ?_
  exact fun a ha w' hw => fin_ ha (resc2 ha Tryz.results27 rfl (ld_ aggs_29 hw (j := 0) rfl rfl (vs := [(L20.nums.val), (.slice L20.dA L20.dn L20.dc), (.slice L20.pA L20.pn L20.pc), (L20.pay.val)]) rfl) rfl) ⟨L20, rfl, hw.pres, ⟨hw.fact (j := 2) rfl, fun i hi => (hfr i hi).elim .inl (fun h => .inl ((hf1 _ List.mem_cons_self) i h))⟩, hda⟩
end Go.Proofs.YtfkaafbeeegenaaGreat.Zed
