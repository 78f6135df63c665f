/- gtp: the package, case 11 -/
import Derived.Test.YtfkaafbeeegenaaGreatGtp0
import Derived.KernelRfl
namespace Go.Proofs.YtfkaafbeeegenaaGreat.Zed
set_option linter.unusedVariables false
set_option linter.unusedSimpArgs false
set_option maxRecDepth 100000
set_option maxHeartbeats 4000000


theorem gtp_q11 (w : World) (A : Option Addr) (n : Nat) (c : Nat) (bs : List UInt8) (hn : n ≤ 400) (ha : 8 ≤ n) (hb : bN bs 2 2 ≤ n - 8) (hc : 12 ≤ n) (hd : 4 ≤ bN bs 2 2) (he : nb bs 0 % 8 = 3) (hst : St w [] [] [Byt A n c bs] w) : Calls Tryz.prog 65 #[(.slice A n c)] w (fun e w' => e = .returned (.bool true) ∧ Pres [] w w') := by
  have hnc00 : n ≤ c := (hst.fact (j := 0) rfl).2.1
  refine enter (vs := [(.slice A n c)]) Tryz.func65 rfl rfl rfl hst ?_
  refine HT.seq ?_
  refine HT.plain ?_
  refine sAs rfl rfl ?_
  refine send ?_
  refine eseq ?_
  refine HT.seq ?_
  refine HT.seq ?_
  refine HT.plain ?_
  refine sMv rfl rfl ?_
  refine sqS (q_len (len := n) rfl Tryz.underlying22) rfl ?_
  refine sqS (q_F (q_lt (p := n) (q := 12) rfl rfl) (by omega)) rfl ?_
  refine sMv rfl rfl ?_
  refine sgqS rfl (q_move rfl) rfl ?_
  refine sgqS rfl (q_index (i := 0) (j := 0) rfl rfl Tryz.underlying22 nagg_5 (fun _ h => h) rfl (by omega)) rfl ?_
  refine sgqS rfl (q_byte (i := 0) (j := 0) rfl nagg_5 (fun _ h => h) rfl (by omega)) rfl ?_
  refine sgqS rfl (q_and (p := nb bs 0) (q := 4) rfl rfl rfl (show nb bs 0 < 256 by have := nb_lt bs 0; omega) (by decide)) rfl ?_
  refine sgqS rfl (q_T (q_eq (p := (nb bs 0) &&& 4) (q := 0) rfl rfl) (by have := nb_lt bs 0; have := zb4 (nb bs 0); have := Nat.and_le_left (n := nb bs 0) (m := 4); have := Nat.and_le_right (n := nb bs 0) (m := 4); omega)) rfl ?_
  refine sqS (q_pick rfl (fun h => nomatch h) (fun _ => rfl)) rfl ?_
  refine send ?_
  refine eseq ?_
  refine HT.yes rfl ?_
  refine HT.seq ?_
  refine HT.plain ?_
  refine sAs rfl rfl ?_
  refine send ?_
  refine eseq ?_
  refine HT.ret ?_
  refine rt_then ?_
  exact fun a ha w' hw => fin_ ha (res1 ha Tryz.results65 rfl) ⟨rfl, hw.pres⟩

theorem gtp_c11 (w : World) (A : Option Addr) (n : Nat) (c : Nat) (bs : List UInt8) (hn : n ≤ 400) (ha : 8 ≤ n) (hb : bN bs 2 2 ≤ n - 8) (hc : 12 ≤ n) (hd : 4 ≤ bN bs 2 2) (he : nb bs 0 % 8 = 3) (hst : St w [] [] [Byt A n c bs] w) : Calls Tryz.prog 57 #[(.string ⟨#[103, 116, 112]⟩), (.slice A n c)] w (fun e w' => e = .returned (.bool true) ∧ Pres [] w w') := by
  have hnc00 : n ≤ c := (hst.fact (j := 0) rfl).2.1
  refine enter (vs := [(.string ⟨#[103, 116, 112]⟩), (.slice A n c)]) Tryz.func57 rfl rfl rfl hst ?_
  refine HT.seq ?_
  refine HT.plain ?_
  refine sAs rfl rfl ?_
  refine send ?_
  refine eseq ?_
  refine HT.seq ?_
  refine HT.seq ?_
  refine HT.plain ?_
  refine sMv rfl rfl ?_
  refine send ?_
  refine eseq ?_
  refine HT.block ?_
  refine HT.seq ?_
  refine HT.plain ?_
  refine sqS (q_eqs rfl rfl (r := false) (by kernel_rfl)) rfl ?_
  refine sAs rfl rfl ?_
  refine send ?_
  refine eseq ?_
  refine HT.no rfl ?_
  refine HT.seq ?_
  refine HT.plain ?_
  refine sqS (q_eqs rfl rfl (r := false) (by kernel_rfl)) rfl ?_
  refine sAs rfl rfl ?_
  refine send ?_
  refine eseq ?_
  refine HT.no rfl ?_
  refine HT.seq ?_
  refine HT.plain ?_
  refine sqS (q_eqs rfl rfl (r := false) (by kernel_rfl)) rfl ?_
  refine sAs rfl rfl ?_
  refine send ?_
  refine eseq ?_
  refine HT.no rfl ?_
  refine HT.seq ?_
  refine HT.plain ?_
  refine sqS (q_eqs rfl rfl (r := false) (by kernel_rfl)) rfl ?_
  refine sAs rfl rfl ?_
  refine send ?_
  refine eseq ?_
  refine HT.no rfl ?_
  refine HT.seq ?_
  refine HT.plain ?_
  refine sqS (q_eqs rfl rfl (r := false) (by kernel_rfl)) rfl ?_
  refine sAs rfl rfl ?_
  refine send ?_
  refine eseq ?_
  refine HT.no rfl ?_
  refine HT.seq ?_
  refine HT.seq ?_
  refine HT.plain ?_
  refine sqS (q_eqs rfl rfl (r := false) (by kernel_rfl)) rfl ?_
  refine sAs rfl rfl ?_
  refine send ?_
  refine eseq ?_
  refine HT.no rfl ?_
  refine HT.seq ?_
  refine HT.plain ?_
  refine sqS (q_eqs rfl rfl (r := false) (by kernel_rfl)) rfl ?_
  refine sAs rfl rfl ?_
  refine send ?_
  refine eseq ?_
  refine HT.no rfl ?_
  refine HT.plain ?_
  refine sqS (q_eqs rfl rfl (r := false) (by kernel_rfl)) rfl ?_
  refine sAs rfl rfl ?_
  refine send ?_
  refine eseq ?_
  refine HT.no rfl ?_
  refine HT.seq ?_
  refine HT.plain ?_
  refine sqS (q_eqs rfl rfl (r := false) (by kernel_rfl)) rfl ?_
  refine sAs rfl rfl ?_
  refine send ?_
  refine eseq ?_
  refine HT.no rfl ?_
  refine HT.seq ?_
  refine HT.plain ?_
  refine sqS (q_eqs rfl rfl (r := false) (by kernel_rfl)) rfl ?_
  refine sAs rfl rfl ?_
  refine send ?_
  refine eseq ?_
  refine HT.no rfl ?_
  refine HT.seq ?_
  refine HT.plain ?_
  refine sqS (q_eqs rfl rfl (r := false) (by kernel_rfl)) rfl ?_
  refine sAs rfl rfl ?_
  refine send ?_
  refine eseq ?_
  refine HT.no rfl ?_
  refine HT.seq ?_
  refine HT.plain ?_
  refine sqS (q_eqs rfl rfl (r := true) (by kernel_rfl)) rfl ?_
  refine sAs rfl rfl ?_
  refine send ?_
  refine eseq ?_
  refine HT.yes rfl ?_
  refine HT.seq ?_
  refine HT.plain ?_
  refine sMv rfl rfl ?_
  refine sqS (q_call (vs := [(.slice A n c)]) (v := (.bool true)) rfl ca_65 (fun w h => gtp_q11 w A n c bs (by omega) (by omega) (by omega) (by omega) (by omega) (by omega) (St.enter (sp := []) (Kc := []) (bi := [0]) h rfl rfl rfl))) rfl ?_
  refine sAs rfl rfl ?_
  refine send ?_
  refine eseq ?_
  refine HT.ret ?_
  refine rt_in ?_
  refine rt_then ?_
  exact fun a ha w' hw => fin_ ha (res1 ha Tryz.results57 rfl) ⟨rfl, hw.pres⟩

theorem gtp_m1_11 (w : World) (A : Option Addr) (n : Nat) (c : Nat) (bs : List UInt8) (rb : Nat) (kb : Nat) (hn : n ≤ 400) (ha : 8 ≤ n) (hb : bN bs 2 2 ≤ n - 8) (hc : 12 ≤ n) (hd : 4 ≤ bN bs 2 2) (he : nb bs 0 % 8 = 3) (hst : St w [rb] [⟨rb, 124, [some (.slice none 0 0), some (.slice none 0 0), some (.int .u8 ((0 : Nat) : Int)), some (.int .u8 ((0 : Nat) : Int)), some (.int .u8 ((0 : Nat) : Int)), some (.bool false), some (.bool false), some (.bool false), some (.int .u8 ((0 : Nat) : Int)), some (.int .u16 ((0 : Nat) : Int)), some (.int .u32 ((0 : Nat) : Int)), some (.int .u16 ((0 : Nat) : Int)), some (.int .u8 ((0 : Nat) : Int)), some (.slice none 0 0)], true⟩] [Byt A n c bs] w) : Calls Tryz.prog 98 #[(.pointer (some ⟨rb, 0, none⟩)), (.slice A n c), (.iface 199 (.pointer (some ⟨kb, 0, none⟩)))] w (CP0 w [rb] [Byt A n c bs] (.nilIface) ([⟨rb, 124, [some (.slice (cutA A c 0) (12 - 0) (c - 0)), some (.slice (cutA A c 12) (n - 12) (c - 12)), some (.int .u8 ((((nb bs 0) / 32) &&& 7 : Nat) : Int)), some (.int .u8 ((((nb bs 0) / 16) &&& 1 : Nat) : Int)), some (.int .u8 ((((nb bs 0) / 8) &&& 1 : Nat) : Int)), some (.bool false), some (.bool true), some (.bool true), some (.int .u8 ((nb bs 1 : Nat) : Int)), some (.int .u16 ((bN bs 2 2 : Nat) : Int)), some (.int .u32 ((bN bs 4 4 : Nat) : Int)), some (.int .u16 ((bN bs 8 2 : Nat) : Int)), some (.int .u8 ((nb bs 10 : Nat) : Int)), some (.slice none 0 0)], true⟩]) ([])) := by
  have hnc00 : n ≤ c := (hst.fact (j := 0) rfl).2.1
  refine enter (vs := [(.pointer (some ⟨rb, 0, none⟩)), (.slice A n c), (.iface 199 (.pointer (some ⟨kb, 0, none⟩)))]) Tryz.func98 rfl rfl rfl hst ?_
  refine HT.seq ?_
  refine HT.plain ?_
  refine sAs rfl rfl ?_
  refine send ?_
  refine eseq ?_
  refine HT.seq ?_
  refine HT.plain ?_
  refine sAs rfl rfl ?_
  refine send ?_
  refine eseq ?_
  refine HT.seq ?_
  refine HT.plain ?_
  refine sMv rfl rfl ?_
  refine sqS (q_len (len := n) rfl Tryz.underlying22) rfl ?_
  refine sAs rfl rfl ?_
  refine send ?_
  refine eseq ?_
  refine HT.seq ?_
  refine HT.seq ?_
  refine HT.plain ?_
  refine sMv rfl rfl ?_
  refine sMv rfl rfl ?_
  refine sqS (q_F (q_lt (p := n) (q := 8) rfl rfl) (by omega)) rfl ?_
  refine send ?_
  refine eseq ?_
  refine HT.no rfl ?_
  refine HT.skip ?_
  refine eseq ?_
  refine HT.seq ?_
  refine HT.plain ?_
  refine sMv rfl rfl ?_
  refine sMv rfl rfl ?_
  refine sqS (q_index (i := 0) (j := 0) rfl rfl Tryz.underlying22 nagg_5 (fun _ h => h) rfl (by omega)) rfl ?_
  refine sqS (q_byte (i := 0) (j := 0) rfl nagg_5 (fun _ h => h) rfl (by omega)) rfl ?_
  refine sqS (q_shr (p := nb bs 0) (e := 5) (N := 32) rfl rfl (by decide) rfl) rfl ?_
  refine sqS (q_and (p := (nb bs 0) / 32) (q := 7) rfl rfl rfl (show (nb bs 0) / 32 < 256 by have := nb_lt bs 0; omega) (by decide)) rfl ?_
  refine sqS (q_nil rfl) rfl ?_
  refine sqS (q_field (b := rb) (off := 0) rfl fo_124_1) rfl ?_
  refine sl_ (l_store (b := rb) (off := 2) (j := 0) rfl rfl nagg_5 rfl rfl rfl rfl (dlt rfl) ?_)
  refine send ?_
  refine eseq ?_
  refine HT.seq ?_
  refine HT.plain ?_
  refine sMv rfl rfl ?_
  refine sMv rfl rfl ?_
  refine sqS (q_index (i := 0) (j := 0) rfl rfl Tryz.underlying22 nagg_5 (fun _ h => h) rfl (by omega)) rfl ?_
  refine sqS (q_byte (i := 0) (j := 0) rfl nagg_5 (fun _ h => h) rfl (by omega)) rfl ?_
  refine sqS (q_shr (p := nb bs 0) (e := 4) (N := 16) rfl rfl (by decide) rfl) rfl ?_
  refine sqS (q_and (p := (nb bs 0) / 16) (q := 1) rfl rfl rfl (show (nb bs 0) / 16 < 256 by have := nb_lt bs 0; omega) (by decide)) rfl ?_
  refine sqS (q_nil rfl) rfl ?_
  refine sqS (q_field (b := rb) (off := 0) rfl fo_124_2) rfl ?_
  refine sl_ (l_store (b := rb) (off := 3) (j := 0) rfl rfl nagg_5 rfl rfl rfl rfl (dlt rfl) ?_)
  refine send ?_
  refine eseq ?_
  refine HT.seq ?_
  refine HT.plain ?_
  refine sMv rfl rfl ?_
  refine sMv rfl rfl ?_
  refine sqS (q_index (i := 0) (j := 0) rfl rfl Tryz.underlying22 nagg_5 (fun _ h => h) rfl (by omega)) rfl ?_
  refine sqS (q_byte (i := 0) (j := 0) rfl nagg_5 (fun _ h => h) rfl (by omega)) rfl ?_
  refine sqS (q_shr (p := nb bs 0) (e := 3) (N := 8) rfl rfl (by decide) rfl) rfl ?_
  refine sqS (q_and (p := (nb bs 0) / 8) (q := 1) rfl rfl rfl (show (nb bs 0) / 8 < 256 by have := nb_lt bs 0; omega) (by decide)) rfl ?_
  refine sqS (q_nil rfl) rfl ?_
  refine sqS (q_field (b := rb) (off := 0) rfl fo_124_3) rfl ?_
  refine sl_ (l_store (b := rb) (off := 4) (j := 0) rfl rfl nagg_5 rfl rfl rfl rfl (dlt rfl) ?_)
  refine send ?_
  refine eseq ?_
  refine HT.seq ?_
  refine HT.plain ?_
  refine sMv rfl rfl ?_
  refine sMv rfl rfl ?_
  refine sqS (q_index (i := 0) (j := 0) rfl rfl Tryz.underlying22 nagg_5 (fun _ h => h) rfl (by omega)) rfl ?_
  refine sqS (q_byte (i := 0) (j := 0) rfl nagg_5 (fun _ h => h) rfl (by omega)) rfl ?_
  refine sqS (q_shr (p := nb bs 0) (e := 1) (N := 2) rfl rfl (by decide) rfl) rfl ?_
  refine sqS (q_and (p := (nb bs 0) / 2) (q := 1) rfl rfl rfl (show (nb bs 0) / 2 < 256 by have := nb_lt bs 0; omega) (by decide)) rfl ?_
  refine sqS (q_T (q_eq (p := ((nb bs 0) / 2) &&& 1) (q := 1) rfl rfl) (by have := nb_lt bs 0; have := zm1 ((nb bs 0) / 2); have := Nat.and_le_left (n := (nb bs 0) / 2) (m := 1); have := Nat.and_le_right (n := (nb bs 0) / 2) (m := 1); omega)) rfl ?_
  refine sqS (q_nil rfl) rfl ?_
  refine sqS (q_field (b := rb) (off := 0) rfl fo_124_5) rfl ?_
  refine sl_ (l_store (b := rb) (off := 6) (j := 0) rfl rfl nagg_4 rfl rfl rfl rfl (dlt rfl) ?_)
  refine send ?_
  refine eseq ?_
  refine HT.seq ?_
  refine HT.plain ?_
  refine sMv rfl rfl ?_
  refine sMv rfl rfl ?_
  refine sqS (q_index (i := 0) (j := 0) rfl rfl Tryz.underlying22 nagg_5 (fun _ h => h) rfl (by omega)) rfl ?_
  refine sqS (q_byte (i := 0) (j := 0) rfl nagg_5 (fun _ h => h) rfl (by omega)) rfl ?_
  refine sqS (q_and (p := nb bs 0) (q := 1) rfl rfl rfl (show nb bs 0 < 256 by have := nb_lt bs 0; omega) (by decide)) rfl ?_
  refine sqS (q_T (q_eq (p := (nb bs 0) &&& 1) (q := 1) rfl rfl) (by have := nb_lt bs 0; have := zm1 (nb bs 0); have := Nat.and_le_left (n := nb bs 0) (m := 1); have := Nat.and_le_right (n := nb bs 0) (m := 1); omega)) rfl ?_
  refine sqS (q_nil rfl) rfl ?_
  refine sqS (q_field (b := rb) (off := 0) rfl fo_124_6) rfl ?_
  refine sl_ (l_store (b := rb) (off := 7) (j := 0) rfl rfl nagg_4 rfl rfl rfl rfl (dlt rfl) ?_)
  refine send ?_
  refine eseq ?_
  refine HT.seq ?_
  refine HT.plain ?_
  refine sMv rfl rfl ?_
  refine sMv rfl rfl ?_
  refine sqS (q_index (i := 0) (j := 0) rfl rfl Tryz.underlying22 nagg_5 (fun _ h => h) rfl (by omega)) rfl ?_
  refine sqS (q_byte (i := 0) (j := 0) rfl nagg_5 (fun _ h => h) rfl (by omega)) rfl ?_
  refine sqS (q_shr (p := nb bs 0) (e := 2) (N := 4) rfl rfl (by decide) rfl) rfl ?_
  refine sqS (q_and (p := (nb bs 0) / 4) (q := 1) rfl rfl rfl (show (nb bs 0) / 4 < 256 by have := nb_lt bs 0; omega) (by decide)) rfl ?_
  refine sqS (q_F (q_eq (p := ((nb bs 0) / 4) &&& 1) (q := 1) rfl rfl) (by have := nb_lt bs 0; have := zm1 ((nb bs 0) / 4); have := Nat.and_le_left (n := (nb bs 0) / 4) (m := 1); have := Nat.and_le_right (n := (nb bs 0) / 4) (m := 1); omega)) rfl ?_
  refine sqS (q_nil rfl) rfl ?_
  refine sqS (q_field (b := rb) (off := 0) rfl fo_124_4) rfl ?_
  refine sl_ (l_store (b := rb) (off := 5) (j := 0) rfl rfl nagg_4 rfl rfl rfl rfl (dlt rfl) ?_)
  refine send ?_
  refine eseq ?_
  refine HT.seq ?_
  refine HT.plain ?_
  refine sMv rfl rfl ?_
  refine sMv rfl rfl ?_
  refine sqS (q_index (i := 1) (j := 0) rfl rfl Tryz.underlying22 nagg_5 (fun _ h => h) rfl (by omega)) rfl ?_
  refine sqS (q_byte (i := 1) (j := 0) rfl nagg_5 (fun _ h => h) rfl (by omega)) rfl ?_
  refine sqS (q_nil rfl) rfl ?_
  refine sqS (q_field (b := rb) (off := 0) rfl fo_124_7) rfl ?_
  refine sl_ (l_store (b := rb) (off := 8) (j := 0) rfl rfl nagg_5 rfl rfl rfl rfl (dlt rfl) ?_)
  refine send ?_
  refine eseq ?_
  refine HT.seq ?_
  refine HT.drawn mixed (St.closed _ _ _ _) (St w [rb] [⟨rb, 124, [some (.slice none 0 0), some (.slice none 0 0), some (.int .u8 ((((nb bs 0) / 32) &&& 7 : Nat) : Int)), some (.int .u8 ((((nb bs 0) / 16) &&& 1 : Nat) : Int)), some (.int .u8 ((((nb bs 0) / 8) &&& 1 : Nat) : Int)), some (.bool false), some (.bool true), some (.bool true), some (.int .u8 ((nb bs 1 : Nat) : Int)), none, some (.int .u32 ((0 : Nat) : Int)), some (.int .u16 ((0 : Nat) : Int)), some (.int .u8 ((0 : Nat) : Int)), some (.slice none 0 0)], true⟩] [Byt A n c bs]) ?_
  refine dtake (f := 1) [0, 1, 2, 3, 4, 5, 6] (by kernel_rfl) (St.closed _ _ _ _) (fun _ h => (h.wk [(0, [9])] rfl)) (by kernel_rfl) ?_
  refine dq rfl (q_move rfl) ?_
  refine dq rfl (q_loadEmpty rfl aggs_210) ?_
  refine dq rfl (q_move rfl) ?_
  refine dq rfl (q_slice (lo := 2) (hi := 4) rfl Tryz.underlying22 nagg_5 (.inr ⟨_, _, rfl, rfl⟩) (.inr ⟨_, _, rfl, rfl⟩) (by omega) (by omega)) ?_
  refine dq rfl (q_call (vs := [(.agg #[]), (.slice (cutA A c 2) (4 - 2) (c - 2))]) (v := (.int .u16 ((bN bs 2 2 : Nat) : Int))) rfl ca_91 (fun w h => U16 w A n c bs (lo := 2) (hi := 4) (h.fact (j := 0) rfl) (by omega) (by omega))) ?_
  refine dq rfl (q_nil rfl) ?_
  refine dq rfl (q_field (b := rb) (off := 0) rfl fo_124_8) ?_
  refine QL.nil ?_
  refine RG.step1 7 (by kernel_rfl) ?_
  refine dop rfl (l_store (b := rb) (off := 9) (j := 0) rfl rfl nagg_70 rfl rfl rfl rfl (dlt rfl) ⟨(fun _ h => (h.wk [(0, [9])] rfl)), ?_⟩)
  refine dend (by kernel_rfl) ?_
  refine eseq ?_
  refine HT.seq ?_
  refine HT.plain ?_
  refine sMv rfl rfl ?_
  refine sqS (q_nil rfl) rfl ?_
  refine sqS (q_field (b := rb) (off := 0) rfl fo_124_8) rfl ?_
  refine sqS (q_load (b := rb) (off := 9) (j := 0) rfl nagg_70 (fun _ h => h) rfl rfl rfl) rfl ?_
  refine sqS (q_add (p := 8) (q := bN bs 2 2) rfl rfl (show 8 + (bN bs 2 2) < 65536 by have := bN_lt bs 2 2 65536 rfl; omega)) rfl ?_
  refine sAs rfl rfl ?_
  refine send ?_
  refine eseq ?_
  refine HT.seq ?_
  refine HT.seq ?_
  refine HT.plain ?_
  refine sMv rfl rfl ?_
  refine sqS (q_convn (p := n) rfl Tryz.underlying3 Tryz.underlying70 (show n < 65536 by omega)) rfl ?_
  refine sMv rfl rfl ?_
  refine sqS (q_F (q_lt (p := n) (q := 8 + (bN bs 2 2)) rfl rfl) (by have := bN_lt bs 2 2 65536 rfl; omega)) rfl ?_
  refine send ?_
  refine eseq ?_
  refine HT.no rfl ?_
  refine HT.skip ?_
  refine eseq ?_
  refine HT.seq ?_
  refine HT.drawn mixed (St.closed _ _ _ _) (St w [rb] [⟨rb, 124, [some (.slice none 0 0), some (.slice none 0 0), some (.int .u8 ((((nb bs 0) / 32) &&& 7 : Nat) : Int)), some (.int .u8 ((((nb bs 0) / 16) &&& 1 : Nat) : Int)), some (.int .u8 ((((nb bs 0) / 8) &&& 1 : Nat) : Int)), some (.bool false), some (.bool true), some (.bool true), some (.int .u8 ((nb bs 1 : Nat) : Int)), some (.int .u16 ((bN bs 2 2 : Nat) : Int)), none, some (.int .u16 ((0 : Nat) : Int)), some (.int .u8 ((0 : Nat) : Int)), some (.slice none 0 0)], true⟩] [Byt A n c bs]) ?_
  refine dtake (f := 1) [0, 1, 2, 3, 4, 5, 6] (by kernel_rfl) (St.closed _ _ _ _) (fun _ h => (h.wk [(0, [10])] rfl)) (by kernel_rfl) ?_
  refine dq rfl (q_move rfl) ?_
  refine dq rfl (q_loadEmpty rfl aggs_210) ?_
  refine dq rfl (q_move rfl) ?_
  refine dq rfl (q_slice (lo := 4) (hi := 8) rfl Tryz.underlying22 nagg_5 (.inr ⟨_, _, rfl, rfl⟩) (.inr ⟨_, _, rfl, rfl⟩) (by omega) (by omega)) ?_
  refine dq rfl (q_call (vs := [(.agg #[]), (.slice (cutA A c 4) (8 - 4) (c - 4))]) (v := (.int .u32 ((bN bs 4 4 : Nat) : Int))) rfl ca_97 (fun w h => U32 w A n c bs (lo := 4) (hi := 8) (h.fact (j := 0) rfl) (by omega) (by omega))) ?_
  refine dq rfl (q_nil rfl) ?_
  refine dq rfl (q_field (b := rb) (off := 0) rfl fo_124_9) ?_
  refine QL.nil ?_
  refine RG.step1 7 (by kernel_rfl) ?_
  refine dop rfl (l_store (b := rb) (off := 10) (j := 0) rfl rfl nagg_111 rfl rfl rfl rfl (dlt rfl) ⟨(fun _ h => (h.wk [(0, [10])] rfl)), ?_⟩)
  refine dend (by kernel_rfl) ?_
  refine eseq ?_
  refine HT.seq ?_
  refine HT.plain ?_
  refine sMv rfl rfl ?_
  refine sqS (q_convn (p := 8) rfl Tryz.underlying3 Tryz.underlying70 (by decide)) rfl ?_
  refine sAs rfl rfl ?_
  refine send ?_
  refine eseq ?_
  refine HT.seq ?_
  refine HT.seq ?_
  refine HT.plain ?_
  refine sMv rfl rfl ?_
  refine sqS (q_nil rfl) rfl ?_
  refine sqS (q_field (b := rb) (off := 0) rfl fo_124_5) rfl ?_
  refine sqS (q_load (b := rb) (off := 6) (j := 0) rfl nagg_4 (fun _ h => h) rfl rfl rfl) rfl ?_
  refine sMv rfl rfl ?_
  refine sskip rfl rfl ?_
  refine sskip rfl rfl ?_
  refine sskip rfl rfl ?_
  refine sskip rfl rfl ?_
  refine sqS (q_pick rfl (fun _ => rfl) (fun h => nomatch h)) rfl ?_
  refine sMv rfl rfl ?_
  refine sskip rfl rfl ?_
  refine sskip rfl rfl ?_
  refine sskip rfl rfl ?_
  refine sskip rfl rfl ?_
  refine sqS (q_pick rfl (fun _ => rfl) (fun h => nomatch h)) rfl ?_
  refine send ?_
  refine eseq ?_
  refine HT.yes rfl ?_
  refine HT.seq ?_
  refine HT.plain ?_
  refine sMv rfl rfl ?_
  refine sqS (q_N (q_add (p := 8) (q := 4) rfl rfl (by decide)) (a := 8 + 4) (b := 12) (by simp)) rfl ?_
  refine sAs rfl rfl ?_
  refine send ?_
  refine eseq ?_
  refine HT.seq ?_
  refine HT.plain ?_
  refine sMv rfl rfl ?_
  refine sqS (q_N (q_add (p := 8) (q := 4) rfl rfl (by decide)) (a := 8 + 4) (b := 12) (by simp)) rfl ?_
  refine sAs rfl rfl ?_
  refine send ?_
  refine eseq ?_
  refine HT.seq ?_
  refine HT.seq ?_
  refine HT.plain ?_
  refine sMv rfl rfl ?_
  refine sMv rfl rfl ?_
  refine sqS (q_F (q_lt (p := n) (q := 12) rfl rfl) (by omega)) rfl ?_
  refine send ?_
  refine eseq ?_
  refine HT.no rfl ?_
  refine HT.skip ?_
  refine eseq ?_
  refine HT.seq ?_
  refine HT.seq ?_
  refine HT.plain ?_
  refine sMv rfl rfl ?_
  refine sqS (q_nil rfl) rfl ?_
  refine sqS (q_field (b := rb) (off := 0) rfl fo_124_5) rfl ?_
  refine sqS (q_load (b := rb) (off := 6) (j := 0) rfl nagg_4 (fun _ h => h) rfl rfl rfl) rfl ?_
  refine send ?_
  refine eseq ?_
  refine HT.yes rfl ?_
  refine HT.drawn mixed (St.closed _ _ _ _) (St w [rb] [⟨rb, 124, [some (.slice none 0 0), some (.slice none 0 0), some (.int .u8 ((((nb bs 0) / 32) &&& 7 : Nat) : Int)), some (.int .u8 ((((nb bs 0) / 16) &&& 1 : Nat) : Int)), some (.int .u8 ((((nb bs 0) / 8) &&& 1 : Nat) : Int)), some (.bool false), some (.bool true), some (.bool true), some (.int .u8 ((nb bs 1 : Nat) : Int)), some (.int .u16 ((bN bs 2 2 : Nat) : Int)), some (.int .u32 ((bN bs 4 4 : Nat) : Int)), none, some (.int .u8 ((0 : Nat) : Int)), some (.slice none 0 0)], true⟩] [Byt A n c bs]) ?_
  refine dtake (f := 1) [0, 1, 2, 3, 4, 5, 6] (by kernel_rfl) (St.closed _ _ _ _) (fun _ h => (h.wk [(0, [11])] rfl)) (by kernel_rfl) ?_
  refine dq rfl (q_move rfl) ?_
  refine dq rfl (q_loadEmpty rfl aggs_210) ?_
  refine dq rfl (q_move rfl) ?_
  refine dq rfl (q_slice (lo := 8) (hi := 10) rfl Tryz.underlying22 nagg_5 (.inr ⟨_, _, rfl, rfl⟩) (.inr ⟨_, _, rfl, rfl⟩) (by omega) (by omega)) ?_
  refine dq rfl (q_call (vs := [(.agg #[]), (.slice (cutA A c 8) (10 - 8) (c - 8))]) (v := (.int .u16 ((bN bs 8 2 : Nat) : Int))) rfl ca_91 (fun w h => U16 w A n c bs (lo := 8) (hi := 10) (h.fact (j := 0) rfl) (by omega) (by omega))) ?_
  refine dq rfl (q_nil rfl) ?_
  refine dq rfl (q_field (b := rb) (off := 0) rfl fo_124_10) ?_
  refine QL.nil ?_
  refine RG.step1 7 (by kernel_rfl) ?_
  refine dop rfl (l_store (b := rb) (off := 11) (j := 0) rfl rfl nagg_70 rfl rfl rfl rfl (dlt rfl) ⟨(fun _ h => (h.wk [(0, [11])] rfl)), ?_⟩)
  refine dend (by kernel_rfl) ?_
  refine eseq ?_
  refine HT.seq ?_
  refine HT.seq ?_
  refine HT.plain ?_
  refine sMv rfl rfl ?_
  refine sqS (q_nil rfl) rfl ?_
  refine sqS (q_field (b := rb) (off := 0) rfl fo_124_6) rfl ?_
  refine sqS (q_load (b := rb) (off := 7) (j := 0) rfl nagg_4 (fun _ h => h) rfl rfl rfl) rfl ?_
  refine send ?_
  refine eseq ?_
  refine HT.yes rfl ?_
  refine HT.plain ?_
  refine sMv rfl rfl ?_
  refine sMv rfl rfl ?_
  refine sqS (q_index (i := 10) (j := 0) rfl rfl Tryz.underlying22 nagg_5 (fun _ h => h) rfl (by omega)) rfl ?_
  refine sqS (q_byte (i := 10) (j := 0) rfl nagg_5 (fun _ h => h) rfl (by omega)) rfl ?_
  refine sqS (q_nil rfl) rfl ?_
  refine sqS (q_field (b := rb) (off := 0) rfl fo_124_11) rfl ?_
  refine sl_ (l_store (b := rb) (off := 12) (j := 0) rfl rfl nagg_5 rfl rfl rfl rfl (dlt rfl) ?_)
  refine send ?_
  refine eseq ?_
  refine HT.seq ?_
  refine HT.plain ?_
  refine sMv rfl rfl ?_
  refine sqS (q_nil rfl) rfl ?_
  refine sqS (q_field (b := rb) (off := 0) rfl fo_124_4) rfl ?_
  refine sqS (q_load (b := rb) (off := 5) (j := 0) rfl nagg_4 (fun _ h => h) rfl rfl rfl) rfl ?_
  refine send ?_
  refine eseq ?_
  refine HT.no rfl ?_
  refine HT.skip ?_
  refine eseq ?_
  refine HT.seq ?_
  refine HT.drawn mixed (St.closed _ _ _ _) (St w [rb] [⟨rb, 124, [none, none, some (.int .u8 ((((nb bs 0) / 32) &&& 7 : Nat) : Int)), some (.int .u8 ((((nb bs 0) / 16) &&& 1 : Nat) : Int)), some (.int .u8 ((((nb bs 0) / 8) &&& 1 : Nat) : Int)), some (.bool false), some (.bool true), some (.bool true), some (.int .u8 ((nb bs 1 : Nat) : Int)), some (.int .u16 ((bN bs 2 2 : Nat) : Int)), some (.int .u32 ((bN bs 4 4 : Nat) : Int)), some (.int .u16 ((bN bs 8 2 : Nat) : Int)), some (.int .u8 ((nb bs 10 : Nat) : Int)), some (.slice none 0 0)], true⟩] [Byt A n c bs]) ?_
  refine dtake (f := 1) [0, 1, 2, 3, 4, 5, 6, 7, 8, 9] (by kernel_rfl) (St.closed _ _ _ _) (fun _ h => (h.wk [(0, [0, 1])] rfl)) (by kernel_rfl) ?_
  refine dq rfl (q_move rfl) ?_
  refine dq rfl (q_move rfl) ?_
  refine dq rfl (q_move rfl) ?_
  refine dq rfl (q_slice (lo := 0) (hi := 12) rfl Tryz.underlying22 nagg_5 (.inl ⟨rfl, rfl⟩) (.inr ⟨_, _, rfl, rfl⟩) (by omega) (by omega)) ?_
  refine dq rfl (q_move rfl) ?_
  refine dq rfl (q_move rfl) ?_
  refine dq rfl (q_slice (lo := 12) (hi := n) rfl Tryz.underlying22 nagg_5 (.inr ⟨_, _, rfl, rfl⟩) (.inl ⟨rfl, rfl⟩) (by omega) (by omega)) ?_
  refine dq rfl (q_build (vs := [(0, (.slice (cutA A c 0) (12 - 0) (c - 0))), (1, (.slice (cutA A c 12) (n - 12) (c - 12)))]) (v := (.agg #[(.slice (cutA A c 0) (12 - 0) (c - 0)), (.slice (cutA A c 12) (n - 12) (c - 12))])) rfl (fun _ => by kernel_rfl)) ?_
  refine dq rfl (q_nil rfl) ?_
  refine dq rfl (q_field (b := rb) (off := 0) rfl fo_124_0) ?_
  refine QL.nil ?_
  refine RG.step1 10 (by kernel_rfl) ?_
  refine dop rfl (l_storeAgg (b := rb) (off := 0) (j := 0) (vs := [(.slice (cutA A c 0) (12 - 0) (c - 0)), (.slice (cutA A c 12) (n - 12) (c - 12))]) rfl rfl aggs_68 (by simp [Value.one1]) rfl rfl rfl (Nat.le_of_ble_eq_true rfl) ⟨(fun _ h => (h.wk [(0, [0, 1])] rfl)), ?_⟩)
  refine dend (by kernel_rfl) ?_
  refine eseq ?_
  refine HT.seq ?_
  refine HT.plain ?_
  refine sAs rfl rfl ?_
  refine send ?_
  refine eseq ?_
  refine HT.ret ?_
  exact fun a ha w' hw => fin_ ha (res1 ha Tryz.results98 rfl) ⟨rfl, hw, fr0⟩

abbrev gtp_d11_k0 (b8 : Nat) (A : Option Addr) (c : Nat) (n : Nat) (bs : List UInt8) : Kb := ⟨b8, 124, [some (.slice (cutA A c 0) (12 - 0) (c - 0)), some (.slice (cutA A c 12) (n - 12) (c - 12)), some (.int .u8 ((((nb bs 0) / 32) &&& 7 : Nat) : Int)), some (.int .u8 ((((nb bs 0) / 16) &&& 1 : Nat) : Int)), some (.int .u8 ((((nb bs 0) / 8) &&& 1 : Nat) : Int)), some (.bool false), some (.bool true), some (.bool true), some (.int .u8 ((nb bs 1 : Nat) : Int)), some (.int .u16 ((bN bs 2 2 : Nat) : Int)), some (.int .u32 ((bN bs 4 4 : Nat) : Int)), some (.int .u16 ((bN bs 8 2 : Nat) : Int)), some (.int .u8 ((nb bs 10 : Nat) : Int)), some (.slice none 0 0)], true⟩

theorem gtp_d11 (w : World) (A : Option Addr) (n : Nat) (c : Nat) (bs : List UInt8) (kb : Nat) (hn : n ≤ 400) (ha : 8 ≤ n) (hb : bN bs 2 2 ≤ n - 8) (hc : 12 ≤ n) (hd : 4 ≤ bN bs 2 2) (he : nb bs 0 % 8 = 3) (hst : St w [kb] [⟨kb, 201, [some .nilIface], true⟩] [Byt A n c bs] w) : Calls Tryz.prog 80 #[(.slice A n c), (.iface 199 (.pointer (some ⟨kb, 0, none⟩)))] w (CP1 w [kb] [Byt A n c bs] (fun b8 => .nilIface) (fun b8 => [⟨kb, 201, [some (.iface 121 (.pointer (some ⟨b8, 0, none⟩)))], true⟩, (gtp_d11_k0 b8 A c n bs)]) (fun b8 => [])) := by
  have hnc00 : n ≤ c := (hst.fact (j := 0) rfl).2.1
  refine enter (vs := [(.slice A n c), (.iface 199 (.pointer (some ⟨kb, 0, none⟩)))]) Tryz.func80 rfl rfl rfl hst ?_
  refine HT.seq ?_
  refine HT.plain ?_
  refine sAs rfl rfl ?_
  refine send ?_
  refine eseq ?_
  refine HT.seq ?_
  refine HT.plain ?_
  refine sqS (q_build (vs := []) (v := (.agg #[(.slice none 0 0), (.slice none 0 0), (.int .u8 ((0 : Nat) : Int)), (.int .u8 ((0 : Nat) : Int)), (.int .u8 ((0 : Nat) : Int)), (.bool false), (.bool false), (.bool false), (.int .u8 ((0 : Nat) : Int)), (.int .u16 ((0 : Nat) : Int)), (.int .u32 ((0 : Nat) : Int)), (.int .u16 ((0 : Nat) : Int)), (.int .u8 ((0 : Nat) : Int)), (.slice none 0 0)])) rfl (fun _ => by kernel_rfl)) rfl ?_
  refine sl_ (l_box (by decide) rfl fun b8 => ?_)
  refine sAs rfl rfl ?_
  refine send ?_
  refine eseq ?_
  refine HT.seq ?_
  refine HT.plain ?_
  refine sMv rfl rfl ?_
  refine sMv rfl rfl ?_
  refine sMv rfl rfl ?_
  refine sl_ (l_callX0 (vs := [(.pointer (some ⟨b8, 0, none⟩)), (.slice A n c), (.iface 199 (.pointer (some ⟨kb, 0, none⟩)))]) (Kc := [⟨b8, 124, [some (.slice none 0 0), some (.slice none 0 0), some (.int .u8 ((0 : Nat) : Int)), some (.int .u8 ((0 : Nat) : Int)), some (.int .u8 ((0 : Nat) : Int)), some (.bool false), some (.bool false), some (.bool false), some (.int .u8 ((0 : Nat) : Int)), some (.int .u16 ((0 : Nat) : Int)), some (.int .u32 ((0 : Nat) : Int)), some (.int .u16 ((0 : Nat) : Int)), some (.int .u8 ((0 : Nat) : Int)), some (.slice none 0 0)], true⟩]) (Bc := [Byt A n c bs]) [1] [0] [Byt A n c bs] ([⟨kb, 201, [some .nilIface], true⟩, (gtp_d11_k0 b8 A c n bs)]) ([Byt A n c bs]) (by decide) rfl ca_98 (fun _ h => h) rfl rfl rfl rfl (fun w h => gtp_m1_11 w A n c bs b8 kb (by omega) (by omega) (by omega) (by omega) (by omega) (by omega) h) rfl rfl rfl rfl fun hf1 he2 => ?_)
  refine sAs rfl rfl ?_
  refine send ?_
  refine eseq ?_
  refine HT.seq ?_
  refine HT.seq ?_
  refine HT.plain ?_
  refine sMv rfl rfl ?_
  refine sqS (q_notNil rfl rfl Tryz.underlying59) rfl ?_
  refine send ?_
  refine eseq ?_
  refine HT.no rfl ?_
  refine HT.skip ?_
  refine eseq ?_
  refine HT.seq ?_
  refine HT.plain ?_
  refine sMv rfl rfl ?_
  refine sMv rfl rfl ?_
  refine sqS (q_iface rfl Tryz.underlying121 (fun _ h => nomatch h)) rfl ?_
  refine sl_ (l_invX0 (vs := [(.iface 121 (.pointer (some ⟨b8, 0, none⟩)))]) (Kc := [⟨kb, 201, [some .nilIface], true⟩]) (Bc := []) [0] [] [Byt A n c bs] ([(gtp_d11_k0 b8 A c n bs), ⟨kb, 201, [some (.iface 121 (.pointer (some ⟨b8, 0, none⟩)))], true⟩]) ([Byt A n c bs]) (by decide) rfl (fun w => me_199_AddLayer _ w) rfl ca_166 (fun _ h => h) rfl rfl rfl rfl (fun w h => addLayer w kb 121 b8  h) rfl rfl rfl rfl fun hf3 he4 => ?_)
  refine send ?_
  refine eseq ?_
  refine HT.seq ?_
  refine HT.plain ?_
  refine sAs rfl rfl ?_
  refine send ?_
  refine eseq ?_
  refine HT.ret ?_
  exact fun a ha w' hw => fin_ ha (res1 ha Tryz.results80 rfl) ⟨b8, rfl, (hw.wk [(1, []), (0, [])] rfl), fr0⟩

theorem gtp_z11 (w : World) (A : Option Addr) (n : Nat) (c : Nat) (bs : List UInt8) (hn : n ≤ 400) (ha : 8 ≤ n) (hb : bN bs 2 2 ≤ n - 8) (hc : 12 ≤ n) (hd : 4 ≤ bN bs 2 2) (he : nb bs 0 % 8 = 3) (hst : St w [] [] [Byt A n c bs] w) : Calls Tryz.prog 58 #[(.string ⟨#[103, 116, 112]⟩), (.slice A n c)] w (CP1 w [] [Byt A n c bs] (fun b8 => (.tuple #[(.iface 121 (.pointer (some ⟨b8, 0, none⟩))), .nilIface])) (fun b8 => [⟨b8, 124, [some (.slice (cutA A c 0) (12 - 0) (c - 0)), some (.slice (cutA A c 12) (n - 12) (c - 12)), some (.int .u8 ((((nb bs 0) / 32) &&& 7 : Nat) : Int)), some (.int .u8 ((((nb bs 0) / 16) &&& 1 : Nat) : Int)), some (.int .u8 ((((nb bs 0) / 8) &&& 1 : Nat) : Int)), some (.bool false), some (.bool true), some (.bool true), some (.int .u8 ((nb bs 1 : Nat) : Int)), some (.int .u16 ((bN bs 2 2 : Nat) : Int)), some (.int .u32 ((bN bs 4 4 : Nat) : Int)), some (.int .u16 ((bN bs 8 2 : Nat) : Int)), some (.int .u8 ((nb bs 10 : Nat) : Int)), some (.slice none 0 0)], true⟩]) (fun b8 => [])) := by
  have hnc00 : n ≤ c := (hst.fact (j := 0) rfl).2.1
  refine enter (vs := [(.string ⟨#[103, 116, 112]⟩), (.slice A n c)]) Tryz.func58 rfl rfl rfl hst ?_
  refine HT.seq ?_
  refine HT.plain ?_
  refine sAs rfl rfl ?_
  refine sAs rfl rfl ?_
  refine send ?_
  refine eseq ?_
  refine HT.seq ?_
  refine HT.plain ?_
  refine sqS (q_build (vs := []) (v := (.agg #[.nilIface])) rfl (fun _ => by kernel_rfl)) rfl ?_
  refine sl_ (l_box (by decide) rfl fun b9 => ?_)
  refine sAs rfl rfl ?_
  refine send ?_
  refine eseq ?_
  refine HT.seq ?_
  refine HT.plain ?_
  refine sl_ (l_callX1 (vs := [(.string ⟨#[110, 111, 32, 107, 105, 110, 100]⟩)]) (Kc := []) (Bc := []) [] [] [Byt A n c bs] (fun b5 => [⟨b9, 201, [some .nilIface], true⟩, ⟨b5, 206, [some (.string (⟨#[110, 111, 32, 107, 105, 110, 100]⟩))], true⟩]) (fun b5 => [Byt A n c bs]) (by decide) rfl ca_67 (fun _ h => h) rfl rfl rfl rfl (fun w h => errNew w (⟨#[110, 111, 32, 107, 105, 110, 100]⟩)  h) (fun _ => rfl) (fun _ => rfl) (fun _ => rfl) (fun _ => rfl) fun b5 hf1 he2 => ?_)
  refine sAs rfl rfl ?_
  refine send ?_
  refine eseq ?_
  refine HT.seq ?_
  refine HT.seq ?_
  refine HT.plain ?_
  refine sMv rfl rfl ?_
  refine send ?_
  refine eseq ?_
  refine HT.block ?_
  refine HT.seq ?_
  refine HT.plain ?_
  refine sqS (q_eqs rfl rfl (r := false) (by kernel_rfl)) rfl ?_
  refine sAs rfl rfl ?_
  refine send ?_
  refine eseq ?_
  refine HT.no rfl ?_
  refine HT.seq ?_
  refine HT.plain ?_
  refine sqS (q_eqs rfl rfl (r := false) (by kernel_rfl)) rfl ?_
  refine sAs rfl rfl ?_
  refine send ?_
  refine eseq ?_
  refine HT.no rfl ?_
  refine HT.seq ?_
  refine HT.plain ?_
  refine sqS (q_eqs rfl rfl (r := false) (by kernel_rfl)) rfl ?_
  refine sAs rfl rfl ?_
  refine send ?_
  refine eseq ?_
  refine HT.no rfl ?_
  refine HT.seq ?_
  refine HT.plain ?_
  refine sqS (q_eqs rfl rfl (r := false) (by kernel_rfl)) rfl ?_
  refine sAs rfl rfl ?_
  refine send ?_
  refine eseq ?_
  refine HT.no rfl ?_
  refine HT.seq ?_
  refine HT.plain ?_
  refine sqS (q_eqs rfl rfl (r := false) (by kernel_rfl)) rfl ?_
  refine sAs rfl rfl ?_
  refine send ?_
  refine eseq ?_
  refine HT.no rfl ?_
  refine HT.seq ?_
  refine HT.plain ?_
  refine sqS (q_eqs rfl rfl (r := false) (by kernel_rfl)) rfl ?_
  refine sAs rfl rfl ?_
  refine send ?_
  refine eseq ?_
  refine HT.no rfl ?_
  refine HT.seq ?_
  refine HT.plain ?_
  refine sqS (q_eqs rfl rfl (r := false) (by kernel_rfl)) rfl ?_
  refine sAs rfl rfl ?_
  refine send ?_
  refine eseq ?_
  refine HT.no rfl ?_
  refine HT.seq ?_
  refine HT.plain ?_
  refine sqS (q_eqs rfl rfl (r := false) (by kernel_rfl)) rfl ?_
  refine sAs rfl rfl ?_
  refine send ?_
  refine eseq ?_
  refine HT.no rfl ?_
  refine HT.seq ?_
  refine HT.plain ?_
  refine sqS (q_eqs rfl rfl (r := false) (by kernel_rfl)) rfl ?_
  refine sAs rfl rfl ?_
  refine send ?_
  refine eseq ?_
  refine HT.no rfl ?_
  refine HT.seq ?_
  refine HT.plain ?_
  refine sqS (q_eqs rfl rfl (r := false) (by kernel_rfl)) rfl ?_
  refine sAs rfl rfl ?_
  refine send ?_
  refine eseq ?_
  refine HT.no rfl ?_
  refine HT.seq ?_
  refine HT.plain ?_
  refine sqS (q_eqs rfl rfl (r := false) (by kernel_rfl)) rfl ?_
  refine sAs rfl rfl ?_
  refine send ?_
  refine eseq ?_
  refine HT.no rfl ?_
  refine HT.seq ?_
  refine HT.plain ?_
  refine sqS (q_eqs rfl rfl (r := false) (by kernel_rfl)) rfl ?_
  refine sAs rfl rfl ?_
  refine send ?_
  refine eseq ?_
  refine HT.no rfl ?_
  refine HT.seq ?_
  refine HT.plain ?_
  refine sqS (q_eqs rfl rfl (r := true) (by kernel_rfl)) rfl ?_
  refine sAs rfl rfl ?_
  refine send ?_
  refine eseq ?_
  refine HT.yes rfl ?_
  refine HT.plain ?_
  refine sMv rfl rfl ?_
  refine sMv rfl rfl ?_
  refine sqS (q_iface rfl Tryz.underlying199 (fun _ h => nomatch h)) rfl ?_
  refine sl_ (l_callX1 (vs := [(.slice A n c), (.iface 199 (.pointer (some ⟨b9, 0, none⟩)))]) (Kc := [⟨b9, 201, [some .nilIface], true⟩]) (Bc := [Byt A n c bs]) [0] [0] [Byt A n c bs] (fun b8 => [⟨b5, 206, [some (.string (⟨#[110, 111, 32, 107, 105, 110, 100]⟩))], true⟩, ⟨b9, 201, [some (.iface 121 (.pointer (some ⟨b8, 0, none⟩)))], true⟩, ⟨b8, 124, [some (.slice (cutA A c 0) (12 - 0) (c - 0)), some (.slice (cutA A c 12) (n - 12) (c - 12)), some (.int .u8 ((((nb bs 0) / 32) &&& 7 : Nat) : Int)), some (.int .u8 ((((nb bs 0) / 16) &&& 1 : Nat) : Int)), some (.int .u8 ((((nb bs 0) / 8) &&& 1 : Nat) : Int)), some (.bool false), some (.bool true), some (.bool true), some (.int .u8 ((nb bs 1 : Nat) : Int)), some (.int .u16 ((bN bs 2 2 : Nat) : Int)), some (.int .u32 ((bN bs 4 4 : Nat) : Int)), some (.int .u16 ((bN bs 8 2 : Nat) : Int)), some (.int .u8 ((nb bs 10 : Nat) : Int)), some (.slice none 0 0)], true⟩]) (fun b8 => [Byt A n c bs]) (by decide) rfl ca_80 (fun _ h => h) rfl rfl rfl rfl (fun w h => gtp_d11 w A n c bs b9 (by omega) (by omega) (by omega) (by omega) (by omega) (by omega) h) (fun _ => rfl) (fun _ => rfl) (fun _ => rfl) (fun _ => rfl) fun b8 hf3 he4 => ?_)
  refine sAs rfl rfl ?_
  refine send ?_
  refine ein ?_
  refine eseq ?_
  refine HT.seq ?_
  refine HT.seq ?_
  refine HT.plain ?_
  refine sMv rfl rfl ?_
  refine sqS (q_notNil rfl rfl Tryz.underlying59) rfl ?_
  refine send ?_
  refine eseq ?_
  refine HT.no rfl ?_
  refine HT.skip ?_
  refine eseq ?_
  refine HT.seq ?_
  refine HT.plain ?_
  refine sMv rfl rfl ?_
  refine sqS (q_nil rfl) rfl ?_
  refine sqS (q_field (b := b9) (off := 0) rfl fo_201_0) rfl ?_
  refine sqS (q_load (b := b9) (off := 0) (j := 1) rfl nagg_43 (fun _ h => h) rfl rfl rfl) rfl ?_
  refine sAs rfl rfl ?_
  refine sAs rfl rfl ?_
  refine send ?_
  refine eseq ?_
  refine HT.ret ?_
  exact fun a ha w' hw => fin_ ha (res2 ha Tryz.results58 rfl rfl) ⟨b8, rfl, (hw.wk [(2, [])] rfl), fr0⟩

theorem gtp_e11 (w : World) (A : Option Addr) (n : Nat) (c : Nat) (bs : List UInt8) (hn : n ≤ 400) (ha : 8 ≤ n) (hb : bN bs 2 2 ≤ n - 8) (hc : 12 ≤ n) (hd : 4 ≤ bN bs 2 2) (he : nb bs 0 % 8 = 3) (hst : St w [] [] [Byt A n c bs] w) : Calls Tryz.prog 46 #[(.string ⟨#[103, 116, 112]⟩), (.slice A n c)] w (CP3 w [] [Byt A n c bs] (fun b8 A5 c5 => (.tuple #[(.iface 121 (.pointer (some ⟨b8, 0, none⟩))), (.bool true)])) (fun b8 A5 c5 => [⟨b8, 124, [some (.slice (cutA A5 c5 0) (12 - 0) (c5 - 0)), some (.slice (cutA A5 c5 12) (n - 12) (c5 - 12)), some (.int .u8 ((((nb bs 0) / 32) &&& 7 : Nat) : Int)), some (.int .u8 ((((nb bs 0) / 16) &&& 1 : Nat) : Int)), some (.int .u8 ((((nb bs 0) / 8) &&& 1 : Nat) : Int)), some (.bool false), some (.bool true), some (.bool true), some (.int .u8 ((nb bs 1 : Nat) : Int)), some (.int .u16 ((bN bs 2 2 : Nat) : Int)), some (.int .u32 ((bN bs 4 4 : Nat) : Int)), some (.int .u16 ((bN bs 8 2 : Nat) : Int)), some (.int .u8 ((nb bs 10 : Nat) : Int)), some (.slice none 0 0)], true⟩]) (fun b8 A5 c5 => [Byt A5 n c5 bs])) := by
  have hnc00 : n ≤ c := (hst.fact (j := 0) rfl).2.1
  refine enter (vs := [(.string ⟨#[103, 116, 112]⟩), (.slice A n c)]) Tryz.func46 rfl rfl rfl hst ?_
  refine HT.seq ?_
  refine HT.plain ?_
  refine sAs rfl rfl ?_
  refine sAs rfl rfl ?_
  refine send ?_
  refine eseq ?_
  refine HT.seq ?_
  refine HT.seq ?_
  refine HT.plain ?_
  refine sMv rfl rfl ?_
  refine sqS (q_len (len := n) rfl Tryz.underlying22) rfl ?_
  refine sqS (q_F (q_gt (p := n) (q := 2000) rfl rfl) (by omega)) rfl ?_
  refine send ?_
  refine eseq ?_
  refine HT.no rfl ?_
  refine HT.skip ?_
  refine eseq ?_
  refine HT.seq ?_
  refine HT.plain ?_
  refine sMv rfl rfl ?_
  refine sAs rfl rfl ?_
  refine send ?_
  refine eseq ?_
  refine HT.seq ?_
  refine HT.seq ?_
  refine HT.plain ?_
  refine sMv rfl rfl ?_
  refine sqS (q_eqs rfl rfl (r := false) (by kernel_rfl)) rfl ?_
  refine sMv rfl rfl ?_
  refine sgqS rfl (q_move rfl) rfl ?_
  refine sgqS rfl (q_eqs rfl rfl (r := false) (by kernel_rfl)) rfl ?_
  refine sqS (q_pick rfl (fun h => nomatch h) (fun _ => rfl)) rfl ?_
  refine send ?_
  refine eseq ?_
  refine HT.no rfl ?_
  refine HT.seq ?_
  refine HT.plain ?_
  refine sMv rfl rfl ?_
  refine sqS (q_eqs rfl rfl (r := false) (by kernel_rfl)) rfl ?_
  refine send ?_
  refine eseq ?_
  refine HT.no rfl ?_
  refine HT.skip ?_
  refine eseq ?_
  refine HT.seq ?_
  refine HT.seq ?_
  refine HT.plain ?_
  refine sMv rfl rfl ?_
  refine sMv rfl rfl ?_
  refine sqS (q_call (vs := [(.string ⟨#[103, 116, 112]⟩), (.slice A n c)]) (v := (.bool true)) rfl ca_57 (fun w h => gtp_c11 w A n c bs (by omega) (by omega) (by omega) (by omega) (by omega) (by omega) (St.enter (sp := []) (Kc := []) (bi := [0]) h rfl rfl rfl))) rfl ?_
  refine sqS (q_not rfl) rfl ?_
  refine send ?_
  refine eseq ?_
  refine HT.no rfl ?_
  refine HT.skip ?_
  refine eseq ?_
  refine HT.seq ?_
  refine HT.plain ?_
  refine sMv rfl rfl ?_
  refine sMv rfl rfl ?_
  refine sl_ (l_callX2 (vs := [(.slice A n c)]) (Kc := []) (Bc := [Byt A n c bs]) [] [0] [Byt A n c bs] (fun A5 c5 => []) (fun A5 c5 => [Byt A n c bs, Byt A5 n c5 bs]) (by decide) rfl ca_59 (fun _ h => h) rfl rfl rfl rfl (fun w h => Clone w A n c bs (by omega) h) (fun _ _ => rfl) (fun _ _ => rfl) (fun _ _ => rfl) (fun _ _ => rfl) fun A5 c5 hf1 he2 => ?_)
  have hnc3 : n ≤ c5 := by obtain ⟨w, h⟩ := he2; exact (h _ List.mem_cons_self).2.1
  refine sl_ (l_callX1 (vs := [(.string ⟨#[103, 116, 112]⟩), (.slice A5 n c5)]) (Kc := []) (Bc := [Byt A5 n c5 bs]) [] [1] [Byt A n c bs, Byt A5 n c5 bs] (fun b8 => [⟨b8, 124, [some (.slice (cutA A5 c5 0) (12 - 0) (c5 - 0)), some (.slice (cutA A5 c5 12) (n - 12) (c5 - 12)), some (.int .u8 ((((nb bs 0) / 32) &&& 7 : Nat) : Int)), some (.int .u8 ((((nb bs 0) / 16) &&& 1 : Nat) : Int)), some (.int .u8 ((((nb bs 0) / 8) &&& 1 : Nat) : Int)), some (.bool false), some (.bool true), some (.bool true), some (.int .u8 ((nb bs 1 : Nat) : Int)), some (.int .u16 ((bN bs 2 2 : Nat) : Int)), some (.int .u32 ((bN bs 4 4 : Nat) : Int)), some (.int .u16 ((bN bs 8 2 : Nat) : Int)), some (.int .u8 ((nb bs 10 : Nat) : Int)), some (.slice none 0 0)], true⟩]) (fun b8 => [Byt A n c bs, Byt A5 n c5 bs]) (by decide) rfl ca_58 (fun _ h => h) rfl rfl rfl rfl (fun w h => gtp_z11 w A5 n c5 bs (by omega) (by omega) (by omega) (by omega) (by omega) (by omega) h) (fun _ => rfl) (fun _ => rfl) (fun _ => rfl) (fun _ => rfl) fun b8 hf4 he5 => ?_)
  refine sMv rfl rfl ?_
  refine sqS (q_extract (vs := [(.iface 121 (.pointer (some ⟨b8, 0, none⟩))), .nilIface]) (i := 0) rfl rfl) rfl ?_
  refine sqS (q_extract (vs := [(.iface 121 (.pointer (some ⟨b8, 0, none⟩))), .nilIface]) (i := 1) rfl rfl) rfl ?_
  refine sAs rfl rfl ?_
  refine sAs rfl rfl ?_
  refine send ?_
  refine eseq ?_
  refine HT.seq ?_
  refine HT.seq ?_
  refine HT.plain ?_
  refine sMv rfl rfl ?_
  refine sqS (q_notNil rfl rfl Tryz.underlying59) rfl ?_
  refine sMv rfl rfl ?_
  refine sgqS rfl (q_move rfl) rfl ?_
  refine sgqS rfl (q_isNil' rfl rfl Tryz.underlying43) rfl ?_
  refine sqS (q_pick rfl (fun h => nomatch h) (fun _ => rfl)) rfl ?_
  refine send ?_
  refine eseq ?_
  refine HT.no rfl ?_
  refine HT.skip ?_
  refine eseq ?_
  refine HT.seq ?_
  refine HT.seq ?_
  refine HT.plain ?_
  refine sMv rfl rfl ?_
  refine sqS (q_isnt (T := 121) (z := (.pointer none)) rfl Tryz.underlying63 (fun _ h => nomatch h) (by decide) zero_63) rfl ?_
  refine sMv rfl rfl ?_
  refine sqS (q_extract (vs := [(.pointer none), (.bool false)]) (i := 0) rfl rfl) rfl ?_
  refine sqS (q_extract (vs := [(.pointer none), (.bool false)]) (i := 1) rfl rfl) rfl ?_
  refine sAs rfl rfl ?_
  refine sAs rfl rfl ?_
  refine send ?_
  refine eseq ?_
  refine HT.seq ?_
  refine HT.plain ?_
  refine sMv rfl rfl ?_
  refine sMv rfl rfl ?_
  refine sqS (q_eqs rfl rfl (r := false) (by kernel_rfl)) rfl ?_
  refine sqS (q_neb rfl rfl Tryz.underlying4) rfl ?_
  refine sMv rfl rfl ?_
  refine sskip rfl rfl ?_
  refine sskip rfl rfl ?_
  refine sqS (q_pick rfl (fun h => nomatch h) (fun _ => rfl)) rfl ?_
  refine send ?_
  refine eseq ?_
  refine HT.no rfl ?_
  refine HT.skip ?_
  refine eseq ?_
  refine HT.seq ?_
  refine HT.plain ?_
  refine sMv rfl rfl ?_
  refine sAs rfl rfl ?_
  refine sAs rfl rfl ?_
  refine send ?_
  refine eseq ?_
  refine HT.ret ?_
  exact fun a ha w' hw => fin_ ha (res2 ha Tryz.results46 rfl rfl) ⟨b8, A5, c5, rfl, hw, (fr1 (hf1 _ List.mem_cons_self) fr0)⟩

abbrev gtp_t11_k0 (b8 : Nat) (A5 : Option Addr) (c5 : Nat) (n : Nat) (bs : List UInt8) : Kb := ⟨b8, 124, [some (.slice (cutA A5 c5 0) (12 - 0) (c5 - 0)), some (.slice (cutA A5 c5 12) (n - 12) (c5 - 12)), some (.int .u8 ((((nb bs 0) / 32) &&& 7 : Nat) : Int)), some (.int .u8 ((((nb bs 0) / 16) &&& 1 : Nat) : Int)), some (.int .u8 ((((nb bs 0) / 8) &&& 1 : Nat) : Int)), some (.bool false), some (.bool true), some (.bool true), some (.int .u8 ((nb bs 1 : Nat) : Int)), some (.int .u16 ((bN bs 2 2 : Nat) : Int)), some (.int .u32 ((bN bs 4 4 : Nat) : Int)), some (.int .u16 ((bN bs 8 2 : Nat) : Int)), some (.int .u8 ((nb bs 10 : Nat) : Int)), some (.slice none 0 0)], false⟩
abbrev gtp_t11_k1 (b4 : Nat) : Kb := ⟨b4, 29, [some (.slice none 0 0), some (.slice none 0 0), some (.slice none 0 0), some (.slice none 0 0)], true⟩

theorem gtp_t11 (w : World) (A5 : Option Addr) (n : Nat) (c5 : Nat) (bs : List UInt8) (b8 : Nat) (hn : n ≤ 400) (ha : 8 ≤ n) (hb : bN bs 2 2 ≤ n - 8) (hc : 12 ≤ n) (hd : 4 ≤ bN bs 2 2) (he : nb bs 0 % 8 = 3) (hst : St w [] [(gtp_t11_k0 b8 A5 c5 n bs)] [Byt A5 n c5 bs] w) : Calls Tryz.prog 47 #[(.iface 121 (.pointer (some ⟨b8, 0, none⟩))), (.slice (cutA A5 c5 12) (n - 12) (c5 - 12))] w (IP w (Byt A5 n c5 bs) (some (some ⟨[(nb bs 0) / 32, ((nb bs 0) / 16) &&& 1, ((nb bs 0) / 8) &&& 1, ((nb bs 0) / 4) &&& 1, ((nb bs 0) / 2) &&& 1, (nb bs 0) &&& 1, nb bs 1, bN bs 2 2, bN bs 4 4, bN bs 8 2, nb bs 10], [], [], sl bs 12 n⟩))) := by
  have hnc00 : n ≤ c5 := (hst.fact (j := 0) rfl).2.1
  refine enter (vs := [(.iface 121 (.pointer (some ⟨b8, 0, none⟩))), (.slice (cutA A5 c5 12) (n - 12) (c5 - 12))]) Tryz.func47 rfl rfl rfl hst ?_
  refine HT.seq ?_
  refine HT.plain ?_
  refine sl_ (l_alloc (by decide) zero_29 fun b4 => ?_)
  refine sAs rfl rfl ?_
  refine send ?_
  refine eseq ?_
  refine HT.seq ?_
  refine HT.plain ?_
  refine sMv rfl rfl ?_
  refine sl_ (l_callX2 (vs := [(.slice (cutA A5 c5 12) (n - 12) (c5 - 12))]) (Kc := []) (Bc := [Byt (cutA A5 c5 12) (n - 12) (c5 - 12) (sl bs 12 n)]) [] [1] [Byt A5 n c5 bs, Byt (cutA A5 c5 12) (n - 12) (c5 - 12) (sl bs 12 n)] (fun A5_1 c5_1 => [(gtp_t11_k0 b8 A5 c5 n bs), (gtp_t11_k1 b4)]) (fun A5_1 c5_1 => [Byt A5 n c5 bs, Byt A5_1 (n - 12) c5_1 (sl bs 12 n)]) (by decide) rfl ca_60 (fun _ h => (h.cut (j := 0) (lo := 12) (hi := n) rfl (by omega) (by omega))) rfl rfl rfl rfl (fun w h => clone w (cutA A5 c5 12) (n - 12) (c5 - 12) (sl bs 12 n) (by omega) h) (fun _ _ => rfl) (fun _ _ => rfl) (fun _ _ => rfl) (fun _ _ => rfl) fun A5_1 c5_1 hf1 he2 => ?_)
  have hnc3 : (n - 12) ≤ c5_1 := by obtain ⟨w, h⟩ := he2; exact (h _ List.mem_cons_self).2.1
  refine sqS (q_build (vs := [(3, (.slice A5_1 (n - 12) c5_1))]) (v := (.agg #[(.slice none 0 0), (.slice none 0 0), (.slice none 0 0), (.slice A5_1 (n - 12) c5_1)])) rfl (fun _ => by kernel_rfl)) rfl ?_
  refine sl_ (l_box (by decide) rfl fun b50 => ?_)
  refine sAs rfl rfl ?_
  refine send ?_
  refine eseq ?_
  refine HT.seq ?_
  refine HT.seq ?_
  refine HT.plain ?_
  refine sMv rfl rfl ?_
  refine send ?_
  refine eseq ?_
  refine HT.block ?_
  refine HT.seq ?_
  refine HT.plain ?_
  refine sqS (q_isnt (T := 121) (z := (.pointer none)) rfl Tryz.underlying66 (fun _ h => nomatch h) (by decide) zero_66) rfl ?_
  refine sqS (q_extract (vs := [(.pointer none), (.bool false)]) (i := 1) rfl rfl) rfl ?_
  refine sqS (q_extract (vs := [(.pointer none), (.bool false)]) (i := 0) rfl rfl) rfl ?_
  refine send ?_
  refine eseq ?_
  refine HT.no rfl ?_
  refine HT.seq ?_
  refine HT.plain ?_
  refine sqS (q_isnt (T := 121) (z := (.pointer none)) rfl Tryz.underlying73 (fun _ h => nomatch h) (by decide) zero_73) rfl ?_
  refine sqS (q_extract (vs := [(.pointer none), (.bool false)]) (i := 1) rfl rfl) rfl ?_
  refine sqS (q_extract (vs := [(.pointer none), (.bool false)]) (i := 0) rfl rfl) rfl ?_
  refine send ?_
  refine eseq ?_
  refine HT.no rfl ?_
  refine HT.seq ?_
  refine HT.plain ?_
  refine sqS (q_isnt (T := 121) (z := (.pointer none)) rfl Tryz.underlying78 (fun _ h => nomatch h) (by decide) zero_78) rfl ?_
  refine sqS (q_extract (vs := [(.pointer none), (.bool false)]) (i := 1) rfl rfl) rfl ?_
  refine sqS (q_extract (vs := [(.pointer none), (.bool false)]) (i := 0) rfl rfl) rfl ?_
  refine send ?_
  refine eseq ?_
  refine HT.no rfl ?_
  refine HT.seq ?_
  refine HT.plain ?_
  refine sqS (q_isnt (T := 121) (z := (.pointer none)) rfl Tryz.underlying81 (fun _ h => nomatch h) (by decide) zero_81) rfl ?_
  refine sqS (q_extract (vs := [(.pointer none), (.bool false)]) (i := 1) rfl rfl) rfl ?_
  refine sqS (q_extract (vs := [(.pointer none), (.bool false)]) (i := 0) rfl rfl) rfl ?_
  refine send ?_
  refine eseq ?_
  refine HT.no rfl ?_
  refine HT.seq ?_
  refine HT.plain ?_
  refine sqS (q_isnt (T := 121) (z := (.pointer none)) rfl Tryz.underlying85 (fun _ h => nomatch h) (by decide) zero_85) rfl ?_
  refine sqS (q_extract (vs := [(.pointer none), (.bool false)]) (i := 1) rfl rfl) rfl ?_
  refine sqS (q_extract (vs := [(.pointer none), (.bool false)]) (i := 0) rfl rfl) rfl ?_
  refine send ?_
  refine eseq ?_
  refine HT.no rfl ?_
  refine HT.seq ?_
  refine HT.plain ?_
  refine sqS (q_isnt (T := 121) (z := (.pointer none)) rfl Tryz.underlying89 (fun _ h => nomatch h) (by decide) zero_89) rfl ?_
  refine sqS (q_extract (vs := [(.pointer none), (.bool false)]) (i := 1) rfl rfl) rfl ?_
  refine sqS (q_extract (vs := [(.pointer none), (.bool false)]) (i := 0) rfl rfl) rfl ?_
  refine send ?_
  refine eseq ?_
  refine HT.no rfl ?_
  refine HT.seq ?_
  refine HT.plain ?_
  refine sqS (q_isnt (T := 121) (z := (.pointer none)) rfl Tryz.underlying94 (fun _ h => nomatch h) (by decide) zero_94) rfl ?_
  refine sqS (q_extract (vs := [(.pointer none), (.bool false)]) (i := 1) rfl rfl) rfl ?_
  refine sqS (q_extract (vs := [(.pointer none), (.bool false)]) (i := 0) rfl rfl) rfl ?_
  refine send ?_
  refine eseq ?_
  refine HT.no rfl ?_
  refine HT.seq ?_
  refine HT.plain ?_
  refine sqS (q_isnt (T := 121) (z := (.pointer none)) rfl Tryz.underlying95 (fun _ h => nomatch h) (by decide) zero_95) rfl ?_
  refine sqS (q_extract (vs := [(.pointer none), (.bool false)]) (i := 1) rfl rfl) rfl ?_
  refine sqS (q_extract (vs := [(.pointer none), (.bool false)]) (i := 0) rfl rfl) rfl ?_
  refine send ?_
  refine eseq ?_
  refine HT.no rfl ?_
  refine HT.seq ?_
  refine HT.plain ?_
  refine sqS (q_isnt (T := 121) (z := (.pointer none)) rfl Tryz.underlying99 (fun _ h => nomatch h) (by decide) zero_99) rfl ?_
  refine sqS (q_extract (vs := [(.pointer none), (.bool false)]) (i := 1) rfl rfl) rfl ?_
  refine sqS (q_extract (vs := [(.pointer none), (.bool false)]) (i := 0) rfl rfl) rfl ?_
  refine send ?_
  refine eseq ?_
  refine HT.no rfl ?_
  refine HT.seq ?_
  refine HT.plain ?_
  refine sqS (q_isnt (T := 121) (z := (.pointer none)) rfl Tryz.underlying105 (fun _ h => nomatch h) (by decide) zero_105) rfl ?_
  refine sqS (q_extract (vs := [(.pointer none), (.bool false)]) (i := 1) rfl rfl) rfl ?_
  refine sqS (q_extract (vs := [(.pointer none), (.bool false)]) (i := 0) rfl rfl) rfl ?_
  refine send ?_
  refine eseq ?_
  refine HT.no rfl ?_
  refine HT.seq ?_
  refine HT.plain ?_
  refine sqS (q_isnt (T := 121) (z := (.pointer none)) rfl Tryz.underlying110 (fun _ h => nomatch h) (by decide) zero_110) rfl ?_
  refine sqS (q_extract (vs := [(.pointer none), (.bool false)]) (i := 1) rfl rfl) rfl ?_
  refine sqS (q_extract (vs := [(.pointer none), (.bool false)]) (i := 0) rfl rfl) rfl ?_
  refine send ?_
  refine eseq ?_
  refine HT.no rfl ?_
  refine HT.seq ?_
  refine HT.plain ?_
  refine sqS (q_isnt (T := 121) (z := (.pointer none)) rfl Tryz.underlying114 (fun _ h => nomatch h) (by decide) zero_114) rfl ?_
  refine sqS (q_extract (vs := [(.pointer none), (.bool false)]) (i := 1) rfl rfl) rfl ?_
  refine sqS (q_extract (vs := [(.pointer none), (.bool false)]) (i := 0) rfl rfl) rfl ?_
  refine send ?_
  refine eseq ?_
  refine HT.no rfl ?_
  refine HT.seq ?_
  refine HT.plain ?_
  refine sqS (q_is rfl Tryz.underlying121 (fun _ h => nomatch h)) rfl ?_
  refine sqS (q_extract (vs := [(.pointer (some ⟨b8, 0, none⟩)), (.bool true)]) (i := 1) rfl rfl) rfl ?_
  refine sqS (q_extract (vs := [(.pointer (some ⟨b8, 0, none⟩)), (.bool true)]) (i := 0) rfl rfl) rfl ?_
  refine send ?_
  refine eseq ?_
  refine HT.yes rfl ?_
  refine HT.seq ?_
  refine HT.plain ?_
  refine sAs rfl rfl ?_
  refine send ?_
  refine eseq ?_
  refine HT.seq ?_
  refine HT.drawn mixed (St.closed _ _ _ _) (St w [] [(gtp_t11_k0 b8 A5 c5 n bs), (gtp_t11_k1 b4), ⟨b50, 29, [none, some (.slice none 0 0), some (.slice none 0 0), some (.slice A5_1 (n - 12) c5_1)], true⟩] [Byt A5 n c5 bs, Byt A5_1 (n - 12) c5_1 (sl bs 12 n)]) ?_
  refine dtake (f := 4) [0, 1, 2, 3, 4, 5, 6, 7, 8, 9, 10, 11, 12, 13, 14, 15, 16, 17, 18, 19, 20, 21, 22, 23, 24, 25, 26, 27, 28, 29, 30, 31, 32, 33, 34, 35, 36, 37, 38, 39, 40, 41, 42, 43, 44, 45, 46, 47, 48, 49, 50, 51, 52, 53, 54, 55] (by kernel_rfl) (St.closed _ _ _ _) (fun _ h => (h.wk [(0, []), (1, []), (2, [0])] rfl)) (by kernel_rfl) ?_
  refine dq rfl (q_move rfl) ?_
  refine dq rfl (q_move rfl) ?_
  refine dq rfl (q_nil rfl) ?_
  refine dq rfl (q_field (b := b8) (off := 0) rfl fo_124_1) ?_
  refine dq rfl (q_load (b := b8) (off := 2) (j := 0) rfl nagg_5 (fun _ h => h) rfl rfl rfl) ?_
  refine dq rfl (q_convn (p := ((nb bs 0) / 32) &&& 7) rfl Tryz.underlying5 Tryz.underlying39 (show ((nb bs 0) / 32) &&& 7 < 18446744073709551616 by have := nb_lt bs 0; have := zm7 ((nb bs 0) / 32); have := Nat.and_le_left (n := (nb bs 0) / 32) (m := 7); have := Nat.and_le_right (n := (nb bs 0) / 32) (m := 7); omega)) ?_
  refine dq rfl (q_move rfl) ?_
  refine dq rfl (q_nil rfl) ?_
  refine dq rfl (q_field (b := b8) (off := 0) rfl fo_124_2) ?_
  refine dq rfl (q_load (b := b8) (off := 3) (j := 0) rfl nagg_5 (fun _ h => h) rfl rfl rfl) ?_
  refine dq rfl (q_convn (p := ((nb bs 0) / 16) &&& 1) rfl Tryz.underlying5 Tryz.underlying39 (show ((nb bs 0) / 16) &&& 1 < 18446744073709551616 by have := nb_lt bs 0; have := zm1 ((nb bs 0) / 16); have := Nat.and_le_left (n := (nb bs 0) / 16) (m := 1); have := Nat.and_le_right (n := (nb bs 0) / 16) (m := 1); omega)) ?_
  refine dq rfl (q_move rfl) ?_
  refine dq rfl (q_nil rfl) ?_
  refine dq rfl (q_field (b := b8) (off := 0) rfl fo_124_3) ?_
  refine dq rfl (q_load (b := b8) (off := 4) (j := 0) rfl nagg_5 (fun _ h => h) rfl rfl rfl) ?_
  refine dq rfl (q_convn (p := ((nb bs 0) / 8) &&& 1) rfl Tryz.underlying5 Tryz.underlying39 (show ((nb bs 0) / 8) &&& 1 < 18446744073709551616 by have := nb_lt bs 0; have := zm1 ((nb bs 0) / 8); have := Nat.and_le_left (n := (nb bs 0) / 8) (m := 1); have := Nat.and_le_right (n := (nb bs 0) / 8) (m := 1); omega)) ?_
  refine dq rfl (q_move rfl) ?_
  refine dq rfl (q_nil rfl) ?_
  refine dq rfl (q_field (b := b8) (off := 0) rfl fo_124_4) ?_
  refine dq rfl (q_load (b := b8) (off := 5) (j := 0) rfl nagg_4 (fun _ h => h) rfl rfl rfl) ?_
  refine dq rfl (q_call (vs := [(.bool false)]) (v := (.int .u64 ((bitN false : Nat) : Int))) rfl ca_61 (fun w h => bitC w false  (St.enter (sp := []) (Kc := []) (bi := []) h rfl rfl rfl))) ?_
  refine dq rfl (q_move rfl) ?_
  refine dq rfl (q_nil rfl) ?_
  refine dq rfl (q_field (b := b8) (off := 0) rfl fo_124_5) ?_
  refine dq rfl (q_load (b := b8) (off := 6) (j := 0) rfl nagg_4 (fun _ h => h) rfl rfl rfl) ?_
  refine dq rfl (q_call (vs := [(.bool true)]) (v := (.int .u64 ((bitN true : Nat) : Int))) rfl ca_61 (fun w h => bitC w true  (St.enter (sp := []) (Kc := []) (bi := []) h rfl rfl rfl))) ?_
  refine dq rfl (q_move rfl) ?_
  refine dq rfl (q_nil rfl) ?_
  refine dq rfl (q_field (b := b8) (off := 0) rfl fo_124_6) ?_
  refine dq rfl (q_load (b := b8) (off := 7) (j := 0) rfl nagg_4 (fun _ h => h) rfl rfl rfl) ?_
  refine dq rfl (q_call (vs := [(.bool true)]) (v := (.int .u64 ((bitN true : Nat) : Int))) rfl ca_61 (fun w h => bitC w true  (St.enter (sp := []) (Kc := []) (bi := []) h rfl rfl rfl))) ?_
  refine dq rfl (q_move rfl) ?_
  refine dq rfl (q_nil rfl) ?_
  refine dq rfl (q_field (b := b8) (off := 0) rfl fo_124_7) ?_
  refine dq rfl (q_load (b := b8) (off := 8) (j := 0) rfl nagg_5 (fun _ h => h) rfl rfl rfl) ?_
  refine dq rfl (q_convn (p := nb bs 1) rfl Tryz.underlying5 Tryz.underlying39 (show nb bs 1 < 18446744073709551616 by have := nb_lt bs 1; omega)) ?_
  refine dq rfl (q_move rfl) ?_
  refine dq rfl (q_nil rfl) ?_
  refine dq rfl (q_field (b := b8) (off := 0) rfl fo_124_8) ?_
  refine dq rfl (q_load (b := b8) (off := 9) (j := 0) rfl nagg_70 (fun _ h => h) rfl rfl rfl) ?_
  refine dq rfl (q_convn (p := bN bs 2 2) rfl Tryz.underlying70 Tryz.underlying39 (show bN bs 2 2 < 18446744073709551616 by have := bN_lt bs 2 2 65536 rfl; omega)) ?_
  refine dq rfl (q_move rfl) ?_
  refine dq rfl (q_nil rfl) ?_
  refine dq rfl (q_field (b := b8) (off := 0) rfl fo_124_9) ?_
  refine dq rfl (q_load (b := b8) (off := 10) (j := 0) rfl nagg_111 (fun _ h => h) rfl rfl rfl) ?_
  refine dq rfl (q_convn (p := bN bs 4 4) rfl Tryz.underlying111 Tryz.underlying39 (show bN bs 4 4 < 18446744073709551616 by have := bN_lt bs 4 4 4294967296 rfl; omega)) ?_
  refine dq rfl (q_move rfl) ?_
  refine dq rfl (q_nil rfl) ?_
  refine dq rfl (q_field (b := b8) (off := 0) rfl fo_124_10) ?_
  refine dq rfl (q_load (b := b8) (off := 11) (j := 0) rfl nagg_70 (fun _ h => h) rfl rfl rfl) ?_
  refine dq rfl (q_convn (p := bN bs 8 2) rfl Tryz.underlying70 Tryz.underlying39 (show bN bs 8 2 < 18446744073709551616 by have := bN_lt bs 8 2 65536 rfl; omega)) ?_
  refine dq rfl (q_move rfl) ?_
  refine dq rfl (q_nil rfl) ?_
  refine dq rfl (q_field (b := b8) (off := 0) rfl fo_124_11) ?_
  refine dq rfl (q_load (b := b8) (off := 12) (j := 0) rfl nagg_5 (fun _ h => h) rfl rfl rfl) ?_
  refine dq rfl (q_convn (p := nb bs 10) rfl Tryz.underlying5 Tryz.underlying39 (show nb bs 10 < 18446744073709551616 by have := nb_lt bs 10; omega)) ?_
  refine QL.nil ?_
  refine RG.step1 56 (by kernel_rfl) ?_
  refine dop rfl (l_buildSlice (e := 39) (vs := [(0, (.int .u64 ((((nb bs 0) / 32) &&& 7 : Nat) : Int))), (1, (.int .u64 ((((nb bs 0) / 16) &&& 1 : Nat) : Int))), (2, (.int .u64 ((((nb bs 0) / 8) &&& 1 : Nat) : Int))), (3, (.int .u64 ((bitN false : Nat) : Int))), (4, (.int .u64 ((bitN true : Nat) : Int))), (5, (.int .u64 ((bitN true : Nat) : Int))), (6, (.int .u64 ((nb bs 1 : Nat) : Int))), (7, (.int .u64 ((bN bs 2 2 : Nat) : Int))), (8, (.int .u64 ((bN bs 4 4 : Nat) : Int))), (9, (.int .u64 ((bN bs 8 2 : Nat) : Int))), (10, (.int .u64 ((nb bs 10 : Nat) : Int)))]) (cs := [(.int .u64 ((((nb bs 0) / 32) &&& 7 : Nat) : Int)), (.int .u64 ((((nb bs 0) / 16) &&& 1 : Nat) : Int)), (.int .u64 ((((nb bs 0) / 8) &&& 1 : Nat) : Int)), (.int .u64 ((bitN false : Nat) : Int)), (.int .u64 ((bitN true : Nat) : Int)), (.int .u64 ((bitN true : Nat) : Int)), (.int .u64 ((nb bs 1 : Nat) : Int)), (.int .u64 ((bN bs 2 2 : Nat) : Int)), (.int .u64 ((bN bs 4 4 : Nat) : Int)), (.int .u64 ((bN bs 8 2 : Nat) : Int)), (.int .u64 ((nb bs 10 : Nat) : Int))]) (by decide) rfl (fun _ => by kernel_rfl) fun b547 => ⟨(fun _ h => (h.wk [(0, []), (1, []), (2, [0])] rfl)), ?_⟩)
  refine dtake (f := 1) [57, 58] (by kernel_rfl) (St.closed _ _ _ _) (fun _ h => (h.wk [(0, []), (1, []), (2, [0])] rfl)) (by kernel_rfl) ?_
  refine dq rfl (q_nil rfl) ?_
  refine dq rfl (q_field (b := b50) (off := 0) rfl fo_29_0) ?_
  refine QL.nil ?_
  refine RG.step1 59 (by kernel_rfl) ?_
  refine dop rfl (l_store (b := b50) (off := 0) (j := 2) rfl rfl nagg_25 rfl rfl rfl rfl (dlt rfl) ⟨(fun _ h => (h.wk [(0, []), (1, []), (2, [0])] rfl)), ?_⟩)
  refine dend (by kernel_rfl) ?_
  refine eseq ?_
  refine HT.seq ?_
  refine HT.plain ?_
  refine sMv rfl rfl ?_
  refine sqS (q_nil rfl) rfl ?_
  refine sqS (q_field (b := b8) (off := 0) rfl fo_124_12) rfl ?_
  refine sqS (q_load (b := b8) (off := 13) (j := 0) rfl nagg_122 (fun _ h => h) rfl rfl rfl) rfl ?_
  refine sqS (q_len (len := 0) rfl Tryz.underlying122) rfl ?_
  refine sMv rfl rfl ?_
  refine send ?_
  refine eseq ?_
  refine HT.block ?_
  refine HT.loop (ι := Unit) (fun _ => [(4, (.pointer (some ⟨b4, 0, none⟩))), (5, (.bool false)), (6, (.pointer (some ⟨b50, 0, none⟩))), (553, (.slice none 0 0)), (554, (.int .i64 ((0 : Nat) : Int))), (555, (.int .i64 ((0 : Nat) : Int)))]) (fun _ => St w [] [(gtp_t11_k0 b8 A5 c5 n bs), (gtp_t11_k1 b4), ⟨b50, 29, [some (.slice (some ⟨b547, 0, none⟩) 11 11), some (.slice none 0 0), some (.slice none 0 0), some (.slice A5_1 (n - 12) c5_1)], true⟩, ⟨b547, 39, [some (.int .u64 ((((nb bs 0) / 32) &&& 7 : Nat) : Int)), some (.int .u64 ((((nb bs 0) / 16) &&& 1 : Nat) : Int)), some (.int .u64 ((((nb bs 0) / 8) &&& 1 : Nat) : Int)), some (.int .u64 ((bitN false : Nat) : Int)), some (.int .u64 ((bitN true : Nat) : Int)), some (.int .u64 ((bitN true : Nat) : Int)), some (.int .u64 ((nb bs 1 : Nat) : Int)), some (.int .u64 ((bN bs 2 2 : Nat) : Int)), some (.int .u64 ((bN bs 4 4 : Nat) : Int)), some (.int .u64 ((bN bs 8 2 : Nat) : Int)), some (.int .u64 ((nb bs 10 : Nat) : Int))], true⟩] [Byt A5 n c5 bs, Byt A5_1 (n - 12) c5_1 (sl bs 12 n)]) (fun _ => 0) () ⟨rfl, rfl, rfl, rfl, rfl, rfl, trivial⟩ (fun _ h => h) fun _ => ?_
  refine HT.seq ?_
  refine HT.plain ?_
  refine sqS (q_F (q_lt (p := 0) (q := 0) rfl rfl) (by decide)) rfl ?_
  refine send ?_
  refine eseq ?_
  refine HT.seq ?_
  refine HT.no rfl ?_
  refine HT.exit ?_
  refine ex_then ?_
  refine ex_then ?_
  refine ex_in ?_
  refine ein ?_
  refine eseq ?_
  refine HT.seq ?_
  refine HT.plain ?_
  refine sMv rfl rfl ?_
  refine sqS (q_nil rfl) rfl ?_
  refine sqS (q_loadAgg (b := b50) (off := 0) (j := 2) (vs := [(.slice (some ⟨b547, 0, none⟩) 11 11), (.slice none 0 0), (.slice none 0 0), (.slice A5_1 (n - 12) c5_1)]) rfl aggs_29 (fun _ h => h) rfl rfl rfl) rfl ?_
  refine sl_ (l_storeAgg (b := b4) (off := 0) (j := 1) (vs := [(.slice (some ⟨b547, 0, none⟩) 11 11), (.slice none 0 0), (.slice none 0 0), (.slice A5_1 (n - 12) c5_1)]) rfl rfl aggs_29 (by simp [Value.one1]) rfl rfl rfl (Nat.le_of_ble_eq_true rfl) ?_)
  refine sAs rfl rfl ?_
  refine send ?_
  refine eseq ?_
  refine HT.ret ?_
  exact fun a ha w' hw => fin_ ha (resc2 ha Tryz.results47 rfl (ld_ aggs_29 hw (j := 1) rfl rfl (vs := [(.slice (some ⟨b547, 0, none⟩) 11 11), (.slice none 0 0), (.slice none 0 0), (.slice A5_1 (n - 12) c5_1)]) rfl) rfl) ⟨⟨⟨some ⟨b547, 0, none⟩, 11, 11, [((nb bs 0) / 32) &&& 7, ((nb bs 0) / 16) &&& 1, ((nb bs 0) / 8) &&& 1, bitN false, bitN true, bitN true, nb bs 1, bN bs 2 2, bN bs 4 4, bN bs 8 2, nb bs 10]⟩, none, 0, 0, [], none, 0, 0, [], ⟨A5_1, (n - 12), c5_1, (sl bs 12 n)⟩⟩, rfl, hw.pres, Own.lay (all1 (Own.cel hw (j := 3) (sz := 1) (r := []) rfl rfl rfl rfl (Nat.le_refl _)) (all1 (Own.nilCel 1) (all1 (Own.nilCel 2) (all1 (Own.byt hw (j := 1) rfl (fun b h => .inl ((hf1 _ List.mem_cons_self) b h))) all0)))), (LD_eq (lc (show ((nb bs 0) / 32) &&& 7 = (nb bs 0) / 32 from by (have := nb_lt bs 0; first | omega | ((try simp only [zd224, zd240, zd192, zd24, zd56, zd65520, zd4, zd8, zd48, zd112]) <;> (try simp only [zt1, zt2, zt4, zt8, zt16, zt32, zt64, zt128, zt256, zt512, zt1024, zt2048, zt4096, zt8192]) <;> (try simp only [zm1, zm3, zm7, zm15, zm31, zm63, zm127, zm255, zm1023, zm4095, zm1048575, zb1, zb2, zb4, zb8, zb16, zb32, zb64, zb128, zb256, zb512, zb1024, zb2048, zb4096, zb8192, bitN, cond_true, cond_false]) <;> omega) | ((try simp only [zd224, zd240, zd192, zd24, zd56, zd65520, zd4, zd8, zd48, zd112]) <;> (try simp only [zt1, zt2, zt4, zt8, zt16, zt32, zt64, zt128, zt256, zt512, zt1024, zt2048, zt4096, zt8192]) <;> (try simp only [zm1, zm3, zm7, zm15, zm31, zm63, zm127, zm255, zm1023, zm4095, zm1048575, zb1, zb2, zb4, zb8, zb16, zb32, zb64, zb128, zb256, zb512, zb1024, zb2048, zb4096, zb8192, bitN, cond_true, cond_false, lN, bN, Nat.zero_mul, Nat.zero_add, Nat.add_zero, Nat.reduceAdd, Nat.reduceDiv, Nat.reduceMul]) <;> omega))) (lc rfl (lc rfl (lc (show bitN false = ((nb bs 0) / 4) &&& 1 from by (have := nb_lt bs 0; first | omega | ((try simp only [zd224, zd240, zd192, zd24, zd56, zd65520, zd4, zd8, zd48, zd112]) <;> (try simp only [zt1, zt2, zt4, zt8, zt16, zt32, zt64, zt128, zt256, zt512, zt1024, zt2048, zt4096, zt8192]) <;> (try simp only [zm1, zm3, zm7, zm15, zm31, zm63, zm127, zm255, zm1023, zm4095, zm1048575, zb1, zb2, zb4, zb8, zb16, zb32, zb64, zb128, zb256, zb512, zb1024, zb2048, zb4096, zb8192, bitN, cond_true, cond_false]) <;> omega) | ((try simp only [zd224, zd240, zd192, zd24, zd56, zd65520, zd4, zd8, zd48, zd112]) <;> (try simp only [zt1, zt2, zt4, zt8, zt16, zt32, zt64, zt128, zt256, zt512, zt1024, zt2048, zt4096, zt8192]) <;> (try simp only [zm1, zm3, zm7, zm15, zm31, zm63, zm127, zm255, zm1023, zm4095, zm1048575, zb1, zb2, zb4, zb8, zb16, zb32, zb64, zb128, zb256, zb512, zb1024, zb2048, zb4096, zb8192, bitN, cond_true, cond_false, lN, bN, Nat.zero_mul, Nat.zero_add, Nat.add_zero, Nat.reduceAdd, Nat.reduceDiv, Nat.reduceMul]) <;> omega))) (lc (show bitN true = ((nb bs 0) / 2) &&& 1 from by (have := nb_lt bs 0; first | omega | ((try simp only [zd224, zd240, zd192, zd24, zd56, zd65520, zd4, zd8, zd48, zd112]) <;> (try simp only [zt1, zt2, zt4, zt8, zt16, zt32, zt64, zt128, zt256, zt512, zt1024, zt2048, zt4096, zt8192]) <;> (try simp only [zm1, zm3, zm7, zm15, zm31, zm63, zm127, zm255, zm1023, zm4095, zm1048575, zb1, zb2, zb4, zb8, zb16, zb32, zb64, zb128, zb256, zb512, zb1024, zb2048, zb4096, zb8192, bitN, cond_true, cond_false]) <;> omega) | ((try simp only [zd224, zd240, zd192, zd24, zd56, zd65520, zd4, zd8, zd48, zd112]) <;> (try simp only [zt1, zt2, zt4, zt8, zt16, zt32, zt64, zt128, zt256, zt512, zt1024, zt2048, zt4096, zt8192]) <;> (try simp only [zm1, zm3, zm7, zm15, zm31, zm63, zm127, zm255, zm1023, zm4095, zm1048575, zb1, zb2, zb4, zb8, zb16, zb32, zb64, zb128, zb256, zb512, zb1024, zb2048, zb4096, zb8192, bitN, cond_true, cond_false, lN, bN, Nat.zero_mul, Nat.zero_add, Nat.add_zero, Nat.reduceAdd, Nat.reduceDiv, Nat.reduceMul]) <;> omega))) (lc (show bitN true = (nb bs 0) &&& 1 from by (have := nb_lt bs 0; first | omega | ((try simp only [zd224, zd240, zd192, zd24, zd56, zd65520, zd4, zd8, zd48, zd112]) <;> (try simp only [zt1, zt2, zt4, zt8, zt16, zt32, zt64, zt128, zt256, zt512, zt1024, zt2048, zt4096, zt8192]) <;> (try simp only [zm1, zm3, zm7, zm15, zm31, zm63, zm127, zm255, zm1023, zm4095, zm1048575, zb1, zb2, zb4, zb8, zb16, zb32, zb64, zb128, zb256, zb512, zb1024, zb2048, zb4096, zb8192, bitN, cond_true, cond_false]) <;> omega) | ((try simp only [zd224, zd240, zd192, zd24, zd56, zd65520, zd4, zd8, zd48, zd112]) <;> (try simp only [zt1, zt2, zt4, zt8, zt16, zt32, zt64, zt128, zt256, zt512, zt1024, zt2048, zt4096, zt8192]) <;> (try simp only [zm1, zm3, zm7, zm15, zm31, zm63, zm127, zm255, zm1023, zm4095, zm1048575, zb1, zb2, zb4, zb8, zb16, zb32, zb64, zb128, zb256, zb512, zb1024, zb2048, zb4096, zb8192, bitN, cond_true, cond_false, lN, bN, Nat.zero_mul, Nat.zero_add, Nat.add_zero, Nat.reduceAdd, Nat.reduceDiv, Nat.reduceMul]) <;> omega))) (lc rfl (lc rfl (lc rfl (lc rfl (lc rfl rfl))))))))))) rfl rfl (show (sl bs 12 n) = sl bs 12 n from by first | rfl | (exact sl_nil (by omega)) | (congr 1 <;> omega) | (rw [sl_sl (by omega)]; congr 1 <;> omega)))⟩

theorem gtp_I11 (w : World) (A : Option Addr) (n : Nat) (c : Nat) (bs : List UInt8) (hn : n ≤ 400) (ha : 8 ≤ n) (hb : bN bs 2 2 ≤ n - 8) (hc : 12 ≤ n) (hd : 4 ≤ bN bs 2 2) (he : nb bs 0 % 8 = 3) (hst : St w [] [] [Byt A n c bs] w) : Calls Tryz.prog 27 #[(.string ⟨#[103, 116, 112]⟩), (.slice A n c)] w (IP w (Byt A n c bs) (some (some ⟨[(nb bs 0) / 32, ((nb bs 0) / 16) &&& 1, ((nb bs 0) / 8) &&& 1, ((nb bs 0) / 4) &&& 1, ((nb bs 0) / 2) &&& 1, (nb bs 0) &&& 1, nb bs 1, bN bs 2 2, bN bs 4 4, bN bs 8 2, nb bs 10], [], [], sl bs 12 n⟩))) := by
  have hnc00 : n ≤ c := (hst.fact (j := 0) rfl).2.1
  refine enter (vs := [(.string ⟨#[103, 116, 112]⟩), (.slice A n c)]) Tryz.func27 rfl rfl rfl hst ?_
  refine HT.seq ?_
  refine HT.plain ?_
  refine sl_ (l_alloc (by decide) zero_29 fun b4 => ?_)
  refine sAs rfl rfl ?_
  refine send ?_
  refine eseq ?_
  refine HT.seq ?_
  refine HT.plain ?_
  refine sMv rfl rfl ?_
  refine sMv rfl rfl ?_
  refine sl_ (l_callX3 (vs := [(.string ⟨#[103, 116, 112]⟩), (.slice A n c)]) (Kc := []) (Bc := [Byt A n c bs]) [] [0] [Byt A n c bs] (fun b8 A5 c5 => [⟨b4, 29, [some (.slice none 0 0), some (.slice none 0 0), some (.slice none 0 0), some (.slice none 0 0)], true⟩, ⟨b8, 124, [some (.slice (cutA A5 c5 0) (12 - 0) (c5 - 0)), some (.slice (cutA A5 c5 12) (n - 12) (c5 - 12)), some (.int .u8 ((((nb bs 0) / 32) &&& 7 : Nat) : Int)), some (.int .u8 ((((nb bs 0) / 16) &&& 1 : Nat) : Int)), some (.int .u8 ((((nb bs 0) / 8) &&& 1 : Nat) : Int)), some (.bool false), some (.bool true), some (.bool true), some (.int .u8 ((nb bs 1 : Nat) : Int)), some (.int .u16 ((bN bs 2 2 : Nat) : Int)), some (.int .u32 ((bN bs 4 4 : Nat) : Int)), some (.int .u16 ((bN bs 8 2 : Nat) : Int)), some (.int .u8 ((nb bs 10 : Nat) : Int)), some (.slice none 0 0)], true⟩]) (fun b8 A5 c5 => [Byt A n c bs, Byt A5 n c5 bs]) (by decide) rfl ca_46 (fun _ h => h) rfl rfl rfl rfl (fun w h => gtp_e11 w A n c bs (by omega) (by omega) (by omega) (by omega) (by omega) (by omega) h) (fun _ _ _ => rfl) (fun _ _ _ => rfl) (fun _ _ _ => rfl) (fun _ _ _ => rfl) fun b8 A5 c5 hf1 he2 => ?_)
  have hnc3 : n ≤ c5 := by obtain ⟨w, h⟩ := he2; exact (h _ List.mem_cons_self).2.1
  refine sMv rfl rfl ?_
  refine sqS (q_extract (vs := [(.iface 121 (.pointer (some ⟨b8, 0, none⟩))), (.bool true)]) (i := 0) rfl rfl) rfl ?_
  refine sqS (q_extract (vs := [(.iface 121 (.pointer (some ⟨b8, 0, none⟩))), (.bool true)]) (i := 1) rfl rfl) rfl ?_
  refine sAs rfl rfl ?_
  refine sAs rfl rfl ?_
  refine send ?_
  refine eseq ?_
  refine HT.seq ?_
  refine HT.seq ?_
  refine HT.plain ?_
  refine sMv rfl rfl ?_
  refine sqS (q_not rfl) rfl ?_
  refine send ?_
  refine eseq ?_
  refine HT.no rfl ?_
  refine HT.skip ?_
  refine eseq ?_
  refine HT.seq ?_
  refine HT.plain ?_
  refine sMv rfl rfl ?_
  refine sMv rfl rfl ?_
  refine sqS (q_invoke (vs := []) (v := (.slice (cutA A5 c5 12) (n - 12) (c5 - 12))) rfl (fun w => me_121_LayerPayload _ w) rfl ca_120 (fun w h => layPay0 w b8 124 _ _ _ (h.ro (j := 1) rfl))) rfl ?_
  refine sl_ (l_callLay (vs := [(.iface 121 (.pointer (some ⟨b8, 0, none⟩))), (.slice (cutA A5 c5 12) (n - 12) (c5 - 12))]) (tup := fun L => .tuple #[L.val, .bool true]) 1 (by decide) rfl ca_47 rfl (fun w h => gtp_t11 w A5 n c5 bs b8 (by omega) (by omega) (by omega) (by omega) (by omega) (by omega) (h.ro2 (j := 1) rfl (bi := [1]) rfl)) fun L20 hfr hda hoL => ?_)
  refine sqS (q_extract (vs := [(.agg #[(L20.nums.val), (.slice L20.dA L20.dn L20.dc), (.slice L20.pA L20.pn L20.pc), (L20.pay.val)]), (.bool true)]) (i := 0) rfl rfl) rfl ?_
  refine sqS (q_extract (vs := [(.agg #[(L20.nums.val), (.slice L20.dA L20.dn L20.dc), (.slice L20.pA L20.pn L20.pc), (L20.pay.val)]), (.bool true)]) (i := 1) rfl rfl) rfl ?_
  refine sl_ (l_storeAgg (b := b4) (off := 0) (j := 0) (vs := [(L20.nums.val), (.slice L20.dA L20.dn L20.dc), (.slice L20.pA L20.pn L20.pc), (L20.pay.val)]) rfl rfl aggs_29 (by simp [Value.one1]) rfl rfl rfl (Nat.le_of_ble_eq_true rfl) ?_)
  refine sAs rfl rfl ?_
  refine send ?_
  refine eseq ?_
  refine HT.ret ?_
  exact fun a ha w' hw => fin_ ha (resc2 ha Tryz.results27 rfl (ld_ aggs_29 hw (j := 0) rfl rfl (vs := [(L20.nums.val), (.slice L20.dA L20.dn L20.dc), (.slice L20.pA L20.pn L20.pc), (L20.pay.val)]) rfl) rfl) ⟨L20, rfl, hw.pres, ⟨hw.fact (j := 2) rfl, fun i hi => (hfr i hi).elim .inl (fun h => .inl ((hf1 _ List.mem_cons_self) i h))⟩, hda⟩
end Go.Proofs.YtfkaafbeeegenaaGreat.Zed
