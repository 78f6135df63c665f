/- gtp: the package, case 2 -/
import Derived.Test.YtfkaafbeeegenaaGreatGtp0
import Derived.KernelRfl
namespace Go.Proofs.YtfkaafbeeegenaaGreat.Zed
set_option linter.unusedVariables false
set_option linter.unusedSimpArgs false
set_option maxRecDepth 100000
set_option maxHeartbeats 4000000


theorem gtp_q2 (w : World) (A : Option Addr) (n : Nat) (c : Nat) (bs : List UInt8) (hn : n ≤ 400) (ha : 8 ≤ n) (hb : n - 8 < bN bs 2 2) (hc : bN bs 2 2 < 65528) (hd : 12 ≤ n) (he : nb bs 0 / 4 % 2 = 0) (hst : St w [] [] [Byt A n c bs] w) : Calls Tryz.prog 65 #[(.slice A n c)] w (fun e w' => e = .returned (.bool true) ∧ Pres [] w w') := by
  have hnc00 : n ≤ c := (hst.fact (j := 0) rfl).2.1
  refine enter (vs := [(.slice A n c)]) Tryz.func65 rfl rfl rfl hst ?_
  refine HT.seq ?_
  refine HT.plain ?_
  refine sAs rfl rfl ?_
  refine send ?_
  refine eseq ?_
  refine HT.seq ?_
  refine HT.seq ?_
  refine HT.plain ?_
  refine sMv rfl rfl ?_
  refine sqS (q_len (len := n) rfl Tryz.underlying22) rfl ?_
  refine sqS (q_F (q_lt (p := n) (q := 12) rfl rfl) (by omega)) rfl ?_
  refine sMv rfl rfl ?_
  refine sgqS rfl (q_move rfl) rfl ?_
  refine sgqS rfl (q_index (i := 0) (j := 0) rfl rfl Tryz.underlying22 nagg_5 (fun _ h => h) rfl (by omega)) rfl ?_
  refine sgqS rfl (q_byte (i := 0) (j := 0) rfl nagg_5 (fun _ h => h) rfl (by omega)) rfl ?_
  refine sgqS rfl (q_and (p := nb bs 0) (q := 4) rfl rfl rfl (show nb bs 0 < 256 by have := nb_lt bs 0; omega) (by decide)) rfl ?_
  refine sgqS rfl (q_T (q_eq (p := (nb bs 0) &&& 4) (q := 0) rfl rfl) (by have := nb_lt bs 0; have := zb4 (nb bs 0); have := Nat.and_le_left (n := nb bs 0) (m := 4); have := Nat.and_le_right (n := nb bs 0) (m := 4); omega)) rfl ?_
  refine sqS (q_pick rfl (fun h => nomatch h) (fun _ => rfl)) rfl ?_
  refine send ?_
  refine eseq ?_
  refine HT.yes rfl ?_
  refine HT.seq ?_
  refine HT.plain ?_
  refine sAs rfl rfl ?_
  refine send ?_
  refine eseq ?_
  refine HT.ret ?_
  refine rt_then ?_
  exact fun a ha w' hw => fin_ ha (res1 ha Tryz.results65 rfl) ⟨rfl, hw.pres⟩

theorem gtp_c2 (w : World) (A : Option Addr) (n : Nat) (c : Nat) (bs : List UInt8) (hn : n ≤ 400) (ha : 8 ≤ n) (hb : n - 8 < bN bs 2 2) (hc : bN bs 2 2 < 65528) (hd : 12 ≤ n) (he : nb bs 0 / 4 % 2 = 0) (hst : St w [] [] [Byt A n c bs] w) : Calls Tryz.prog 57 #[(.string ⟨#[103, 116, 112]⟩), (.slice A n c)] w (fun e w' => e = .returned (.bool true) ∧ Pres [] w w') := by
  have hnc00 : n ≤ c := (hst.fact (j := 0) rfl).2.1
  refine enter (vs := [(.string ⟨#[103, 116, 112]⟩), (.slice A n c)]) Tryz.func57 rfl rfl rfl hst ?_
  refine HT.seq ?_
  refine HT.plain ?_
  refine sAs rfl rfl ?_
  refine send ?_
  refine eseq ?_
  refine HT.seq ?_
  refine HT.seq ?_
  refine HT.plain ?_
  refine sMv rfl rfl ?_
  refine send ?_
  refine eseq ?_
  refine HT.block ?_
  refine HT.seq ?_
  refine HT.plain ?_
  refine sqS (q_eqs rfl rfl (r := false) (by kernel_rfl)) rfl ?_
  refine sAs rfl rfl ?_
  refine send ?_
  refine eseq ?_
  refine HT.no rfl ?_
  refine HT.seq ?_
  refine HT.plain ?_
  refine sqS (q_eqs rfl rfl (r := false) (by kernel_rfl)) rfl ?_
  refine sAs rfl rfl ?_
  refine send ?_
  refine eseq ?_
  refine HT.no rfl ?_
  refine HT.seq ?_
  refine HT.plain ?_
  refine sqS (q_eqs rfl rfl (r := false) (by kernel_rfl)) rfl ?_
  refine sAs rfl rfl ?_
  refine send ?_
  refine eseq ?_
  refine HT.no rfl ?_
  refine HT.seq ?_
  refine HT.plain ?_
  refine sqS (q_eqs rfl rfl (r := false) (by kernel_rfl)) rfl ?_
  refine sAs rfl rfl ?_
  refine send ?_
  refine eseq ?_
  refine HT.no rfl ?_
  refine HT.seq ?_
  refine HT.plain ?_
  refine sqS (q_eqs rfl rfl (r := false) (by kernel_rfl)) rfl ?_
  refine sAs rfl rfl ?_
  refine send ?_
  refine eseq ?_
  refine HT.no rfl ?_
  refine HT.seq ?_
  refine HT.seq ?_
  refine HT.plain ?_
  refine sqS (q_eqs rfl rfl (r := false) (by kernel_rfl)) rfl ?_
  refine sAs rfl rfl ?_
  refine send ?_
  refine eseq ?_
  refine HT.no rfl ?_
  refine HT.seq ?_
  refine HT.plain ?_
  refine sqS (q_eqs rfl rfl (r := false) (by kernel_rfl)) rfl ?_
  refine sAs rfl rfl ?_
  refine send ?_
  refine eseq ?_
  refine HT.no rfl ?_
  refine HT.plain ?_
  refine sqS (q_eqs rfl rfl (r := false) (by kernel_rfl)) rfl ?_
  refine sAs rfl rfl ?_
  refine send ?_
  refine eseq ?_
  refine HT.no rfl ?_
  refine HT.seq ?_
  refine HT.plain ?_
  refine sqS (q_eqs rfl rfl (r := false) (by kernel_rfl)) rfl ?_
  refine sAs rfl rfl ?_
  refine send ?_
  refine eseq ?_
  refine HT.no rfl ?_
  refine HT.seq ?_
  refine HT.plain ?_
  refine sqS (q_eqs rfl rfl (r := false) (by kernel_rfl)) rfl ?_
  refine sAs rfl rfl ?_
  refine send ?_
  refine eseq ?_
  refine HT.no rfl ?_
  refine HT.seq ?_
  refine HT.plain ?_
  refine sqS (q_eqs rfl rfl (r := false) (by kernel_rfl)) rfl ?_
  refine sAs rfl rfl ?_
  refine send ?_
  refine eseq ?_
  refine HT.no rfl ?_
  refine HT.seq ?_
  refine HT.plain ?_
  refine sqS (q_eqs rfl rfl (r := true) (by kernel_rfl)) rfl ?_
  refine sAs rfl rfl ?_
  refine send ?_
  refine eseq ?_
  refine HT.yes rfl ?_
  refine HT.seq ?_
  refine HT.plain ?_
  refine sMv rfl rfl ?_
  refine sqS (q_call (vs := [(.slice A n c)]) (v := (.bool true)) rfl ca_65 (fun w h => gtp_q2 w A n c bs (by omega) (by omega) (by omega) (by omega) (by omega) (by omega) (St.enter (sp := []) (Kc := []) (bi := [0]) h rfl rfl rfl))) rfl ?_
  refine sAs rfl rfl ?_
  refine send ?_
  refine eseq ?_
  refine HT.ret ?_
  refine rt_in ?_
  refine rt_then ?_
  exact fun a ha w' hw => fin_ ha (res1 ha Tryz.results57 rfl) ⟨rfl, hw.pres⟩

theorem gtp_m1_2 (w : World) (A : Option Addr) (n : Nat) (c : Nat) (bs : List UInt8) (rb : Nat) (kb : Nat) (hn : n ≤ 400) (ha : 8 ≤ n) (hb : n - 8 < bN bs 2 2) (hc : bN bs 2 2 < 65528) (hd : 12 ≤ n) (he : nb bs 0 / 4 % 2 = 0) (hst : St w [rb] [⟨rb, 124, [some (.slice none 0 0), some (.slice none 0 0), some (.int .u8 ((0 : Nat) : Int)), some (.int .u8 ((0 : Nat) : Int)), some (.int .u8 ((0 : Nat) : Int)), some (.bool false), some (.bool false), some (.bool false), some (.int .u8 ((0 : Nat) : Int)), some (.int .u16 ((0 : Nat) : Int)), some (.int .u32 ((0 : Nat) : Int)), some (.int .u16 ((0 : Nat) : Int)), some (.int .u8 ((0 : Nat) : Int)), some (.slice none 0 0)], true⟩] [Byt A n c bs] w) : Calls Tryz.prog 98 #[(.pointer (some ⟨rb, 0, none⟩)), (.slice A n c), (.iface 199 (.pointer (some ⟨kb, 0, none⟩)))] w (CP1 w [rb] [Byt A n c bs] (fun b5 => (.iface 204 (.pointer (some ⟨b5, 0, none⟩)))) (fun b5 => [⟨rb, 124, [some (.slice none 0 0), some (.slice none 0 0), some (.int .u8 ((((nb bs 0) / 32) &&& 7 : Nat) : Int)), some (.int .u8 ((((nb bs 0) / 16) &&& 1 : Nat) : Int)), some (.int .u8 ((((nb bs 0) / 8) &&& 1 : Nat) : Int)), some (.bool false), some (.bool (decide (((nb bs 0) / 2) &&& 1 = 1))), some (.bool (decide ((nb bs 0) &&& 1 = 1))), some (.int .u8 ((nb bs 1 : Nat) : Int)), some (.int .u16 ((bN bs 2 2 : Nat) : Int)), some (.int .u32 ((0 : Nat) : Int)), some (.int .u16 ((0 : Nat) : Int)), some (.int .u8 ((0 : Nat) : Int)), some (.slice none 0 0)], true⟩, ⟨b5, 206, [some (.string (⟨#[71, 84, 80, 32, 112, 97, 99, 107, 101, 116, 32, 116, 111, 111, 32, 115, 109, 97, 108, 108, 58, 32, 98, 121, 116, 101, 115]⟩))], true⟩]) (fun b5 => [])) := by
  have hnc00 : n ≤ c := (hst.fact (j := 0) rfl).2.1
  refine enter (vs := [(.pointer (some ⟨rb, 0, none⟩)), (.slice A n c), (.iface 199 (.pointer (some ⟨kb, 0, none⟩)))]) Tryz.func98 rfl rfl rfl hst ?_
  refine HT.seq ?_
  refine HT.plain ?_
  refine sAs rfl rfl ?_
  refine send ?_
  refine eseq ?_
  refine HT.seq ?_
  refine HT.plain ?_
  refine sAs rfl rfl ?_
  refine send ?_
  refine eseq ?_
  refine HT.seq ?_
  refine HT.plain ?_
  refine sMv rfl rfl ?_
  refine sqS (q_len (len := n) rfl Tryz.underlying22) rfl ?_
  refine sAs rfl rfl ?_
  refine send ?_
  refine eseq ?_
  refine HT.seq ?_
  refine HT.seq ?_
  refine HT.plain ?_
  refine sMv rfl rfl ?_
  refine sMv rfl rfl ?_
  refine sqS (q_F (q_lt (p := n) (q := 8) rfl rfl) (by omega)) rfl ?_
  refine send ?_
  refine eseq ?_
  refine HT.no rfl ?_
  refine HT.skip ?_
  refine eseq ?_
  refine HT.seq ?_
  refine HT.plain ?_
  refine sMv rfl rfl ?_
  refine sMv rfl rfl ?_
  refine sqS (q_index (i := 0) (j := 0) rfl rfl Tryz.underlying22 nagg_5 (fun _ h => h) rfl (by omega)) rfl ?_
  refine sqS (q_byte (i := 0) (j := 0) rfl nagg_5 (fun _ h => h) rfl (by omega)) rfl ?_
  refine sqS (q_shr (p := nb bs 0) (e := 5) (N := 32) rfl rfl (by decide) rfl) rfl ?_
  refine sqS (q_and (p := (nb bs 0) / 32) (q := 7) rfl rfl rfl (show (nb bs 0) / 32 < 256 by have := nb_lt bs 0; omega) (by decide)) rfl ?_
  refine sqS (q_nil rfl) rfl ?_
  refine sqS (q_field (b := rb) (off := 0) rfl fo_124_1) rfl ?_
  refine sl_ (l_store (b := rb) (off := 2) (j := 0) rfl rfl nagg_5 rfl rfl rfl rfl (dlt rfl) ?_)
  refine send ?_
  refine eseq ?_
  refine HT.seq ?_
  refine HT.plain ?_
  refine sMv rfl rfl ?_
  refine sMv rfl rfl ?_
  refine sqS (q_index (i := 0) (j := 0) rfl rfl Tryz.underlying22 nagg_5 (fun _ h => h) rfl (by omega)) rfl ?_
  refine sqS (q_byte (i := 0) (j := 0) rfl nagg_5 (fun _ h => h) rfl (by omega)) rfl ?_
  refine sqS (q_shr (p := nb bs 0) (e := 4) (N := 16) rfl rfl (by decide) rfl) rfl ?_
  refine sqS (q_and (p := (nb bs 0) / 16) (q := 1) rfl rfl rfl (show (nb bs 0) / 16 < 256 by have := nb_lt bs 0; omega) (by decide)) rfl ?_
  refine sqS (q_nil rfl) rfl ?_
  refine sqS (q_field (b := rb) (off := 0) rfl fo_124_2) rfl ?_
  refine sl_ (l_store (b := rb) (off := 3) (j := 0) rfl rfl nagg_5 rfl rfl rfl rfl (dlt rfl) ?_)
  refine send ?_
  refine eseq ?_
  refine HT.seq ?_
  refine HT.plain ?_
  refine sMv rfl rfl ?_
  refine sMv rfl rfl ?_
  refine sqS (q_index (i := 0) (j := 0) rfl rfl Tryz.underlying22 nagg_5 (fun _ h => h) rfl (by omega)) rfl ?_
  refine sqS (q_byte (i := 0) (j := 0) rfl nagg_5 (fun _ h => h) rfl (by omega)) rfl ?_
  refine sqS (q_shr (p := nb bs 0) (e := 3) (N := 8) rfl rfl (by decide) rfl) rfl ?_
  refine sqS (q_and (p := (nb bs 0) / 8) (q := 1) rfl rfl rfl (show (nb bs 0) / 8 < 256 by have := nb_lt bs 0; omega) (by decide)) rfl ?_
  refine sqS (q_nil rfl) rfl ?_
  refine sqS (q_field (b := rb) (off := 0) rfl fo_124_3) rfl ?_
  refine sl_ (l_store (b := rb) (off := 4) (j := 0) rfl rfl nagg_5 rfl rfl rfl rfl (dlt rfl) ?_)
  refine send ?_
  refine eseq ?_
  refine HT.seq ?_
  refine HT.plain ?_
  refine sMv rfl rfl ?_
  refine sMv rfl rfl ?_
  refine sqS (q_index (i := 0) (j := 0) rfl rfl Tryz.underlying22 nagg_5 (fun _ h => h) rfl (by omega)) rfl ?_
  refine sqS (q_byte (i := 0) (j := 0) rfl nagg_5 (fun _ h => h) rfl (by omega)) rfl ?_
  refine sqS (q_shr (p := nb bs 0) (e := 1) (N := 2) rfl rfl (by decide) rfl) rfl ?_
  refine sqS (q_and (p := (nb bs 0) / 2) (q := 1) rfl rfl rfl (show (nb bs 0) / 2 < 256 by have := nb_lt bs 0; omega) (by decide)) rfl ?_
  refine sqS (q_eq (p := ((nb bs 0) / 2) &&& 1) (q := 1) rfl rfl) rfl ?_
  refine sqS (q_nil rfl) rfl ?_
  refine sqS (q_field (b := rb) (off := 0) rfl fo_124_5) rfl ?_
  refine sl_ (l_store (b := rb) (off := 6) (j := 0) rfl rfl nagg_4 rfl rfl rfl rfl (dlt rfl) ?_)
  refine send ?_
  refine eseq ?_
  refine HT.seq ?_
  refine HT.plain ?_
  refine sMv rfl rfl ?_
  refine sMv rfl rfl ?_
  refine sqS (q_index (i := 0) (j := 0) rfl rfl Tryz.underlying22 nagg_5 (fun _ h => h) rfl (by omega)) rfl ?_
  refine sqS (q_byte (i := 0) (j := 0) rfl nagg_5 (fun _ h => h) rfl (by omega)) rfl ?_
  refine sqS (q_and (p := nb bs 0) (q := 1) rfl rfl rfl (show nb bs 0 < 256 by have := nb_lt bs 0; omega) (by decide)) rfl ?_
  refine sqS (q_eq (p := (nb bs 0) &&& 1) (q := 1) rfl rfl) rfl ?_
  refine sqS (q_nil rfl) rfl ?_
  refine sqS (q_field (b := rb) (off := 0) rfl fo_124_6) rfl ?_
  refine sl_ (l_store (b := rb) (off := 7) (j := 0) rfl rfl nagg_4 rfl rfl rfl rfl (dlt rfl) ?_)
  refine send ?_
  refine eseq ?_
  refine HT.seq ?_
  refine HT.plain ?_
  refine sMv rfl rfl ?_
  refine sMv rfl rfl ?_
  refine sqS (q_index (i := 0) (j := 0) rfl rfl Tryz.underlying22 nagg_5 (fun _ h => h) rfl (by omega)) rfl ?_
  refine sqS (q_byte (i := 0) (j := 0) rfl nagg_5 (fun _ h => h) rfl (by omega)) rfl ?_
  refine sqS (q_shr (p := nb bs 0) (e := 2) (N := 4) rfl rfl (by decide) rfl) rfl ?_
  refine sqS (q_and (p := (nb bs 0) / 4) (q := 1) rfl rfl rfl (show (nb bs 0) / 4 < 256 by have := nb_lt bs 0; omega) (by decide)) rfl ?_
  refine sqS (q_F (q_eq (p := ((nb bs 0) / 4) &&& 1) (q := 1) rfl rfl) (by have := nb_lt bs 0; have := zm1 ((nb bs 0) / 4); have := Nat.and_le_left (n := (nb bs 0) / 4) (m := 1); have := Nat.and_le_right (n := (nb bs 0) / 4) (m := 1); omega)) rfl ?_
  refine sqS (q_nil rfl) rfl ?_
  refine sqS (q_field (b := rb) (off := 0) rfl fo_124_4) rfl ?_
  refine sl_ (l_store (b := rb) (off := 5) (j := 0) rfl rfl nagg_4 rfl rfl rfl rfl (dlt rfl) ?_)
  refine send ?_
  refine eseq ?_
  refine HT.seq ?_
  refine HT.plain ?_
  refine sMv rfl rfl ?_
  refine sMv rfl rfl ?_
  refine sqS (q_index (i := 1) (j := 0) rfl rfl Tryz.underlying22 nagg_5 (fun _ h => h) rfl (by omega)) rfl ?_
  refine sqS (q_byte (i := 1) (j := 0) rfl nagg_5 (fun _ h => h) rfl (by omega)) rfl ?_
  refine sqS (q_nil rfl) rfl ?_
  refine sqS (q_field (b := rb) (off := 0) rfl fo_124_7) rfl ?_
  refine sl_ (l_store (b := rb) (off := 8) (j := 0) rfl rfl nagg_5 rfl rfl rfl rfl (dlt rfl) ?_)
  refine send ?_
  refine eseq ?_
  refine HT.seq ?_
  refine HT.drawn mixed (St.closed _ _ _ _) (St w [rb] [⟨rb, 124, [some (.slice none 0 0), some (.slice none 0 0), some (.int .u8 ((((nb bs 0) / 32) &&& 7 : Nat) : Int)), some (.int .u8 ((((nb bs 0) / 16) &&& 1 : Nat) : Int)), some (.int .u8 ((((nb bs 0) / 8) &&& 1 : Nat) : Int)), some (.bool false), some (.bool (decide (((nb bs 0) / 2) &&& 1 = 1))), some (.bool (decide ((nb bs 0) &&& 1 = 1))), some (.int .u8 ((nb bs 1 : Nat) : Int)), none, some (.int .u32 ((0 : Nat) : Int)), some (.int .u16 ((0 : Nat) : Int)), some (.int .u8 ((0 : Nat) : Int)), some (.slice none 0 0)], true⟩] [Byt A n c bs]) ?_
  refine dtake (f := 1) [0, 1, 2, 3, 4, 5, 6] (by kernel_rfl) (St.closed _ _ _ _) (fun _ h => (h.wk [(0, [9])] rfl)) (by kernel_rfl) ?_
  refine dq rfl (q_move rfl) ?_
  refine dq rfl (q_loadEmpty rfl aggs_210) ?_
  refine dq rfl (q_move rfl) ?_
  refine dq rfl (q_slice (lo := 2) (hi := 4) rfl Tryz.underlying22 nagg_5 (.inr ⟨_, _, rfl, rfl⟩) (.inr ⟨_, _, rfl, rfl⟩) (by omega) (by omega)) ?_
  refine dq rfl (q_call (vs := [(.agg #[]), (.slice (cutA A c 2) (4 - 2) (c - 2))]) (v := (.int .u16 ((bN bs 2 2 : Nat) : Int))) rfl ca_91 (fun w h => U16 w A n c bs (lo := 2) (hi := 4) (h.fact (j := 0) rfl) (by omega) (by omega))) ?_
  refine dq rfl (q_nil rfl) ?_
  refine dq rfl (q_field (b := rb) (off := 0) rfl fo_124_8) ?_
  refine QL.nil ?_
  refine RG.step1 7 (by kernel_rfl) ?_
  refine dop rfl (l_store (b := rb) (off := 9) (j := 0) rfl rfl nagg_70 rfl rfl rfl rfl (dlt rfl) ⟨(fun _ h => (h.wk [(0, [9])] rfl)), ?_⟩)
  refine dend (by kernel_rfl) ?_
  refine eseq ?_
  refine HT.seq ?_
  refine HT.plain ?_
  refine sMv rfl rfl ?_
  refine sqS (q_nil rfl) rfl ?_
  refine sqS (q_field (b := rb) (off := 0) rfl fo_124_8) rfl ?_
  refine sqS (q_load (b := rb) (off := 9) (j := 0) rfl nagg_70 (fun _ h => h) rfl rfl rfl) rfl ?_
  refine sqS (q_add (p := 8) (q := bN bs 2 2) rfl rfl (show 8 + (bN bs 2 2) < 65536 by have := bN_lt bs 2 2 65536 rfl; omega)) rfl ?_
  refine sAs rfl rfl ?_
  refine send ?_
  refine eseq ?_
  refine HT.seq ?_
  refine HT.seq ?_
  refine HT.plain ?_
  refine sMv rfl rfl ?_
  refine sqS (q_convn (p := n) rfl Tryz.underlying3 Tryz.underlying70 (show n < 65536 by omega)) rfl ?_
  refine sMv rfl rfl ?_
  refine sqS (q_T (q_lt (p := n) (q := 8 + (bN bs 2 2)) rfl rfl) (by have := bN_lt bs 2 2 65536 rfl; omega)) rfl ?_
  refine send ?_
  refine eseq ?_
  refine HT.yes rfl ?_
  refine HT.seq ?_
  refine HT.plain ?_
  refine sl_ (l_callX1 (vs := [(.string ⟨#[71, 84, 80, 32, 112, 97, 99, 107, 101, 116, 32, 116, 111, 111, 32, 115, 109, 97, 108, 108, 58, 32, 98, 121, 116, 101, 115]⟩)]) (Kc := []) (Bc := []) [] [] [Byt A n c bs] (fun b5 => [⟨rb, 124, [some (.slice none 0 0), some (.slice none 0 0), some (.int .u8 ((((nb bs 0) / 32) &&& 7 : Nat) : Int)), some (.int .u8 ((((nb bs 0) / 16) &&& 1 : Nat) : Int)), some (.int .u8 ((((nb bs 0) / 8) &&& 1 : Nat) : Int)), some (.bool false), some (.bool (decide (((nb bs 0) / 2) &&& 1 = 1))), some (.bool (decide ((nb bs 0) &&& 1 = 1))), some (.int .u8 ((nb bs 1 : Nat) : Int)), some (.int .u16 ((bN bs 2 2 : Nat) : Int)), some (.int .u32 ((0 : Nat) : Int)), some (.int .u16 ((0 : Nat) : Int)), some (.int .u8 ((0 : Nat) : Int)), some (.slice none 0 0)], true⟩, ⟨b5, 206, [some (.string (⟨#[71, 84, 80, 32, 112, 97, 99, 107, 101, 116, 32, 116, 111, 111, 32, 115, 109, 97, 108, 108, 58, 32, 98, 121, 116, 101, 115]⟩))], true⟩]) (fun b5 => [Byt A n c bs]) (by decide) rfl ca_67 (fun _ h => h) rfl rfl rfl rfl (fun w h => errNew w (⟨#[71, 84, 80, 32, 112, 97, 99, 107, 101, 116, 32, 116, 111, 111, 32, 115, 109, 97, 108, 108, 58, 32, 98, 121, 116, 101, 115]⟩)  h) (fun _ => rfl) (fun _ => rfl) (fun _ => rfl) (fun _ => rfl) fun b5 hf1 he2 => ?_)
  refine sAs rfl rfl ?_
  refine send ?_
  refine eseq ?_
  refine HT.ret ?_
  refine rt_then ?_
  exact fun a ha w' hw => fin_ ha (res1 ha Tryz.results98 rfl) ⟨b5, rfl, hw, fr0⟩

theorem gtp_d2 (w : World) (A : Option Addr) (n : Nat) (c : Nat) (bs : List UInt8) (kb : Nat) (hn : n ≤ 400) (ha : 8 ≤ n) (hb : n - 8 < bN bs 2 2) (hc : bN bs 2 2 < 65528) (hd : 12 ≤ n) (he : nb bs 0 / 4 % 2 = 0) (hst : St w [kb] [⟨kb, 201, [some .nilIface], true⟩] [Byt A n c bs] w) : Calls Tryz.prog 80 #[(.slice A n c), (.iface 199 (.pointer (some ⟨kb, 0, none⟩)))] w (CP1 w [kb] [Byt A n c bs] (fun b5 => (.iface 204 (.pointer (some ⟨b5, 0, none⟩)))) (fun b5 => [⟨kb, 201, [some .nilIface], true⟩, ⟨b5, 206, [some (.string (⟨#[71, 84, 80, 32, 112, 97, 99, 107, 101, 116, 32, 116, 111, 111, 32, 115, 109, 97, 108, 108, 58, 32, 98, 121, 116, 101, 115]⟩))], true⟩]) (fun b5 => [])) := by
  have hnc00 : n ≤ c := (hst.fact (j := 0) rfl).2.1
  refine enter (vs := [(.slice A n c), (.iface 199 (.pointer (some ⟨kb, 0, none⟩)))]) Tryz.func80 rfl rfl rfl hst ?_
  refine HT.seq ?_
  refine HT.plain ?_
  refine sAs rfl rfl ?_
  refine send ?_
  refine eseq ?_
  refine HT.seq ?_
  refine HT.plain ?_
  refine sqS (q_build (vs := []) (v := (.agg #[(.slice none 0 0), (.slice none 0 0), (.int .u8 ((0 : Nat) : Int)), (.int .u8 ((0 : Nat) : Int)), (.int .u8 ((0 : Nat) : Int)), (.bool false), (.bool false), (.bool false), (.int .u8 ((0 : Nat) : Int)), (.int .u16 ((0 : Nat) : Int)), (.int .u32 ((0 : Nat) : Int)), (.int .u16 ((0 : Nat) : Int)), (.int .u8 ((0 : Nat) : Int)), (.slice none 0 0)])) rfl (fun _ => by kernel_rfl)) rfl ?_
  refine sl_ (l_box (by decide) rfl fun b8 => ?_)
  refine sAs rfl rfl ?_
  refine send ?_
  refine eseq ?_
  refine HT.seq ?_
  refine HT.plain ?_
  refine sMv rfl rfl ?_
  refine sMv rfl rfl ?_
  refine sMv rfl rfl ?_
  refine sl_ (l_callX1 (vs := [(.pointer (some ⟨b8, 0, none⟩)), (.slice A n c), (.iface 199 (.pointer (some ⟨kb, 0, none⟩)))]) (Kc := [⟨b8, 124, [some (.slice none 0 0), some (.slice none 0 0), some (.int .u8 ((0 : Nat) : Int)), some (.int .u8 ((0 : Nat) : Int)), some (.int .u8 ((0 : Nat) : Int)), some (.bool false), some (.bool false), some (.bool false), some (.int .u8 ((0 : Nat) : Int)), some (.int .u16 ((0 : Nat) : Int)), some (.int .u32 ((0 : Nat) : Int)), some (.int .u16 ((0 : Nat) : Int)), some (.int .u8 ((0 : Nat) : Int)), some (.slice none 0 0)], true⟩]) (Bc := [Byt A n c bs]) [1] [0] [Byt A n c bs] (fun b5 => [⟨kb, 201, [some .nilIface], true⟩, ⟨b8, 124, [some (.slice none 0 0), some (.slice none 0 0), some (.int .u8 ((((nb bs 0) / 32) &&& 7 : Nat) : Int)), some (.int .u8 ((((nb bs 0) / 16) &&& 1 : Nat) : Int)), some (.int .u8 ((((nb bs 0) / 8) &&& 1 : Nat) : Int)), some (.bool false), some (.bool (decide (((nb bs 0) / 2) &&& 1 = 1))), some (.bool (decide ((nb bs 0) &&& 1 = 1))), some (.int .u8 ((nb bs 1 : Nat) : Int)), some (.int .u16 ((bN bs 2 2 : Nat) : Int)), some (.int .u32 ((0 : Nat) : Int)), some (.int .u16 ((0 : Nat) : Int)), some (.int .u8 ((0 : Nat) : Int)), some (.slice none 0 0)], true⟩, ⟨b5, 206, [some (.string (⟨#[71, 84, 80, 32, 112, 97, 99, 107, 101, 116, 32, 116, 111, 111, 32, 115, 109, 97, 108, 108, 58, 32, 98, 121, 116, 101, 115]⟩))], true⟩]) (fun b5 => [Byt A n c bs]) (by decide) rfl ca_98 (fun _ h => h) rfl rfl rfl rfl (fun w h => gtp_m1_2 w A n c bs b8 kb (by omega) (by omega) (by omega) (by omega) (by omega) (by omega) h) (fun _ => rfl) (fun _ => rfl) (fun _ => rfl) (fun _ => rfl) fun b5 hf1 he2 => ?_)
  refine sAs rfl rfl ?_
  refine send ?_
  refine eseq ?_
  refine HT.seq ?_
  refine HT.seq ?_
  refine HT.plain ?_
  refine sMv rfl rfl ?_
  refine sqS (q_notNil' rfl rfl Tryz.underlying59) rfl ?_
  refine send ?_
  refine eseq ?_
  refine HT.yes rfl ?_
  refine HT.seq ?_
  refine HT.plain ?_
  refine sMv rfl rfl ?_
  refine sAs rfl rfl ?_
  refine send ?_
  refine eseq ?_
  refine HT.ret ?_
  refine rt_then ?_
  exact fun a ha w' hw => fin_ ha (res1 ha Tryz.results80 rfl) ⟨b5, rfl, (hw.wk [(0, []), (2, [])] rfl), fr0⟩

theorem gtp_z2 (w : World) (A : Option Addr) (n : Nat) (c : Nat) (bs : List UInt8) (hn : n ≤ 400) (ha : 8 ≤ n) (hb : n - 8 < bN bs 2 2) (hc : bN bs 2 2 < 65528) (hd : 12 ≤ n) (he : nb bs 0 / 4 % 2 = 0) (hst : St w [] [] [Byt A n c bs] w) : Calls Tryz.prog 58 #[(.string ⟨#[103, 116, 112]⟩), (.slice A n c)] w (CP1 w [] [Byt A n c bs] (fun b5_1 => (.tuple #[.nilIface, (.iface 204 (.pointer (some ⟨b5_1, 0, none⟩)))])) (fun b5_1 => [⟨b5_1, 206, [some (.string (⟨#[71, 84, 80, 32, 112, 97, 99, 107, 101, 116, 32, 116, 111, 111, 32, 115, 109, 97, 108, 108, 58, 32, 98, 121, 116, 101, 115]⟩))], true⟩]) (fun b5_1 => [])) := by
  have hnc00 : n ≤ c := (hst.fact (j := 0) rfl).2.1
  refine enter (vs := [(.string ⟨#[103, 116, 112]⟩), (.slice A n c)]) Tryz.func58 rfl rfl rfl hst ?_
  refine HT.seq ?_
  refine HT.plain ?_
  refine sAs rfl rfl ?_
  refine sAs rfl rfl ?_
  refine send ?_
  refine eseq ?_
  refine HT.seq ?_
  refine HT.plain ?_
  refine sqS (q_build (vs := []) (v := (.agg #[.nilIface])) rfl (fun _ => by kernel_rfl)) rfl ?_
  refine sl_ (l_box (by decide) rfl fun b9 => ?_)
  refine sAs rfl rfl ?_
  refine send ?_
  refine eseq ?_
  refine HT.seq ?_
  refine HT.plain ?_
  refine sl_ (l_callX1 (vs := [(.string ⟨#[110, 111, 32, 107, 105, 110, 100]⟩)]) (Kc := []) (Bc := []) [] [] [Byt A n c bs] (fun b5 => [⟨b9, 201, [some .nilIface], true⟩, ⟨b5, 206, [some (.string (⟨#[110, 111, 32, 107, 105, 110, 100]⟩))], true⟩]) (fun b5 => [Byt A n c bs]) (by decide) rfl ca_67 (fun _ h => h) rfl rfl rfl rfl (fun w h => errNew w (⟨#[110, 111, 32, 107, 105, 110, 100]⟩)  h) (fun _ => rfl) (fun _ => rfl) (fun _ => rfl) (fun _ => rfl) fun b5 hf1 he2 => ?_)
  refine sAs rfl rfl ?_
  refine send ?_
  refine eseq ?_
  refine HT.seq ?_
  refine HT.seq ?_
  refine HT.plain ?_
  refine sMv rfl rfl ?_
  refine send ?_
  refine eseq ?_
  refine HT.block ?_
  refine HT.seq ?_
  refine HT.plain ?_
  refine sqS (q_eqs rfl rfl (r := false) (by kernel_rfl)) rfl ?_
  refine sAs rfl rfl ?_
  refine send ?_
  refine eseq ?_
  refine HT.no rfl ?_
  refine HT.seq ?_
  refine HT.plain ?_
  refine sqS (q_eqs rfl rfl (r := false) (by kernel_rfl)) rfl ?_
  refine sAs rfl rfl ?_
  refine send ?_
  refine eseq ?_
  refine HT.no rfl ?_
  refine HT.seq ?_
  refine HT.plain ?_
  refine sqS (q_eqs rfl rfl (r := false) (by kernel_rfl)) rfl ?_
  refine sAs rfl rfl ?_
  refine send ?_
  refine eseq ?_
  refine HT.no rfl ?_
  refine HT.seq ?_
  refine HT.plain ?_
  refine sqS (q_eqs rfl rfl (r := false) (by kernel_rfl)) rfl ?_
  refine sAs rfl rfl ?_
  refine send ?_
  refine eseq ?_
  refine HT.no rfl ?_
  refine HT.seq ?_
  refine HT.plain ?_
  refine sqS (q_eqs rfl rfl (r := false) (by kernel_rfl)) rfl ?_
  refine sAs rfl rfl ?_
  refine send ?_
  refine eseq ?_
  refine HT.no rfl ?_
  refine HT.seq ?_
  refine HT.plain ?_
  refine sqS (q_eqs rfl rfl (r := false) (by kernel_rfl)) rfl ?_
  refine sAs rfl rfl ?_
  refine send ?_
  refine eseq ?_
  refine HT.no rfl ?_
  refine HT.seq ?_
  refine HT.plain ?_
  refine sqS (q_eqs rfl rfl (r := false) (by kernel_rfl)) rfl ?_
  refine sAs rfl rfl ?_
  refine send ?_
  refine eseq ?_
  refine HT.no rfl ?_
  refine HT.seq ?_
  refine HT.plain ?_
  refine sqS (q_eqs rfl rfl (r := false) (by kernel_rfl)) rfl ?_
  refine sAs rfl rfl ?_
  refine send ?_
  refine eseq ?_
  refine HT.no rfl ?_
  refine HT.seq ?_
  refine HT.plain ?_
  refine sqS (q_eqs rfl rfl (r := false) (by kernel_rfl)) rfl ?_
  refine sAs rfl rfl ?_
  refine send ?_
  refine eseq ?_
  refine HT.no rfl ?_
  refine HT.seq ?_
  refine HT.plain ?_
  refine sqS (q_eqs rfl rfl (r := false) (by kernel_rfl)) rfl ?_
  refine sAs rfl rfl ?_
  refine send ?_
  refine eseq ?_
  refine HT.no rfl ?_
  refine HT.seq ?_
  refine HT.plain ?_
  refine sqS (q_eqs rfl rfl (r := false) (by kernel_rfl)) rfl ?_
  refine sAs rfl rfl ?_
  refine send ?_
  refine eseq ?_
  refine HT.no rfl ?_
  refine HT.seq ?_
  refine HT.plain ?_
  refine sqS (q_eqs rfl rfl (r := false) (by kernel_rfl)) rfl ?_
  refine sAs rfl rfl ?_
  refine send ?_
  refine eseq ?_
  refine HT.no rfl ?_
  refine HT.seq ?_
  refine HT.plain ?_
  refine sqS (q_eqs rfl rfl (r := true) (by kernel_rfl)) rfl ?_
  refine sAs rfl rfl ?_
  refine send ?_
  refine eseq ?_
  refine HT.yes rfl ?_
  refine HT.plain ?_
  refine sMv rfl rfl ?_
  refine sMv rfl rfl ?_
  refine sqS (q_iface rfl Tryz.underlying199 (fun _ h => nomatch h)) rfl ?_
  refine sl_ (l_callX1 (vs := [(.slice A n c), (.iface 199 (.pointer (some ⟨b9, 0, none⟩)))]) (Kc := [⟨b9, 201, [some .nilIface], true⟩]) (Bc := [Byt A n c bs]) [0] [0] [Byt A n c bs] (fun b5_1 => [⟨b5, 206, [some (.string (⟨#[110, 111, 32, 107, 105, 110, 100]⟩))], true⟩, ⟨b9, 201, [some .nilIface], true⟩, ⟨b5_1, 206, [some (.string (⟨#[71, 84, 80, 32, 112, 97, 99, 107, 101, 116, 32, 116, 111, 111, 32, 115, 109, 97, 108, 108, 58, 32, 98, 121, 116, 101, 115]⟩))], true⟩]) (fun b5_1 => [Byt A n c bs]) (by decide) rfl ca_80 (fun _ h => h) rfl rfl rfl rfl (fun w h => gtp_d2 w A n c bs b9 (by omega) (by omega) (by omega) (by omega) (by omega) (by omega) h) (fun _ => rfl) (fun _ => rfl) (fun _ => rfl) (fun _ => rfl) fun b5_1 hf3 he4 => ?_)
  refine sAs rfl rfl ?_
  refine send ?_
  refine ein ?_
  refine eseq ?_
  refine HT.seq ?_
  refine HT.seq ?_
  refine HT.plain ?_
  refine sMv rfl rfl ?_
  refine sqS (q_notNil' rfl rfl Tryz.underlying59) rfl ?_
  refine send ?_
  refine eseq ?_
  refine HT.yes rfl ?_
  refine HT.seq ?_
  refine HT.plain ?_
  refine sMv rfl rfl ?_
  refine sAs rfl rfl ?_
  refine sAs rfl rfl ?_
  refine send ?_
  refine eseq ?_
  refine HT.ret ?_
  refine rt_then ?_
  exact fun a ha w' hw => fin_ ha (res2 ha Tryz.results58 rfl rfl) ⟨b5_1, rfl, (hw.wk [(2, [])] rfl), fr0⟩

theorem gtp_e2 (w : World) (A : Option Addr) (n : Nat) (c : Nat) (bs : List UInt8) (hn : n ≤ 400) (ha : 8 ≤ n) (hb : n - 8 < bN bs 2 2) (hc : bN bs 2 2 < 65528) (hd : 12 ≤ n) (he : nb bs 0 / 4 % 2 = 0) (hst : St w [] [] [Byt A n c bs] w) : Calls Tryz.prog 46 #[(.string ⟨#[103, 116, 112]⟩), (.slice A n c)] w (fun e w' => e = .returned (.tuple #[.nilIface, (.bool false)]) ∧ Pres [] w w') := by
  have hnc00 : n ≤ c := (hst.fact (j := 0) rfl).2.1
  refine enter (vs := [(.string ⟨#[103, 116, 112]⟩), (.slice A n c)]) Tryz.func46 rfl rfl rfl hst ?_
  refine HT.seq ?_
  refine HT.plain ?_
  refine sAs rfl rfl ?_
  refine sAs rfl rfl ?_
  refine send ?_
  refine eseq ?_
  refine HT.seq ?_
  refine HT.seq ?_
  refine HT.plain ?_
  refine sMv rfl rfl ?_
  refine sqS (q_len (len := n) rfl Tryz.underlying22) rfl ?_
  refine sqS (q_F (q_gt (p := n) (q := 2000) rfl rfl) (by omega)) rfl ?_
  refine send ?_
  refine eseq ?_
  refine HT.no rfl ?_
  refine HT.skip ?_
  refine eseq ?_
  refine HT.seq ?_
  refine HT.plain ?_
  refine sMv rfl rfl ?_
  refine sAs rfl rfl ?_
  refine send ?_
  refine eseq ?_
  refine HT.seq ?_
  refine HT.seq ?_
  refine HT.plain ?_
  refine sMv rfl rfl ?_
  refine sqS (q_eqs rfl rfl (r := false) (by kernel_rfl)) rfl ?_
  refine sMv rfl rfl ?_
  refine sgqS rfl (q_move rfl) rfl ?_
  refine sgqS rfl (q_eqs rfl rfl (r := false) (by kernel_rfl)) rfl ?_
  refine sqS (q_pick rfl (fun h => nomatch h) (fun _ => rfl)) rfl ?_
  refine send ?_
  refine eseq ?_
  refine HT.no rfl ?_
  refine HT.seq ?_
  refine HT.plain ?_
  refine sMv rfl rfl ?_
  refine sqS (q_eqs rfl rfl (r := false) (by kernel_rfl)) rfl ?_
  refine send ?_
  refine eseq ?_
  refine HT.no rfl ?_
  refine HT.skip ?_
  refine eseq ?_
  refine HT.seq ?_
  refine HT.seq ?_
  refine HT.plain ?_
  refine sMv rfl rfl ?_
  refine sMv rfl rfl ?_
  refine sqS (q_call (vs := [(.string ⟨#[103, 116, 112]⟩), (.slice A n c)]) (v := (.bool true)) rfl ca_57 (fun w h => gtp_c2 w A n c bs (by omega) (by omega) (by omega) (by omega) (by omega) (by omega) (St.enter (sp := []) (Kc := []) (bi := [0]) h rfl rfl rfl))) rfl ?_
  refine sqS (q_not rfl) rfl ?_
  refine send ?_
  refine eseq ?_
  refine HT.no rfl ?_
  refine HT.skip ?_
  refine eseq ?_
  refine HT.seq ?_
  refine HT.plain ?_
  refine sMv rfl rfl ?_
  refine sMv rfl rfl ?_
  refine sl_ (l_callX2 (vs := [(.slice A n c)]) (Kc := []) (Bc := [Byt A n c bs]) [] [0] [Byt A n c bs] (fun A5 c5 => []) (fun A5 c5 => [Byt A n c bs, Byt A5 n c5 bs]) (by decide) rfl ca_59 (fun _ h => h) rfl rfl rfl rfl (fun w h => Clone w A n c bs (by omega) h) (fun _ _ => rfl) (fun _ _ => rfl) (fun _ _ => rfl) (fun _ _ => rfl) fun A5 c5 hf1 he2 => ?_)
  have hnc3 : n ≤ c5 := by obtain ⟨w, h⟩ := he2; exact (h _ List.mem_cons_self).2.1
  refine sl_ (l_callX1 (vs := [(.string ⟨#[103, 116, 112]⟩), (.slice A5 n c5)]) (Kc := []) (Bc := [Byt A5 n c5 bs]) [] [1] [Byt A n c bs, Byt A5 n c5 bs] (fun b5_1 => [⟨b5_1, 206, [some (.string (⟨#[71, 84, 80, 32, 112, 97, 99, 107, 101, 116, 32, 116, 111, 111, 32, 115, 109, 97, 108, 108, 58, 32, 98, 121, 116, 101, 115]⟩))], true⟩]) (fun b5_1 => [Byt A n c bs, Byt A5 n c5 bs]) (by decide) rfl ca_58 (fun _ h => h) rfl rfl rfl rfl (fun w h => gtp_z2 w A5 n c5 bs (by omega) (by omega) (by omega) (by omega) (by omega) (by omega) h) (fun _ => rfl) (fun _ => rfl) (fun _ => rfl) (fun _ => rfl) fun b5_1 hf4 he5 => ?_)
  refine sMv rfl rfl ?_
  refine sqS (q_extract (vs := [.nilIface, (.iface 204 (.pointer (some ⟨b5_1, 0, none⟩)))]) (i := 0) rfl rfl) rfl ?_
  refine sqS (q_extract (vs := [.nilIface, (.iface 204 (.pointer (some ⟨b5_1, 0, none⟩)))]) (i := 1) rfl rfl) rfl ?_
  refine sAs rfl rfl ?_
  refine sAs rfl rfl ?_
  refine send ?_
  refine eseq ?_
  refine HT.seq ?_
  refine HT.seq ?_
  refine HT.plain ?_
  refine sMv rfl rfl ?_
  refine sqS (q_notNil' rfl rfl Tryz.underlying59) rfl ?_
  refine sMv rfl rfl ?_
  refine sskip rfl rfl ?_
  refine sskip rfl rfl ?_
  refine sqS (q_pick rfl (fun _ => rfl) (fun h => nomatch h)) rfl ?_
  refine send ?_
  refine eseq ?_
  refine HT.yes rfl ?_
  refine HT.seq ?_
  refine HT.plain ?_
  refine sAs rfl rfl ?_
  refine sAs rfl rfl ?_
  refine send ?_
  refine eseq ?_
  refine HT.ret ?_
  refine rt_then ?_
  exact fun a ha w' hw => fin_ ha (res2 ha Tryz.results46 rfl rfl) ⟨rfl, hw.pres⟩

theorem gtp_I2 (w : World) (A : Option Addr) (n : Nat) (c : Nat) (bs : List UInt8) (hn : n ≤ 400) (ha : 8 ≤ n) (hb : n - 8 < bN bs 2 2) (hc : bN bs 2 2 < 65528) (hd : 12 ≤ n) (he : nb bs 0 / 4 % 2 = 0) (hst : St w [] [] [Byt A n c bs] w) : Calls Tryz.prog 27 #[(.string ⟨#[103, 116, 112]⟩), (.slice A n c)] w (IP w (Byt A n c bs) (some none)) := by
  have hnc00 : n ≤ c := (hst.fact (j := 0) rfl).2.1
  refine enter (vs := [(.string ⟨#[103, 116, 112]⟩), (.slice A n c)]) Tryz.func27 rfl rfl rfl hst ?_
  refine HT.seq ?_
  refine HT.plain ?_
  refine sl_ (l_alloc (by decide) zero_29 fun b4 => ?_)
  refine sAs rfl rfl ?_
  refine send ?_
  refine eseq ?_
  refine HT.seq ?_
  refine HT.plain ?_
  refine sMv rfl rfl ?_
  refine sMv rfl rfl ?_
  refine sqS (q_call (vs := [(.string ⟨#[103, 116, 112]⟩), (.slice A n c)]) (v := (.tuple #[.nilIface, (.bool false)])) rfl ca_46 (fun w h => gtp_e2 w A n c bs (by omega) (by omega) (by omega) (by omega) (by omega) (by omega) (St.enter (sp := []) (Kc := []) (bi := [0]) h rfl rfl rfl))) rfl ?_
  refine sMv rfl rfl ?_
  refine sqS (q_extract (vs := [.nilIface, (.bool false)]) (i := 0) rfl rfl) rfl ?_
  refine sqS (q_extract (vs := [.nilIface, (.bool false)]) (i := 1) rfl rfl) rfl ?_
  refine sAs rfl rfl ?_
  refine sAs rfl rfl ?_
  refine send ?_
  refine eseq ?_
  refine HT.seq ?_
  refine HT.seq ?_
  refine HT.plain ?_
  refine sMv rfl rfl ?_
  refine sqS (q_not rfl) rfl ?_
  refine send ?_
  refine eseq ?_
  refine HT.yes rfl ?_
  refine HT.seq ?_
  refine HT.plain ?_
  refine sqS (q_build (vs := []) (v := (.agg #[(.slice none 0 0), (.slice none 0 0), (.slice none 0 0), (.slice none 0 0)])) rfl (fun _ => by kernel_rfl)) rfl ?_
  refine sl_ (l_storeAgg (b := b4) (off := 0) (j := 0) (vs := [(.slice none 0 0), (.slice none 0 0), (.slice none 0 0), (.slice none 0 0)]) rfl rfl aggs_29 (by simp [Value.one1]) rfl rfl rfl (Nat.le_of_ble_eq_true rfl) ?_)
  refine sAs rfl rfl ?_
  refine send ?_
  refine eseq ?_
  refine HT.ret ?_
  refine rt_then ?_
  exact fun a ha w' hw => fin_ ha (resc2 ha Tryz.results27 rfl (ld_ aggs_29 hw (j := 0) rfl rfl (vs := [(.slice none 0 0), (.slice none 0 0), (.slice none 0 0), (.slice none 0 0)]) rfl) rfl) ⟨rfl, hw.pres⟩
end Go.Proofs.YtfkaafbeeegenaaGreat.Zed
