/- ppp: the package, case 2 -/
import Derived.Test.YtfkaafbeeegenaaGreatPpp0
import Derived.KernelRfl
namespace Go.Proofs.YtfkaafbeeegenaaGreat.Zed
set_option linter.unusedVariables false
set_option linter.unusedSimpArgs false
set_option maxRecDepth 100000
set_option maxHeartbeats 4000000


theorem ppp_q2 (w : World) (A : Option Addr) (n : Nat) (c : Nat) (bs : List UInt8) (hn : n ≤ 400) (ha : n = 1) (hb : nb bs 0 ≠ 255) (hc : nb bs 0 % 2 = 1) (hst : St w [] [] [Byt A n c bs] w) : Calls Tryz.prog 63 #[(.slice A n c)] w (fun e w' => e = .returned (.bool true) ∧ Pres [] w w') := by
  have hnc00 : n ≤ c := (hst.fact (j := 0) rfl).2.1
  refine enter (vs := [(.slice A n c)]) Tryz.func63 rfl rfl rfl hst ?_
  refine HT.seq ?_
  refine HT.plain ?_
  refine sq (St.closed _ _ _ _) (q_assign rfl) rfl ?_
  refine send ?_
  refine eseq ?_
  refine HT.seq ?_
  refine HT.plain ?_
  refine sq (St.closed _ _ _ _) (q_assign rfl) rfl ?_
  refine send ?_
  refine eseq ?_
  refine HT.seq ?_
  refine HT.seq ?_
  refine HT.plain ?_
  refine sq (St.closed _ _ _ _) (q_move rfl) rfl ?_
  refine sq (St.closed _ _ _ _) (q_len (len := n) rfl Tryz.underlying22) rfl ?_
  refine sq (St.closed _ _ _ _) (q_T (q_gt (p := n) (q := 0) rfl rfl) (by omega)) rfl ?_
  refine sq (St.closed _ _ _ _) (q_move rfl) rfl ?_
  refine sgq (St.closed _ _ _ _) rfl (q_move rfl) rfl ?_
  refine sgq (St.closed _ _ _ _) rfl (q_index (i := 0) (j := 0) rfl rfl Tryz.underlying22 nagg_5 (fun _ h => h) rfl (by omega)) rfl ?_
  refine sgq (St.closed _ _ _ _) rfl (q_byte (i := 0) (j := 0) rfl nagg_5 (fun _ h => h) rfl (by omega)) rfl ?_
  refine sgq (St.closed _ _ _ _) rfl (q_F (q_eq (p := nb bs 0) (q := 255) rfl rfl) (by have := nb_lt bs 0; omega)) rfl ?_
  refine sq (St.closed _ _ _ _) (q_pick rfl (fun _ => rfl) (fun h => nomatch h)) rfl ?_
  refine send ?_
  refine eseq ?_
  refine HT.no rfl ?_
  refine HT.skip ?_
  refine eseq ?_
  refine HT.seq ?_
  refine HT.plain ?_
  refine sq (St.closed _ _ _ _) (q_move rfl) rfl ?_
  refine sq (St.closed _ _ _ _) (q_len (len := n) rfl Tryz.underlying22) rfl ?_
  refine sq (St.closed _ _ _ _) (q_move rfl) rfl ?_
  refine sq (St.closed _ _ _ _) (q_T (q_gt (p := n) (q := 0) rfl rfl) (by omega)) rfl ?_
  refine sq (St.closed _ _ _ _) (q_move rfl) rfl ?_
  refine sgq (St.closed _ _ _ _) rfl (q_move rfl) rfl ?_
  refine sgq (St.closed _ _ _ _) rfl (q_move rfl) rfl ?_
  refine sgq (St.closed _ _ _ _) rfl (q_index (i := 0) (j := 0) rfl rfl Tryz.underlying22 nagg_5 (fun _ h => h) rfl (by omega)) rfl ?_
  refine sgq (St.closed _ _ _ _) rfl (q_byte (i := 0) (j := 0) rfl nagg_5 (fun _ h => h) rfl (by omega)) rfl ?_
  refine sgq (St.closed _ _ _ _) rfl (q_and (p := nb bs 0) (q := 1) rfl rfl rfl (show nb bs 0 < 256 by have := nb_lt bs 0; omega) (by decide)) rfl ?_
  refine sgq (St.closed _ _ _ _) rfl (q_T (q_eq (p := (nb bs 0) &&& 1) (q := 1) rfl rfl) (by have := nb_lt bs 0; have := zm1 (nb bs 0); have := Nat.and_le_left (n := nb bs 0) (m := 1); have := Nat.and_le_right (n := nb bs 0) (m := 1); omega)) rfl ?_
  refine sgq (St.closed _ _ _ _) rfl (q_move rfl) rfl ?_
  refine sskip rfl rfl ?_
  refine sskip rfl rfl ?_
  refine sskip rfl rfl ?_
  refine sskip rfl rfl ?_
  refine sskip rfl rfl ?_
  refine sgq (St.closed _ _ _ _) rfl (q_pick rfl (fun _ => rfl) (fun h => nomatch h)) rfl ?_
  refine sq (St.closed _ _ _ _) (q_pick rfl (fun _ => rfl) (fun h => nomatch h)) rfl ?_
  refine sq (St.closed _ _ _ _) (q_assign rfl) rfl ?_
  refine send ?_
  refine eseq ?_
  refine HT.ret ?_
  exact fun a ha w' hw => fin_ ha (res1 ha Tryz.results63 rfl) ⟨rfl, hw.pres⟩

theorem ppp_c2 (w : World) (A : Option Addr) (n : Nat) (c : Nat) (bs : List UInt8) (hn : n ≤ 400) (ha : n = 1) (hb : nb bs 0 ≠ 255) (hc : nb bs 0 % 2 = 1) (hst : St w [] [] [Byt A n c bs] w) : Calls Tryz.prog 57 #[(.string ⟨#[112, 112, 112]⟩), (.slice A n c)] w (fun e w' => e = .returned (.bool true) ∧ Pres [] w w') := by
  have hnc00 : n ≤ c := (hst.fact (j := 0) rfl).2.1
  refine enter (vs := [(.string ⟨#[112, 112, 112]⟩), (.slice A n c)]) Tryz.func57 rfl rfl rfl hst ?_
  refine HT.seq ?_
  refine HT.plain ?_
  refine sq (St.closed _ _ _ _) (q_assign rfl) rfl ?_
  refine send ?_
  refine eseq ?_
  refine HT.seq ?_
  refine HT.seq ?_
  refine HT.plain ?_
  refine sq (St.closed _ _ _ _) (q_move rfl) rfl ?_
  refine send ?_
  refine eseq ?_
  refine HT.block ?_
  refine HT.seq ?_
  refine HT.plain ?_
  refine sq (St.closed _ _ _ _) (q_eqs rfl rfl (r := false) (by kernel_rfl)) rfl ?_
  refine sq (St.closed _ _ _ _) (q_assign rfl) rfl ?_
  refine send ?_
  refine eseq ?_
  refine HT.no rfl ?_
  refine HT.seq ?_
  refine HT.plain ?_
  refine sq (St.closed _ _ _ _) (q_eqs rfl rfl (r := true) (by kernel_rfl)) rfl ?_
  refine sq (St.closed _ _ _ _) (q_assign rfl) rfl ?_
  refine send ?_
  refine eseq ?_
  refine HT.yes rfl ?_
  refine HT.seq ?_
  refine HT.plain ?_
  refine sq (St.closed _ _ _ _) (q_move rfl) rfl ?_
  refine sq (St.closed _ _ _ _) (q_call (vs := [(.slice A n c)]) (v := (.bool true)) rfl ca_63 (fun w h => ppp_q2 w A n c bs (by omega) (by omega) (by omega) (by omega) (St.enter (sp := []) (Kc := []) (bi := [0]) h rfl rfl rfl))) rfl ?_
  refine sq (St.closed _ _ _ _) (q_assign rfl) rfl ?_
  refine send ?_
  refine eseq ?_
  refine HT.ret ?_
  refine rt_in ?_
  refine rt_then ?_
  exact fun a ha w' hw => fin_ ha (res1 ha Tryz.results57 rfl) ⟨rfl, hw.pres⟩

theorem ppp_d2 (w : World) (A : Option Addr) (n : Nat) (c : Nat) (bs : List UInt8) (kb : Nat) (hn : n ≤ 400) (ha : n = 1) (hb : nb bs 0 ≠ 255) (hc : nb bs 0 % 2 = 1) (hst : St w [kb] [⟨kb, 201, [some .nilIface], true⟩] [Byt A n c bs] w) : Calls Tryz.prog 69 #[(.slice A n c), (.iface 199 (.pointer (some ⟨kb, 0, none⟩)))] w (CP1 w [kb] [Byt A n c bs] (fun b8 => .nilIface) (fun b8 => [⟨kb, 201, [some (.iface 73 (.pointer (some ⟨b8, 0, none⟩)))], true⟩, ⟨b8, 76, [some (.slice (cutA A c 0) (1 - 0) (c - 0)), some (.slice (cutA A c 1) (n - 1) (c - 1)), some (.int .u16 ((nb bs 0 : Nat) : Int)), some (.bool false)], true⟩]) (fun b8 => [])) := by
  have hnc00 : n ≤ c := (hst.fact (j := 0) rfl).2.1
  refine enter (vs := [(.slice A n c), (.iface 199 (.pointer (some ⟨kb, 0, none⟩)))]) Tryz.func69 rfl rfl rfl hst ?_
  refine HT.seq ?_
  refine HT.plain ?_
  refine sq (St.closed _ _ _ _) (q_assign rfl) rfl ?_
  refine send ?_
  refine eseq ?_
  refine HT.seq ?_
  refine HT.plain ?_
  refine sq (St.closed _ _ _ _) (q_build (vs := []) (v := (.agg #[(.slice none 0 0), (.slice none 0 0), (.int .u16 ((0 : Nat) : Int)), (.bool false)])) rfl (fun _ => by kernel_rfl)) rfl ?_
  refine sl_ (l_box (by decide) rfl fun b8 => ?_)
  refine sq (St.closed _ _ _ _) (q_assign rfl) rfl ?_
  refine send ?_
  refine eseq ?_
  refine HT.seq ?_
  refine HT.plain ?_
  refine sq (St.closed _ _ _ _) (q_assign rfl) rfl ?_
  refine send ?_
  refine eseq ?_
  refine HT.seq ?_
  refine HT.seq ?_
  refine HT.plain ?_
  refine sq (St.closed _ _ _ _) (q_move rfl) rfl ?_
  refine sq (St.closed _ _ _ _) (q_index (i := 0) (j := 0) rfl rfl Tryz.underlying22 nagg_5 (fun _ h => h) rfl (by omega)) rfl ?_
  refine sq (St.closed _ _ _ _) (q_byte (i := 0) (j := 0) rfl nagg_5 (fun _ h => h) rfl (by omega)) rfl ?_
  refine sq (St.closed _ _ _ _) (q_F (q_eq (p := nb bs 0) (q := 255) rfl rfl) (by have := nb_lt bs 0; omega)) rfl ?_
  refine sq (St.closed _ _ _ _) (q_move rfl) rfl ?_
  refine sskip rfl rfl ?_
  refine sskip rfl rfl ?_
  refine sskip rfl rfl ?_
  refine sskip rfl rfl ?_
  refine sq (St.closed _ _ _ _) (q_pick rfl (fun h => nomatch h) (fun _ => rfl)) rfl ?_
  refine send ?_
  refine eseq ?_
  refine HT.no rfl ?_
  refine HT.skip ?_
  refine eseq ?_
  refine HT.seq ?_
  refine HT.seq ?_
  refine HT.plain ?_
  refine sq (St.closed _ _ _ _) (q_move rfl) rfl ?_
  refine sq (St.closed _ _ _ _) (q_move rfl) rfl ?_
  refine sq (St.closed _ _ _ _) (q_index (i := 0) (j := 0) rfl rfl Tryz.underlying22 nagg_5 (fun _ h => h) rfl (by omega)) rfl ?_
  refine sq (St.closed _ _ _ _) (q_byte (i := 0) (j := 0) rfl nagg_5 (fun _ h => h) rfl (by omega)) rfl ?_
  refine sq (St.closed _ _ _ _) (q_and (p := nb bs 0) (q := 1) rfl rfl rfl (show nb bs 0 < 256 by have := nb_lt bs 0; omega) (by decide)) rfl ?_
  refine sq (St.closed _ _ _ _) (q_F (q_eq (p := (nb bs 0) &&& 1) (q := 0) rfl rfl) (by have := nb_lt bs 0; have := zm1 (nb bs 0); have := Nat.and_le_left (n := nb bs 0) (m := 1); have := Nat.and_le_right (n := nb bs 0) (m := 1); omega)) rfl ?_
  refine send ?_
  refine eseq ?_
  refine HT.no rfl ?_
  refine HT.seq ?_
  refine HT.plain ?_
  refine sq (St.closed _ _ _ _) (q_move rfl) rfl ?_
  refine sq (St.closed _ _ _ _) (q_move rfl) rfl ?_
  refine sq (St.closed _ _ _ _) (q_move rfl) rfl ?_
  refine sq (St.closed _ _ _ _) (q_index (i := 0) (j := 0) rfl rfl Tryz.underlying22 nagg_5 (fun _ h => h) rfl (by omega)) rfl ?_
  refine sq (St.closed _ _ _ _) (q_byte (i := 0) (j := 0) rfl nagg_5 (fun _ h => h) rfl (by omega)) rfl ?_
  refine sq (St.closed _ _ _ _) (q_convn (p := nb bs 0) rfl Tryz.underlying5 Tryz.underlying74 (show nb bs 0 < 65536 by have := nb_lt bs 0; omega)) rfl ?_
  refine sq (St.closed _ _ _ _) (q_nil rfl) rfl ?_
  refine sq (St.closed _ _ _ _) (q_field (b := b8) (off := 0) rfl fo_76_1) rfl ?_
  refine sl_ (l_store (b := b8) (off := 2) (j := 1) rfl rfl nagg_74 rfl rfl rfl rfl (dlt rfl) ?_)
  refine send ?_
  refine eseq ?_
  refine HT.seq ?_
  refine HT.plain ?_
  refine sq (St.closed _ _ _ _) (q_move rfl) rfl ?_
  refine sq (St.closed _ _ _ _) (q_move rfl) rfl ?_
  refine sq (St.closed _ _ _ _) (q_move rfl) rfl ?_
  refine sq (St.closed _ _ _ _) (q_move rfl) rfl ?_
  refine sq (St.closed _ _ _ _) (q_N (q_add (p := 0) (q := 1) rfl rfl (by decide)) (a := 0 + 1) (b := 1) (by simp)) rfl ?_
  refine sq (St.closed _ _ _ _) (q_slice (lo := 0) (hi := 1) rfl Tryz.underlying22 nagg_5 (.inr ⟨_, _, rfl, rfl⟩) (.inr ⟨_, _, rfl, rfl⟩) (by omega) (by omega)) rfl ?_
  refine sq (St.closed _ _ _ _) (q_nil rfl) rfl ?_
  refine sq (St.closed _ _ _ _) (q_field (b := b8) (off := 0) rfl fo_76_0) rfl ?_
  refine sq (St.closed _ _ _ _) (q_field (b := b8) (off := 0) rfl fo_68_0) rfl ?_
  refine sl_ (l_store (b := b8) (off := 0) (j := 1) rfl rfl nagg_22 rfl rfl rfl rfl (dlt rfl) ?_)
  refine send ?_
  refine eseq ?_
  refine HT.plain ?_
  refine sq (St.closed _ _ _ _) (q_move rfl) rfl ?_
  refine sq (St.closed _ _ _ _) (q_move rfl) rfl ?_
  refine sq (St.closed _ _ _ _) (q_move rfl) rfl ?_
  refine sq (St.closed _ _ _ _) (q_N (q_add (p := 0) (q := 1) rfl rfl (by decide)) (a := 0 + 1) (b := 1) (by simp)) rfl ?_
  refine sq (St.closed _ _ _ _) (q_slice (lo := 1) (hi := n) rfl Tryz.underlying22 nagg_5 (.inr ⟨_, _, rfl, rfl⟩) (.inl ⟨rfl, rfl⟩) (by omega) (by omega)) rfl ?_
  refine sq (St.closed _ _ _ _) (q_nil rfl) rfl ?_
  refine sq (St.closed _ _ _ _) (q_field (b := b8) (off := 0) rfl fo_76_0) rfl ?_
  refine sq (St.closed _ _ _ _) (q_field (b := b8) (off := 0) rfl fo_68_1) rfl ?_
  refine sl_ (l_store (b := b8) (off := 1) (j := 1) rfl rfl nagg_22 rfl rfl rfl rfl (dlt rfl) ?_)
  refine send ?_
  refine eseq ?_
  refine HT.seq ?_
  refine HT.plain ?_
  refine sq (St.closed _ _ _ _) (q_move rfl) rfl ?_
  refine sq (St.closed _ _ _ _) (q_move rfl) rfl ?_
  refine sq (St.closed _ _ _ _) (q_iface rfl Tryz.underlying73 (fun _ h => nomatch h)) rfl ?_
  refine sl_ (l_invX0 (vs := [(.iface 73 (.pointer (some ⟨b8, 0, none⟩)))]) (Kc := [⟨kb, 201, [some .nilIface], true⟩]) (Bc := []) [0] [] [Byt A n c bs] ([⟨b8, 76, [some (.slice (cutA A c 0) (1 - 0) (c - 0)), some (.slice (cutA A c 1) (n - 1) (c - 1)), some (.int .u16 ((nb bs 0 : Nat) : Int)), some (.bool false)], true⟩, ⟨kb, 201, [some (.iface 73 (.pointer (some ⟨b8, 0, none⟩)))], true⟩]) ([Byt A n c bs]) (by decide) rfl (fun w => me_199_AddLayer _ w) rfl ca_166 (fun _ h => h) rfl rfl rfl rfl (fun w h => addLayer w kb 73 b8  h) rfl rfl rfl rfl fun hf1 he2 => ?_)
  refine send ?_
  refine eseq ?_
  refine HT.seq ?_
  refine HT.plain ?_
  refine sq (St.closed _ _ _ _) (q_assign rfl) rfl ?_
  refine send ?_
  refine eseq ?_
  refine HT.ret ?_
  exact fun a ha w' hw => fin_ ha (res1 ha Tryz.results69 rfl) ⟨b8, rfl, (hw.wk [(1, []), (0, [])] rfl), fr0⟩

theorem ppp_z2 (w : World) (A : Option Addr) (n : Nat) (c : Nat) (bs : List UInt8) (hn : n ≤ 400) (ha : n = 1) (hb : nb bs 0 ≠ 255) (hc : nb bs 0 % 2 = 1) (hst : St w [] [] [Byt A n c bs] w) : Calls Tryz.prog 58 #[(.string ⟨#[112, 112, 112]⟩), (.slice A n c)] w (CP1 w [] [Byt A n c bs] (fun b8 => (.tuple #[(.iface 73 (.pointer (some ⟨b8, 0, none⟩))), .nilIface])) (fun b8 => [⟨b8, 76, [some (.slice (cutA A c 0) (1 - 0) (c - 0)), some (.slice (cutA A c 1) (n - 1) (c - 1)), some (.int .u16 ((nb bs 0 : Nat) : Int)), some (.bool false)], true⟩]) (fun b8 => [])) := by
  have hnc00 : n ≤ c := (hst.fact (j := 0) rfl).2.1
  refine enter (vs := [(.string ⟨#[112, 112, 112]⟩), (.slice A n c)]) Tryz.func58 rfl rfl rfl hst ?_
  refine HT.seq ?_
  refine HT.plain ?_
  refine sq (St.closed _ _ _ _) (q_assign rfl) rfl ?_
  refine sq (St.closed _ _ _ _) (q_assign rfl) rfl ?_
  refine send ?_
  refine eseq ?_
  refine HT.seq ?_
  refine HT.plain ?_
  refine sq (St.closed _ _ _ _) (q_build (vs := []) (v := (.agg #[.nilIface])) rfl (fun _ => by kernel_rfl)) rfl ?_
  refine sl_ (l_box (by decide) rfl fun b9 => ?_)
  refine sq (St.closed _ _ _ _) (q_assign rfl) rfl ?_
  refine send ?_
  refine eseq ?_
  refine HT.seq ?_
  refine HT.plain ?_
  refine sl_ (l_callX1 (vs := [(.string ⟨#[110, 111, 32, 107, 105, 110, 100]⟩)]) (Kc := []) (Bc := []) [] [] [Byt A n c bs] (fun b5 => [⟨b9, 201, [some .nilIface], true⟩, ⟨b5, 206, [some (.string (⟨#[110, 111, 32, 107, 105, 110, 100]⟩))], true⟩]) (fun b5 => [Byt A n c bs]) (by decide) rfl ca_67 (fun _ h => h) rfl rfl rfl rfl (fun w h => errNew w (⟨#[110, 111, 32, 107, 105, 110, 100]⟩)  h) (fun _ => rfl) (fun _ => rfl) (fun _ => rfl) (fun _ => rfl) fun b5 hf1 he2 => ?_)
  refine sq (St.closed _ _ _ _) (q_assign rfl) rfl ?_
  refine send ?_
  refine eseq ?_
  refine HT.seq ?_
  refine HT.seq ?_
  refine HT.plain ?_
  refine sq (St.closed _ _ _ _) (q_move rfl) rfl ?_
  refine send ?_
  refine eseq ?_
  refine HT.block ?_
  refine HT.seq ?_
  refine HT.plain ?_
  refine sq (St.closed _ _ _ _) (q_eqs rfl rfl (r := false) (by kernel_rfl)) rfl ?_
  refine sq (St.closed _ _ _ _) (q_assign rfl) rfl ?_
  refine send ?_
  refine eseq ?_
  refine HT.no rfl ?_
  refine HT.seq ?_
  refine HT.plain ?_
  refine sq (St.closed _ _ _ _) (q_eqs rfl rfl (r := true) (by kernel_rfl)) rfl ?_
  refine sq (St.closed _ _ _ _) (q_assign rfl) rfl ?_
  refine send ?_
  refine eseq ?_
  refine HT.yes rfl ?_
  refine HT.plain ?_
  refine sq (St.closed _ _ _ _) (q_move rfl) rfl ?_
  refine sq (St.closed _ _ _ _) (q_move rfl) rfl ?_
  refine sq (St.closed _ _ _ _) (q_iface rfl Tryz.underlying199 (fun _ h => nomatch h)) rfl ?_
  refine sl_ (l_callX1 (vs := [(.slice A n c), (.iface 199 (.pointer (some ⟨b9, 0, none⟩)))]) (Kc := [⟨b9, 201, [some .nilIface], true⟩]) (Bc := [Byt A n c bs]) [0] [0] [Byt A n c bs] (fun b8 => [⟨b5, 206, [some (.string (⟨#[110, 111, 32, 107, 105, 110, 100]⟩))], true⟩, ⟨b9, 201, [some (.iface 73 (.pointer (some ⟨b8, 0, none⟩)))], true⟩, ⟨b8, 76, [some (.slice (cutA A c 0) (1 - 0) (c - 0)), some (.slice (cutA A c 1) (n - 1) (c - 1)), some (.int .u16 ((nb bs 0 : Nat) : Int)), some (.bool false)], true⟩]) (fun b8 => [Byt A n c bs]) (by decide) rfl ca_69 (fun _ h => h) rfl rfl rfl rfl (fun w h => ppp_d2 w A n c bs b9 (by omega) (by omega) (by omega) (by omega) h) (fun _ => rfl) (fun _ => rfl) (fun _ => rfl) (fun _ => rfl) fun b8 hf3 he4 => ?_)
  refine sq (St.closed _ _ _ _) (q_assign rfl) rfl ?_
  refine send ?_
  refine ein ?_
  refine eseq ?_
  refine HT.seq ?_
  refine HT.seq ?_
  refine HT.plain ?_
  refine sq (St.closed _ _ _ _) (q_move rfl) rfl ?_
  refine sq (St.closed _ _ _ _) (q_notNil rfl rfl Tryz.underlying59) rfl ?_
  refine send ?_
  refine eseq ?_
  refine HT.no rfl ?_
  refine HT.skip ?_
  refine eseq ?_
  refine HT.seq ?_
  refine HT.plain ?_
  refine sq (St.closed _ _ _ _) (q_move rfl) rfl ?_
  refine sq (St.closed _ _ _ _) (q_nil rfl) rfl ?_
  refine sq (St.closed _ _ _ _) (q_field (b := b9) (off := 0) rfl fo_201_0) rfl ?_
  refine sq (St.closed _ _ _ _) (q_load (b := b9) (off := 0) (j := 1) rfl nagg_43 (fun _ h => h) rfl rfl rfl) rfl ?_
  refine sq (St.closed _ _ _ _) (q_assign rfl) rfl ?_
  refine sq (St.closed _ _ _ _) (q_assign rfl) rfl ?_
  refine send ?_
  refine eseq ?_
  refine HT.ret ?_
  exact fun a ha w' hw => fin_ ha (res2 ha Tryz.results58 rfl rfl) ⟨b8, rfl, (hw.wk [(2, [])] rfl), fr0⟩

theorem ppp_e2 (w : World) (A : Option Addr) (n : Nat) (c : Nat) (bs : List UInt8) (hn : n ≤ 400) (ha : n = 1) (hb : nb bs 0 ≠ 255) (hc : nb bs 0 % 2 = 1) (hst : St w [] [] [Byt A n c bs] w) : Calls Tryz.prog 46 #[(.string ⟨#[112, 112, 112]⟩), (.slice A n c)] w (CP3 w [] [Byt A n c bs] (fun b8 A5 c5 => (.tuple #[(.iface 73 (.pointer (some ⟨b8, 0, none⟩))), (.bool true)])) (fun b8 A5 c5 => [⟨b8, 76, [some (.slice (cutA A5 c5 0) (1 - 0) (c5 - 0)), some (.slice (cutA A5 c5 1) (n - 1) (c5 - 1)), some (.int .u16 ((nb bs 0 : Nat) : Int)), some (.bool false)], true⟩]) (fun b8 A5 c5 => [Byt A5 n c5 bs])) := by
  have hnc00 : n ≤ c := (hst.fact (j := 0) rfl).2.1
  refine enter (vs := [(.string ⟨#[112, 112, 112]⟩), (.slice A n c)]) Tryz.func46 rfl rfl rfl hst ?_
  refine HT.seq ?_
  refine HT.plain ?_
  refine sq (St.closed _ _ _ _) (q_assign rfl) rfl ?_
  refine sq (St.closed _ _ _ _) (q_assign rfl) rfl ?_
  refine send ?_
  refine eseq ?_
  refine HT.seq ?_
  refine HT.seq ?_
  refine HT.plain ?_
  refine sq (St.closed _ _ _ _) (q_move rfl) rfl ?_
  refine sq (St.closed _ _ _ _) (q_len (len := n) rfl Tryz.underlying22) rfl ?_
  refine sq (St.closed _ _ _ _) (q_F (q_gt (p := n) (q := 2000) rfl rfl) (by omega)) rfl ?_
  refine send ?_
  refine eseq ?_
  refine HT.no rfl ?_
  refine HT.skip ?_
  refine eseq ?_
  refine HT.seq ?_
  refine HT.plain ?_
  refine sq (St.closed _ _ _ _) (q_move rfl) rfl ?_
  refine sq (St.closed _ _ _ _) (q_assign rfl) rfl ?_
  refine send ?_
  refine eseq ?_
  refine HT.seq ?_
  refine HT.seq ?_
  refine HT.plain ?_
  refine sq (St.closed _ _ _ _) (q_move rfl) rfl ?_
  refine sq (St.closed _ _ _ _) (q_eqs rfl rfl (r := false) (by kernel_rfl)) rfl ?_
  refine sq (St.closed _ _ _ _) (q_move rfl) rfl ?_
  refine sgq (St.closed _ _ _ _) rfl (q_move rfl) rfl ?_
  refine sgq (St.closed _ _ _ _) rfl (q_eqs rfl rfl (r := false) (by kernel_rfl)) rfl ?_
  refine sq (St.closed _ _ _ _) (q_pick rfl (fun h => nomatch h) (fun _ => rfl)) rfl ?_
  refine send ?_
  refine eseq ?_
  refine HT.no rfl ?_
  refine HT.seq ?_
  refine HT.plain ?_
  refine sq (St.closed _ _ _ _) (q_move rfl) rfl ?_
  refine sq (St.closed _ _ _ _) (q_eqs rfl rfl (r := false) (by kernel_rfl)) rfl ?_
  refine send ?_
  refine eseq ?_
  refine HT.no rfl ?_
  refine HT.skip ?_
  refine eseq ?_
  refine HT.seq ?_
  refine HT.seq ?_
  refine HT.plain ?_
  refine sq (St.closed _ _ _ _) (q_move rfl) rfl ?_
  refine sq (St.closed _ _ _ _) (q_move rfl) rfl ?_
  refine sq (St.closed _ _ _ _) (q_call (vs := [(.string ⟨#[112, 112, 112]⟩), (.slice A n c)]) (v := (.bool true)) rfl ca_57 (fun w h => ppp_c2 w A n c bs (by omega) (by omega) (by omega) (by omega) (St.enter (sp := []) (Kc := []) (bi := [0]) h rfl rfl rfl))) rfl ?_
  refine sq (St.closed _ _ _ _) (q_not rfl) rfl ?_
  refine send ?_
  refine eseq ?_
  refine HT.no rfl ?_
  refine HT.skip ?_
  refine eseq ?_
  refine HT.seq ?_
  refine HT.plain ?_
  refine sq (St.closed _ _ _ _) (q_move rfl) rfl ?_
  refine sq (St.closed _ _ _ _) (q_move rfl) rfl ?_
  refine sl_ (l_callX2 (vs := [(.slice A n c)]) (Kc := []) (Bc := [Byt A n c bs]) [] [0] [Byt A n c bs] (fun A5 c5 => []) (fun A5 c5 => [Byt A n c bs, Byt A5 n c5 bs]) (by decide) rfl ca_59 (fun _ h => h) rfl rfl rfl rfl (fun w h => Clone w A n c bs (by omega) h) (fun _ _ => rfl) (fun _ _ => rfl) (fun _ _ => rfl) (fun _ _ => rfl) fun A5 c5 hf1 he2 => ?_)
  have hnc3 : n ≤ c5 := by obtain ⟨w, h⟩ := he2; exact (h _ List.mem_cons_self).2.1
  refine sl_ (l_callX1 (vs := [(.string ⟨#[112, 112, 112]⟩), (.slice A5 n c5)]) (Kc := []) (Bc := [Byt A5 n c5 bs]) [] [1] [Byt A n c bs, Byt A5 n c5 bs] (fun b8 => [⟨b8, 76, [some (.slice (cutA A5 c5 0) (1 - 0) (c5 - 0)), some (.slice (cutA A5 c5 1) (n - 1) (c5 - 1)), some (.int .u16 ((nb bs 0 : Nat) : Int)), some (.bool false)], true⟩]) (fun b8 => [Byt A n c bs, Byt A5 n c5 bs]) (by decide) rfl ca_58 (fun _ h => h) rfl rfl rfl rfl (fun w h => ppp_z2 w A5 n c5 bs (by omega) (by omega) (by omega) (by omega) h) (fun _ => rfl) (fun _ => rfl) (fun _ => rfl) (fun _ => rfl) fun b8 hf4 he5 => ?_)
  refine sq (St.closed _ _ _ _) (q_move rfl) rfl ?_
  refine sq (St.closed _ _ _ _) (q_extract (vs := [(.iface 73 (.pointer (some ⟨b8, 0, none⟩))), .nilIface]) (i := 0) rfl rfl) rfl ?_
  refine sq (St.closed _ _ _ _) (q_extract (vs := [(.iface 73 (.pointer (some ⟨b8, 0, none⟩))), .nilIface]) (i := 1) rfl rfl) rfl ?_
  refine sq (St.closed _ _ _ _) (q_assign rfl) rfl ?_
  refine sq (St.closed _ _ _ _) (q_assign rfl) rfl ?_
  refine send ?_
  refine eseq ?_
  refine HT.seq ?_
  refine HT.seq ?_
  refine HT.plain ?_
  refine sq (St.closed _ _ _ _) (q_move rfl) rfl ?_
  refine sq (St.closed _ _ _ _) (q_notNil rfl rfl Tryz.underlying59) rfl ?_
  refine sq (St.closed _ _ _ _) (q_move rfl) rfl ?_
  refine sgq (St.closed _ _ _ _) rfl (q_move rfl) rfl ?_
  refine sgq (St.closed _ _ _ _) rfl (q_isNil' rfl rfl Tryz.underlying43) rfl ?_
  refine sq (St.closed _ _ _ _) (q_pick rfl (fun h => nomatch h) (fun _ => rfl)) rfl ?_
  refine send ?_
  refine eseq ?_
  refine HT.no rfl ?_
  refine HT.skip ?_
  refine eseq ?_
  refine HT.seq ?_
  refine HT.seq ?_
  refine HT.plain ?_
  refine sq (St.closed _ _ _ _) (q_move rfl) rfl ?_
  refine sq (St.closed _ _ _ _) (q_isnt (T := 73) (z := (.pointer none)) rfl Tryz.underlying63 (fun _ h => nomatch h) (by decide) zero_63) rfl ?_
  refine sq (St.closed _ _ _ _) (q_move rfl) rfl ?_
  refine sq (St.closed _ _ _ _) (q_extract (vs := [(.pointer none), (.bool false)]) (i := 0) rfl rfl) rfl ?_
  refine sq (St.closed _ _ _ _) (q_extract (vs := [(.pointer none), (.bool false)]) (i := 1) rfl rfl) rfl ?_
  refine sq (St.closed _ _ _ _) (q_assign rfl) rfl ?_
  refine sq (St.closed _ _ _ _) (q_assign rfl) rfl ?_
  refine send ?_
  refine eseq ?_
  refine HT.seq ?_
  refine HT.plain ?_
  refine sq (St.closed _ _ _ _) (q_move rfl) rfl ?_
  refine sq (St.closed _ _ _ _) (q_move rfl) rfl ?_
  refine sq (St.closed _ _ _ _) (q_eqs rfl rfl (r := false) (by kernel_rfl)) rfl ?_
  refine sq (St.closed _ _ _ _) (q_neb rfl rfl Tryz.underlying4) rfl ?_
  refine sq (St.closed _ _ _ _) (q_move rfl) rfl ?_
  refine sskip rfl rfl ?_
  refine sskip rfl rfl ?_
  refine sq (St.closed _ _ _ _) (q_pick rfl (fun h => nomatch h) (fun _ => rfl)) rfl ?_
  refine send ?_
  refine eseq ?_
  refine HT.no rfl ?_
  refine HT.skip ?_
  refine eseq ?_
  refine HT.seq ?_
  refine HT.plain ?_
  refine sq (St.closed _ _ _ _) (q_move rfl) rfl ?_
  refine sq (St.closed _ _ _ _) (q_assign rfl) rfl ?_
  refine sq (St.closed _ _ _ _) (q_assign rfl) rfl ?_
  refine send ?_
  refine eseq ?_
  refine HT.ret ?_
  exact fun a ha w' hw => fin_ ha (res2 ha Tryz.results46 rfl rfl) ⟨b8, A5, c5, rfl, hw, (fr1 (hf1 _ List.mem_cons_self) fr0)⟩

theorem ppp_t2 (w : World) (A5 : Option Addr) (n : Nat) (c5 : Nat) (bs : List UInt8) (b8 : Nat) (hn : n ≤ 400) (ha : n = 1) (hb : nb bs 0 ≠ 255) (hc : nb bs 0 % 2 = 1) (hst : St w [] [⟨b8, 76, [some (.slice (cutA A5 c5 0) (1 - 0) (c5 - 0)), some (.slice (cutA A5 c5 1) (n - 1) (c5 - 1)), some (.int .u16 ((nb bs 0 : Nat) : Int)), some (.bool false)], false⟩] [Byt A5 n c5 bs] w) : Calls Tryz.prog 47 #[(.iface 73 (.pointer (some ⟨b8, 0, none⟩))), (.slice (cutA A5 c5 1) (n - 1) (c5 - 1))] w (IP w (Byt A5 n c5 bs) (some (some ⟨[nb bs 0, 0], [], [], sl bs 1 n⟩))) := by
  have hnc00 : n ≤ c5 := (hst.fact (j := 0) rfl).2.1
  refine enter (vs := [(.iface 73 (.pointer (some ⟨b8, 0, none⟩))), (.slice (cutA A5 c5 1) (n - 1) (c5 - 1))]) Tryz.func47 rfl rfl rfl hst ?_
  refine HT.seq ?_
  refine HT.plain ?_
  refine sl_ (l_alloc (by decide) zero_29 fun b4 => ?_)
  refine sq (St.closed _ _ _ _) (q_assign rfl) rfl ?_
  refine send ?_
  refine eseq ?_
  refine HT.seq ?_
  refine HT.plain ?_
  refine sq (St.closed _ _ _ _) (q_move rfl) rfl ?_
  refine sl_ (l_callX2 (vs := [(.slice (cutA A5 c5 1) (n - 1) (c5 - 1))]) (Kc := []) (Bc := [Byt (cutA A5 c5 1) (n - 1) (c5 - 1) (sl bs 1 n)]) [] [1] [Byt A5 n c5 bs, Byt (cutA A5 c5 1) (n - 1) (c5 - 1) (sl bs 1 n)] (fun A5_1 c5_1 => [⟨b8, 76, [some (.slice (cutA A5 c5 0) (1 - 0) (c5 - 0)), some (.slice (cutA A5 c5 1) (n - 1) (c5 - 1)), some (.int .u16 ((nb bs 0 : Nat) : Int)), some (.bool false)], false⟩, ⟨b4, 29, [some (.slice none 0 0), some (.slice none 0 0), some (.slice none 0 0), some (.slice none 0 0)], true⟩]) (fun A5_1 c5_1 => [Byt A5 n c5 bs, Byt A5_1 (n - 1) c5_1 (sl bs 1 n)]) (by decide) rfl ca_60 (fun _ h => (h.cut (j := 0) (lo := 1) (hi := n) rfl (by omega) (by omega))) rfl rfl rfl rfl (fun w h => clone w (cutA A5 c5 1) (n - 1) (c5 - 1) (sl bs 1 n) (by omega) h) (fun _ _ => rfl) (fun _ _ => rfl) (fun _ _ => rfl) (fun _ _ => rfl) fun A5_1 c5_1 hf1 he2 => ?_)
  have hnc3 : (n - 1) ≤ c5_1 := by obtain ⟨w, h⟩ := he2; exact (h _ List.mem_cons_self).2.1
  refine sq (St.closed _ _ _ _) (q_build (vs := [(3, (.slice A5_1 (n - 1) c5_1))]) (v := (.agg #[(.slice none 0 0), (.slice none 0 0), (.slice none 0 0), (.slice A5_1 (n - 1) c5_1)])) rfl (fun _ => by kernel_rfl)) rfl ?_
  refine sl_ (l_box (by decide) rfl fun b50 => ?_)
  refine sq (St.closed _ _ _ _) (q_assign rfl) rfl ?_
  refine send ?_
  refine eseq ?_
  refine HT.seq ?_
  refine HT.seq ?_
  refine HT.plain ?_
  refine sq (St.closed _ _ _ _) (q_move rfl) rfl ?_
  refine send ?_
  refine eseq ?_
  refine HT.block ?_
  refine HT.seq ?_
  refine HT.plain ?_
  refine sq (St.closed _ _ _ _) (q_isnt (T := 73) (z := (.pointer none)) rfl Tryz.underlying66 (fun _ h => nomatch h) (by decide) zero_66) rfl ?_
  refine sq (St.closed _ _ _ _) (q_extract (vs := [(.pointer none), (.bool false)]) (i := 1) rfl rfl) rfl ?_
  refine sq (St.closed _ _ _ _) (q_extract (vs := [(.pointer none), (.bool false)]) (i := 0) rfl rfl) rfl ?_
  refine send ?_
  refine eseq ?_
  refine HT.no rfl ?_
  refine HT.seq ?_
  refine HT.plain ?_
  refine sq (St.closed _ _ _ _) (q_is rfl Tryz.underlying73 (fun _ h => nomatch h)) rfl ?_
  refine sq (St.closed _ _ _ _) (q_extract (vs := [(.pointer (some ⟨b8, 0, none⟩)), (.bool true)]) (i := 1) rfl rfl) rfl ?_
  refine sq (St.closed _ _ _ _) (q_extract (vs := [(.pointer (some ⟨b8, 0, none⟩)), (.bool true)]) (i := 0) rfl rfl) rfl ?_
  refine send ?_
  refine eseq ?_
  refine HT.yes rfl ?_
  refine HT.seq ?_
  refine HT.plain ?_
  refine sq (St.closed _ _ _ _) (q_assign rfl) rfl ?_
  refine send ?_
  refine eseq ?_
  refine HT.drawn mixed (St.closed _ _ _ _) (St w [] [⟨b8, 76, [some (.slice (cutA A5 c5 0) (1 - 0) (c5 - 0)), some (.slice (cutA A5 c5 1) (n - 1) (c5 - 1)), some (.int .u16 ((nb bs 0 : Nat) : Int)), some (.bool false)], false⟩, ⟨b4, 29, [some (.slice none 0 0), some (.slice none 0 0), some (.slice none 0 0), some (.slice none 0 0)], true⟩, ⟨b50, 29, [none, some (.slice none 0 0), some (.slice none 0 0), some (.slice A5_1 (n - 1) c5_1)], true⟩] [Byt A5 n c5 bs, Byt A5_1 (n - 1) c5_1 (sl bs 1 n)]) ?_
  refine dtake (f := 4) [0, 1, 2, 3, 4, 5, 6, 7, 8, 9, 10] (by kernel_rfl) (St.closed _ _ _ _) (fun _ h => (h.wk [(0, []), (1, []), (2, [0])] rfl)) (by kernel_rfl) ?_
  refine dq rfl (q_move rfl) ?_
  refine dq rfl (q_move rfl) ?_
  refine dq rfl (q_nil rfl) ?_
  refine dq rfl (q_field (b := b8) (off := 0) rfl fo_76_1) ?_
  refine dq rfl (q_load (b := b8) (off := 2) (j := 0) rfl nagg_74 (fun _ h => h) rfl rfl rfl) ?_
  refine dq rfl (q_convn (p := nb bs 0) rfl Tryz.underlying74 Tryz.underlying39 (show nb bs 0 < 18446744073709551616 by have := nb_lt bs 0; omega)) ?_
  refine dq rfl (q_move rfl) ?_
  refine dq rfl (q_nil rfl) ?_
  refine dq rfl (q_field (b := b8) (off := 0) rfl fo_76_2) ?_
  refine dq rfl (q_load (b := b8) (off := 3) (j := 0) rfl nagg_4 (fun _ h => h) rfl rfl rfl) ?_
  refine dq rfl (q_call (vs := [(.bool false)]) (v := (.int .u64 ((bitN false : Nat) : Int))) rfl ca_61 (fun w h => bitC w false  (St.enter (sp := []) (Kc := []) (bi := []) h rfl rfl rfl))) ?_
  refine QL.nil ?_
  refine RG.step1 11 (by kernel_rfl) ?_
  refine dop rfl (l_buildSlice (e := 39) (vs := [(0, (.int .u64 ((nb bs 0 : Nat) : Int))), (1, (.int .u64 ((bitN false : Nat) : Int)))]) (cs := [(.int .u64 ((nb bs 0 : Nat) : Int)), (.int .u64 ((bitN false : Nat) : Int))]) (by decide) rfl (fun _ => by kernel_rfl) fun b99 => ⟨(fun _ h => (h.wk [(0, []), (1, []), (2, [0])] rfl)), ?_⟩)
  refine dtake (f := 1) [12, 13] (by kernel_rfl) (St.closed _ _ _ _) (fun _ h => (h.wk [(0, []), (1, []), (2, [0])] rfl)) (by kernel_rfl) ?_
  refine dq rfl (q_nil rfl) ?_
  refine dq rfl (q_field (b := b50) (off := 0) rfl fo_29_0) ?_
  refine QL.nil ?_
  refine RG.step1 14 (by kernel_rfl) ?_
  refine dop rfl (l_store (b := b50) (off := 0) (j := 2) rfl rfl nagg_25 rfl rfl rfl rfl (dlt rfl) ⟨(fun _ h => (h.wk [(0, []), (1, []), (2, [0])] rfl)), ?_⟩)
  refine dend (by kernel_rfl) ?_
  refine ein ?_
  refine eseq ?_
  refine HT.seq ?_
  refine HT.plain ?_
  refine sq (St.closed _ _ _ _) (q_move rfl) rfl ?_
  refine sq (St.closed _ _ _ _) (q_nil rfl) rfl ?_
  refine sq (St.closed _ _ _ _) (q_loadAgg (b := b50) (off := 0) (j := 2) (vs := [(.slice (some ⟨b99, 0, none⟩) 2 2), (.slice none 0 0), (.slice none 0 0), (.slice A5_1 (n - 1) c5_1)]) rfl aggs_29 (fun _ h => h) rfl rfl rfl) rfl ?_
  refine sl_ (l_storeAgg (b := b4) (off := 0) (j := 1) (vs := [(.slice (some ⟨b99, 0, none⟩) 2 2), (.slice none 0 0), (.slice none 0 0), (.slice A5_1 (n - 1) c5_1)]) rfl rfl aggs_29 (by simp [Value.one1]) rfl rfl rfl (Nat.le_of_ble_eq_true rfl) ?_)
  refine sq (St.closed _ _ _ _) (q_assign rfl) rfl ?_
  refine send ?_
  refine eseq ?_
  refine HT.ret ?_
  exact fun a ha w' hw => fin_ ha (resc2 ha Tryz.results47 rfl (ld_ aggs_29 hw (j := 1) rfl rfl (vs := [(.slice (some ⟨b99, 0, none⟩) 2 2), (.slice none 0 0), (.slice none 0 0), (.slice A5_1 (n - 1) c5_1)]) rfl) rfl) ⟨⟨⟨some ⟨b99, 0, none⟩, 2, 2, [nb bs 0, bitN false]⟩, none, 0, 0, [], none, 0, 0, [], ⟨A5_1, (n - 1), c5_1, (sl bs 1 n)⟩⟩, rfl, hw.pres, Own.lay (all1 (Own.cel hw (j := 3) (sz := 1) (r := []) rfl rfl rfl rfl (Nat.le_refl _)) (all1 (Own.nilCel 1) (all1 (Own.nilCel 2) (all1 (Own.byt hw (j := 1) rfl (fun b h => .inl ((hf1 _ List.mem_cons_self) b h))) all0)))), (LD_eq (lc rfl (lc (show bitN false = 0 from by (first | omega | ((try simp only [zd224, zd240, zd192, zd24, zd56, zd65520, zd4, zd8, zd48, zd112]) <;> (try simp only [zt1, zt2, zt4, zt8, zt16, zt32, zt64, zt128, zt256, zt512, zt1024, zt2048, zt4096, zt8192]) <;> (try simp only [zm1, zm3, zm7, zm15, zm31, zm63, zm127, zm255, zm1023, zm4095, zm1048575, zb1, zb2, zb4, zb8, zb16, zb32, zb64, zb128, zb256, zb512, zb1024, zb2048, zb4096, zb8192, bitN, cond_true, cond_false]) <;> omega) | ((try simp only [zd224, zd240, zd192, zd24, zd56, zd65520, zd4, zd8, zd48, zd112]) <;> (try simp only [zt1, zt2, zt4, zt8, zt16, zt32, zt64, zt128, zt256, zt512, zt1024, zt2048, zt4096, zt8192]) <;> (try simp only [zm1, zm3, zm7, zm15, zm31, zm63, zm127, zm255, zm1023, zm4095, zm1048575, zb1, zb2, zb4, zb8, zb16, zb32, zb64, zb128, zb256, zb512, zb1024, zb2048, zb4096, zb8192, bitN, cond_true, cond_false, lN, bN, Nat.zero_mul, Nat.zero_add, Nat.add_zero, Nat.reduceAdd, Nat.reduceDiv, Nat.reduceMul]) <;> omega))) rfl)) rfl rfl (show (sl bs 1 n) = sl bs 1 n from by first | rfl | (exact sl_nil (by omega)) | (congr 1 <;> omega) | (rw [sl_sl (by omega)]; congr 1 <;> omega)))⟩

theorem ppp_I2 (w : World) (A : Option Addr) (n : Nat) (c : Nat) (bs : List UInt8) (hn : n ≤ 400) (ha : n = 1) (hb : nb bs 0 ≠ 255) (hc : nb bs 0 % 2 = 1) (hst : St w [] [] [Byt A n c bs] w) : Calls Tryz.prog 27 #[(.string ⟨#[112, 112, 112]⟩), (.slice A n c)] w (IP w (Byt A n c bs) (some (some ⟨[nb bs 0, 0], [], [], sl bs 1 n⟩))) := by
  have hnc00 : n ≤ c := (hst.fact (j := 0) rfl).2.1
  refine enter (vs := [(.string ⟨#[112, 112, 112]⟩), (.slice A n c)]) Tryz.func27 rfl rfl rfl hst ?_
  refine HT.seq ?_
  refine HT.plain ?_
  refine sl_ (l_alloc (by decide) zero_29 fun b4 => ?_)
  refine sq (St.closed _ _ _ _) (q_assign rfl) rfl ?_
  refine send ?_
  refine eseq ?_
  refine HT.seq ?_
  refine HT.plain ?_
  refine sq (St.closed _ _ _ _) (q_move rfl) rfl ?_
  refine sq (St.closed _ _ _ _) (q_move rfl) rfl ?_
  refine sl_ (l_callX3 (vs := [(.string ⟨#[112, 112, 112]⟩), (.slice A n c)]) (Kc := []) (Bc := [Byt A n c bs]) [] [0] [Byt A n c bs] (fun b8 A5 c5 => [⟨b4, 29, [some (.slice none 0 0), some (.slice none 0 0), some (.slice none 0 0), some (.slice none 0 0)], true⟩, ⟨b8, 76, [some (.slice (cutA A5 c5 0) (1 - 0) (c5 - 0)), some (.slice (cutA A5 c5 1) (n - 1) (c5 - 1)), some (.int .u16 ((nb bs 0 : Nat) : Int)), some (.bool false)], true⟩]) (fun b8 A5 c5 => [Byt A n c bs, Byt A5 n c5 bs]) (by decide) rfl ca_46 (fun _ h => h) rfl rfl rfl rfl (fun w h => ppp_e2 w A n c bs (by omega) (by omega) (by omega) (by omega) h) (fun _ _ _ => rfl) (fun _ _ _ => rfl) (fun _ _ _ => rfl) (fun _ _ _ => rfl) fun b8 A5 c5 hf1 he2 => ?_)
  have hnc3 : n ≤ c5 := by obtain ⟨w, h⟩ := he2; exact (h _ List.mem_cons_self).2.1
  refine sq (St.closed _ _ _ _) (q_move rfl) rfl ?_
  refine sq (St.closed _ _ _ _) (q_extract (vs := [(.iface 73 (.pointer (some ⟨b8, 0, none⟩))), (.bool true)]) (i := 0) rfl rfl) rfl ?_
  refine sq (St.closed _ _ _ _) (q_extract (vs := [(.iface 73 (.pointer (some ⟨b8, 0, none⟩))), (.bool true)]) (i := 1) rfl rfl) rfl ?_
  refine sq (St.closed _ _ _ _) (q_assign rfl) rfl ?_
  refine sq (St.closed _ _ _ _) (q_assign rfl) rfl ?_
  refine send ?_
  refine eseq ?_
  refine HT.seq ?_
  refine HT.seq ?_
  refine HT.plain ?_
  refine sq (St.closed _ _ _ _) (q_move rfl) rfl ?_
  refine sq (St.closed _ _ _ _) (q_not rfl) rfl ?_
  refine send ?_
  refine eseq ?_
  refine HT.no rfl ?_
  refine HT.skip ?_
  refine eseq ?_
  refine HT.seq ?_
  refine HT.plain ?_
  refine sq (St.closed _ _ _ _) (q_move rfl) rfl ?_
  refine sq (St.closed _ _ _ _) (q_move rfl) rfl ?_
  refine sq (St.closed _ _ _ _) (q_invoke (vs := []) (v := (.slice (cutA A5 c5 1) (n - 1) (c5 - 1))) rfl (fun w => me_73_LayerPayload _ w) rfl ca_120 (fun w h => layPay0 w b8 76 _ _ _ (h.ro (j := 1) rfl))) rfl ?_
  refine sl_ (l_callLay (vs := [(.iface 73 (.pointer (some ⟨b8, 0, none⟩))), (.slice (cutA A5 c5 1) (n - 1) (c5 - 1))]) (tup := fun L => .tuple #[L.val, .bool true]) 1 (by decide) rfl ca_47 rfl (fun w h => ppp_t2 w A5 n c5 bs b8 (by omega) (by omega) (by omega) (by omega) (h.ro2 (j := 1) rfl (bi := [1]) rfl)) fun L20 hfr hda hoL => ?_)
  refine sq (St.closed _ _ _ _) (q_extract (vs := [(.agg #[(L20.nums.val), (.slice L20.dA L20.dn L20.dc), (.slice L20.pA L20.pn L20.pc), (L20.pay.val)]), (.bool true)]) (i := 0) rfl rfl) rfl ?_
  refine sq (St.closed _ _ _ _) (q_extract (vs := [(.agg #[(L20.nums.val), (.slice L20.dA L20.dn L20.dc), (.slice L20.pA L20.pn L20.pc), (L20.pay.val)]), (.bool true)]) (i := 1) rfl rfl) rfl ?_
  refine sl_ (l_storeAgg (b := b4) (off := 0) (j := 0) (vs := [(L20.nums.val), (.slice L20.dA L20.dn L20.dc), (.slice L20.pA L20.pn L20.pc), (L20.pay.val)]) rfl rfl aggs_29 (by simp [Value.one1]) rfl rfl rfl (Nat.le_of_ble_eq_true rfl) ?_)
  refine sq (St.closed _ _ _ _) (q_assign rfl) rfl ?_
  refine send ?_
  refine eseq ?_
  refine HT.ret ?_
  exact fun a ha w' hw => fin_ ha (resc2 ha Tryz.results27 rfl (ld_ aggs_29 hw (j := 0) rfl rfl (vs := [(L20.nums.val), (.slice L20.dA L20.dn L20.dc), (.slice L20.pA L20.pn L20.pc), (L20.pay.val)]) rfl) rfl) ⟨L20, rfl, hw.pres, ⟨hw.fact (j := 2) rfl, fun i hi => (hfr i hi).elim .inl (fun h => .inl ((hf1 _ List.mem_cons_self) i h))⟩, hda⟩
end Go.Proofs.YtfkaafbeeegenaaGreat.Zed
