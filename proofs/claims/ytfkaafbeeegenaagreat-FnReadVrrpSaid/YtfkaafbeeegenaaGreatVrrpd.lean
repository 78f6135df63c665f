/- vrrp: the package, case 3 -/
import Derived.Test.YtfkaafbeeegenaaGreatVrrp0
import Derived.KernelRfl
namespace Go.Proofs.YtfkaafbeeegenaaGreat.Zed
set_option linter.unusedVariables false
set_option linter.unusedSimpArgs false
set_option maxRecDepth 100000
set_option maxHeartbeats 4000000


theorem vrrp_c3 (w : World) (A : Option Addr) (n : Nat) (c : Nat) (bs : List UInt8) (hn : n ≤ 400) (ha : 8 ≤ n) (hb : nb bs 0 % 16 = 1) (hc : nb bs 3 < 1) (hst : St w [] [] [Byt A n c bs] w) : Calls Tryz.prog 57 #[(.string ⟨#[118, 114, 114, 112]⟩), (.slice A n c)] w (fun e w' => e = .returned (.bool true) ∧ Pres [] w w') := by
  have hnc00 : n ≤ c := (hst.fact (j := 0) rfl).2.1
  refine enter (vs := [(.string ⟨#[118, 114, 114, 112]⟩), (.slice A n c)]) Tryz.func57 rfl rfl rfl hst ?_
  refine HT.seq ?_
  refine HT.plain ?_
  refine sq (St.closed _ _ _ _) (q_assign rfl) rfl ?_
  refine send ?_
  refine eseq ?_
  refine HT.seq ?_
  refine HT.seq ?_
  refine HT.plain ?_
  refine sq (St.closed _ _ _ _) (q_move rfl) rfl ?_
  refine send ?_
  refine eseq ?_
  refine HT.block ?_
  refine HT.seq ?_
  refine HT.plain ?_
  refine sq (St.closed _ _ _ _) (q_eqs rfl rfl (r := false) (by kernel_rfl)) rfl ?_
  refine sq (St.closed _ _ _ _) (q_assign rfl) rfl ?_
  refine send ?_
  refine eseq ?_
  refine HT.no rfl ?_
  refine HT.seq ?_
  refine HT.plain ?_
  refine sq (St.closed _ _ _ _) (q_eqs rfl rfl (r := false) (by kernel_rfl)) rfl ?_
  refine sq (St.closed _ _ _ _) (q_assign rfl) rfl ?_
  refine send ?_
  refine eseq ?_
  refine HT.no rfl ?_
  refine HT.seq ?_
  refine HT.plain ?_
  refine sq (St.closed _ _ _ _) (q_eqs rfl rfl (r := false) (by kernel_rfl)) rfl ?_
  refine sq (St.closed _ _ _ _) (q_assign rfl) rfl ?_
  refine send ?_
  refine eseq ?_
  refine HT.no rfl ?_
  refine HT.seq ?_
  refine HT.plain ?_
  refine sq (St.closed _ _ _ _) (q_eqs rfl rfl (r := false) (by kernel_rfl)) rfl ?_
  refine sq (St.closed _ _ _ _) (q_assign rfl) rfl ?_
  refine send ?_
  refine eseq ?_
  refine HT.no rfl ?_
  refine HT.seq ?_
  refine HT.plain ?_
  refine sq (St.closed _ _ _ _) (q_eqs rfl rfl (r := false) (by kernel_rfl)) rfl ?_
  refine sq (St.closed _ _ _ _) (q_assign rfl) rfl ?_
  refine send ?_
  refine eseq ?_
  refine HT.no rfl ?_
  refine HT.seq ?_
  refine HT.seq ?_
  refine HT.plain ?_
  refine sq (St.closed _ _ _ _) (q_eqs rfl rfl (r := false) (by kernel_rfl)) rfl ?_
  refine sq (St.closed _ _ _ _) (q_assign rfl) rfl ?_
  refine send ?_
  refine eseq ?_
  refine HT.no rfl ?_
  refine HT.seq ?_
  refine HT.plain ?_
  refine sq (St.closed _ _ _ _) (q_eqs rfl rfl (r := false) (by kernel_rfl)) rfl ?_
  refine sq (St.closed _ _ _ _) (q_assign rfl) rfl ?_
  refine send ?_
  refine eseq ?_
  refine HT.no rfl ?_
  refine HT.plain ?_
  refine sq (St.closed _ _ _ _) (q_eqs rfl rfl (r := false) (by kernel_rfl)) rfl ?_
  refine sq (St.closed _ _ _ _) (q_assign rfl) rfl ?_
  refine send ?_
  refine eseq ?_
  refine HT.no rfl ?_
  refine HT.seq ?_
  refine HT.plain ?_
  refine sq (St.closed _ _ _ _) (q_eqs rfl rfl (r := false) (by kernel_rfl)) rfl ?_
  refine sq (St.closed _ _ _ _) (q_assign rfl) rfl ?_
  refine send ?_
  refine eseq ?_
  refine HT.no rfl ?_
  refine HT.seq ?_
  refine HT.plain ?_
  refine sq (St.closed _ _ _ _) (q_eqs rfl rfl (r := true) (by kernel_rfl)) rfl ?_
  refine sq (St.closed _ _ _ _) (q_assign rfl) rfl ?_
  refine send ?_
  refine eseq ?_
  refine HT.yes rfl ?_
  refine HT.seq ?_
  refine HT.plain ?_
  refine sq (St.closed _ _ _ _) (q_move rfl) rfl ?_
  refine sq (St.closed _ _ _ _) (q_len (len := n) rfl Tryz.underlying22) rfl ?_
  refine sq (St.closed _ _ _ _) (q_F (q_lt (p := n) (q := 8) rfl rfl) (by omega)) rfl ?_
  refine sq (St.closed _ _ _ _) (q_move rfl) rfl ?_
  refine sgq (St.closed _ _ _ _) rfl (q_move rfl) rfl ?_
  refine sgq (St.closed _ _ _ _) rfl (q_len (len := n) rfl Tryz.underlying22) rfl ?_
  refine sgq (St.closed _ _ _ _) rfl (q_move rfl) rfl ?_
  refine sgq (St.closed _ _ _ _) rfl (q_index (i := 3) (j := 0) rfl rfl Tryz.underlying22 nagg_5 (fun _ h => h) rfl (by omega)) rfl ?_
  refine sgq (St.closed _ _ _ _) rfl (q_byte (i := 3) (j := 0) rfl nagg_5 (fun _ h => h) rfl (by omega)) rfl ?_
  refine sgq (St.closed _ _ _ _) rfl (q_convn (p := nb bs 3) rfl Tryz.underlying5 Tryz.underlying3 (show nb bs 3 < 9223372036854775808 by have := nb_lt bs 3; omega)) rfl ?_
  refine sgq (St.closed _ _ _ _) rfl (q_mul (p := 4) (q := nb bs 3) rfl rfl (show 4 * (nb bs 3) < 9223372036854775808 by have := nb_lt bs 3; omega)) rfl ?_
  refine sgq (St.closed _ _ _ _) rfl (q_add (p := 8) (q := 4 * (nb bs 3)) rfl rfl (show 8 + (4 * (nb bs 3)) < 9223372036854775808 by have := nb_lt bs 3; omega)) rfl ?_
  refine sgq (St.closed _ _ _ _) rfl (q_T (q_ge (p := n) (q := 8 + (4 * (nb bs 3))) rfl rfl) (by have := nb_lt bs 3; omega)) rfl ?_
  refine sq (St.closed _ _ _ _) (q_pick rfl (fun h => nomatch h) (fun _ => rfl)) rfl ?_
  refine sq (St.closed _ _ _ _) (q_assign rfl) rfl ?_
  refine send ?_
  refine eseq ?_
  refine HT.ret ?_
  refine rt_in ?_
  refine rt_then ?_
  exact fun a ha w' hw => fin_ ha (res1 ha Tryz.results57 rfl) ⟨rfl, hw.pres⟩

theorem vrrp_m1_3 (w : World) (A : Option Addr) (n : Nat) (c : Nat) (bs : List UInt8) (rb : Nat) (kb : Nat) (hn : n ≤ 400) (ha : 8 ≤ n) (hb : nb bs 0 % 16 = 1) (hc : nb bs 3 < 1) (hst : St w [rb] [⟨rb, 170, [some (.slice none 0 0), some (.slice none 0 0), some (.int .u8 ((0 : Nat) : Int)), some (.int .u8 ((0 : Nat) : Int)), some (.int .u8 ((0 : Nat) : Int)), some (.int .u8 ((0 : Nat) : Int)), some (.int .u8 ((0 : Nat) : Int)), some (.int .u8 ((0 : Nat) : Int)), some (.int .u8 ((0 : Nat) : Int)), some (.int .u16 ((0 : Nat) : Int)), some (.slice none 0 0)], true⟩] [Byt A n c bs] w) : Calls Tryz.prog 157 #[(.pointer (some ⟨rb, 0, none⟩)), (.slice A n c), (.iface 199 (.pointer (some ⟨kb, 0, none⟩)))] w (CP1 w [rb] [Byt A n c bs] (fun b5 => (.iface 204 (.pointer (some ⟨b5, 0, none⟩)))) (fun b5 => [⟨rb, 170, [some (.slice (cutA A c 0) (n - 0) (c - 0)), some (.slice none 0 0), some (.int .u8 (((nb bs 0) / 16 : Nat) : Int)), some (.int .u8 (((nb bs 0) &&& 15 : Nat) : Int)), some (.int .u8 ((nb bs 1 : Nat) : Int)), some (.int .u8 ((nb bs 2 : Nat) : Int)), some (.int .u8 ((nb bs 3 : Nat) : Int)), some (.int .u8 ((0 : Nat) : Int)), some (.int .u8 ((0 : Nat) : Int)), some (.int .u16 ((0 : Nat) : Int)), some (.slice none 0 0)], true⟩, ⟨b5, 206, [some (.string (⟨#[86, 82, 82, 80, 118, 50, 32, 110, 117, 109, 98, 101, 114, 32, 111, 102, 32, 73, 80, 32, 97, 100, 100, 114, 101, 115, 115, 101, 115, 32, 105, 115, 32, 110, 111, 116, 32, 118, 97, 108, 105, 100, 46]⟩))], true⟩]) (fun b5 => [])) := by
  have hnc00 : n ≤ c := (hst.fact (j := 0) rfl).2.1
  refine enter (vs := [(.pointer (some ⟨rb, 0, none⟩)), (.slice A n c), (.iface 199 (.pointer (some ⟨kb, 0, none⟩)))]) Tryz.func157 rfl rfl rfl hst ?_
  refine HT.seq ?_
  refine HT.plain ?_
  refine sq (St.closed _ _ _ _) (q_assign rfl) rfl ?_
  refine send ?_
  refine eseq ?_
  refine HT.seq ?_
  refine HT.plain ?_
  refine sq (St.closed _ _ _ _) (q_move rfl) rfl ?_
  refine sq (St.closed _ _ _ _) (q_move rfl) rfl ?_
  refine sq (St.closed _ _ _ _) (q_move rfl) rfl ?_
  refine sq (St.closed _ _ _ _) (q_len (len := n) rfl Tryz.underlying22) rfl ?_
  refine sq (St.closed _ _ _ _) (q_slice (lo := 0) (hi := n) rfl Tryz.underlying22 nagg_5 (.inl ⟨rfl, rfl⟩) (.inr ⟨_, _, rfl, rfl⟩) (by omega) (by omega)) rfl ?_
  refine sq (St.closed _ _ _ _) (q_build (vs := [(0, (.slice (cutA A c 0) (n - 0) (c - 0)))]) (v := (.agg #[(.slice (cutA A c 0) (n - 0) (c - 0)), (.slice none 0 0)])) rfl (fun _ => by kernel_rfl)) rfl ?_
  refine sq (St.closed _ _ _ _) (q_nil rfl) rfl ?_
  refine sq (St.closed _ _ _ _) (q_field (b := rb) (off := 0) rfl fo_170_0) rfl ?_
  refine sl_ (l_storeAgg (b := rb) (off := 0) (j := 0) (vs := [(.slice (cutA A c 0) (n - 0) (c - 0)), (.slice none 0 0)]) rfl rfl aggs_68 (by simp [Value.one1]) rfl rfl rfl (Nat.le_of_ble_eq_true rfl) ?_)
  refine send ?_
  refine eseq ?_
  refine HT.seq ?_
  refine HT.plain ?_
  refine sq (St.closed _ _ _ _) (q_move rfl) rfl ?_
  refine sq (St.closed _ _ _ _) (q_move rfl) rfl ?_
  refine sq (St.closed _ _ _ _) (q_index (i := 0) (j := 0) rfl rfl Tryz.underlying22 nagg_5 (fun _ h => h) rfl (by omega)) rfl ?_
  refine sq (St.closed _ _ _ _) (q_byte (i := 0) (j := 0) rfl nagg_5 (fun _ h => h) rfl (by omega)) rfl ?_
  refine sq (St.closed _ _ _ _) (q_shr (p := nb bs 0) (e := 4) (N := 16) rfl rfl (by decide) rfl) rfl ?_
  refine sq (St.closed _ _ _ _) (q_nil rfl) rfl ?_
  refine sq (St.closed _ _ _ _) (q_field (b := rb) (off := 0) rfl fo_170_1) rfl ?_
  refine sl_ (l_store (b := rb) (off := 2) (j := 0) rfl rfl nagg_5 rfl rfl rfl rfl (dlt rfl) ?_)
  refine send ?_
  refine eseq ?_
  refine HT.seq ?_
  refine HT.plain ?_
  refine sq (St.closed _ _ _ _) (q_move rfl) rfl ?_
  refine sq (St.closed _ _ _ _) (q_move rfl) rfl ?_
  refine sq (St.closed _ _ _ _) (q_index (i := 0) (j := 0) rfl rfl Tryz.underlying22 nagg_5 (fun _ h => h) rfl (by omega)) rfl ?_
  refine sq (St.closed _ _ _ _) (q_byte (i := 0) (j := 0) rfl nagg_5 (fun _ h => h) rfl (by omega)) rfl ?_
  refine sq (St.closed _ _ _ _) (q_and (p := nb bs 0) (q := 15) rfl rfl rfl (show nb bs 0 < 256 by have := nb_lt bs 0; omega) (by decide)) rfl ?_
  refine sq (St.closed _ _ _ _) (q_nil rfl) rfl ?_
  refine sq (St.closed _ _ _ _) (q_field (b := rb) (off := 0) rfl fo_170_2) rfl ?_
  refine sl_ (l_store (b := rb) (off := 3) (j := 0) rfl rfl nagg_166 rfl rfl rfl rfl (dlt rfl) ?_)
  refine send ?_
  refine eseq ?_
  refine HT.seq ?_
  refine HT.seq ?_
  refine HT.plain ?_
  refine sq (St.closed _ _ _ _) (q_move rfl) rfl ?_
  refine sq (St.closed _ _ _ _) (q_nil rfl) rfl ?_
  refine sq (St.closed _ _ _ _) (q_field (b := rb) (off := 0) rfl fo_170_2) rfl ?_
  refine sq (St.closed _ _ _ _) (q_load (b := rb) (off := 3) (j := 0) rfl nagg_166 (fun _ h => h) rfl rfl rfl) rfl ?_
  refine sq (St.closed _ _ _ _) (q_F (q_ne (p := (nb bs 0) &&& 15) (q := 1) rfl rfl) (by have := nb_lt bs 0; have := zm15 (nb bs 0); have := Nat.and_le_left (n := nb bs 0) (m := 15); have := Nat.and_le_right (n := nb bs 0) (m := 15); omega)) rfl ?_
  refine send ?_
  refine eseq ?_
  refine HT.no rfl ?_
  refine HT.skip ?_
  refine eseq ?_
  refine HT.seq ?_
  refine HT.plain ?_
  refine sq (St.closed _ _ _ _) (q_move rfl) rfl ?_
  refine sq (St.closed _ _ _ _) (q_move rfl) rfl ?_
  refine sq (St.closed _ _ _ _) (q_index (i := 1) (j := 0) rfl rfl Tryz.underlying22 nagg_5 (fun _ h => h) rfl (by omega)) rfl ?_
  refine sq (St.closed _ _ _ _) (q_byte (i := 1) (j := 0) rfl nagg_5 (fun _ h => h) rfl (by omega)) rfl ?_
  refine sq (St.closed _ _ _ _) (q_nil rfl) rfl ?_
  refine sq (St.closed _ _ _ _) (q_field (b := rb) (off := 0) rfl fo_170_3) rfl ?_
  refine sl_ (l_store (b := rb) (off := 4) (j := 0) rfl rfl nagg_5 rfl rfl rfl rfl (dlt rfl) ?_)
  refine send ?_
  refine eseq ?_
  refine HT.seq ?_
  refine HT.plain ?_
  refine sq (St.closed _ _ _ _) (q_move rfl) rfl ?_
  refine sq (St.closed _ _ _ _) (q_move rfl) rfl ?_
  refine sq (St.closed _ _ _ _) (q_index (i := 2) (j := 0) rfl rfl Tryz.underlying22 nagg_5 (fun _ h => h) rfl (by omega)) rfl ?_
  refine sq (St.closed _ _ _ _) (q_byte (i := 2) (j := 0) rfl nagg_5 (fun _ h => h) rfl (by omega)) rfl ?_
  refine sq (St.closed _ _ _ _) (q_nil rfl) rfl ?_
  refine sq (St.closed _ _ _ _) (q_field (b := rb) (off := 0) rfl fo_170_4) rfl ?_
  refine sl_ (l_store (b := rb) (off := 5) (j := 0) rfl rfl nagg_5 rfl rfl rfl rfl (dlt rfl) ?_)
  refine send ?_
  refine eseq ?_
  refine HT.seq ?_
  refine HT.plain ?_
  refine sq (St.closed _ _ _ _) (q_move rfl) rfl ?_
  refine sq (St.closed _ _ _ _) (q_move rfl) rfl ?_
  refine sq (St.closed _ _ _ _) (q_index (i := 3) (j := 0) rfl rfl Tryz.underlying22 nagg_5 (fun _ h => h) rfl (by omega)) rfl ?_
  refine sq (St.closed _ _ _ _) (q_byte (i := 3) (j := 0) rfl nagg_5 (fun _ h => h) rfl (by omega)) rfl ?_
  refine sq (St.closed _ _ _ _) (q_nil rfl) rfl ?_
  refine sq (St.closed _ _ _ _) (q_field (b := rb) (off := 0) rfl fo_170_5) rfl ?_
  refine sl_ (l_store (b := rb) (off := 6) (j := 0) rfl rfl nagg_5 rfl rfl rfl rfl (dlt rfl) ?_)
  refine send ?_
  refine eseq ?_
  refine HT.seq ?_
  refine HT.seq ?_
  refine HT.plain ?_
  refine sq (St.closed _ _ _ _) (q_move rfl) rfl ?_
  refine sq (St.closed _ _ _ _) (q_nil rfl) rfl ?_
  refine sq (St.closed _ _ _ _) (q_field (b := rb) (off := 0) rfl fo_170_5) rfl ?_
  refine sq (St.closed _ _ _ _) (q_load (b := rb) (off := 6) (j := 0) rfl nagg_5 (fun _ h => h) rfl rfl rfl) rfl ?_
  refine sq (St.closed _ _ _ _) (q_T (q_lt (p := nb bs 3) (q := 1) rfl rfl) (by have := nb_lt bs 3; omega)) rfl ?_
  refine send ?_
  refine eseq ?_
  refine HT.yes rfl ?_
  refine HT.seq ?_
  refine HT.plain ?_
  refine sl_ (l_callX1 (vs := [(.string ⟨#[86, 82, 82, 80, 118, 50, 32, 110, 117, 109, 98, 101, 114, 32, 111, 102, 32, 73, 80, 32, 97, 100, 100, 114, 101, 115, 115, 101, 115, 32, 105, 115, 32, 110, 111, 116, 32, 118, 97, 108, 105, 100, 46]⟩)]) (Kc := []) (Bc := []) [] [] [Byt A n c bs] (fun b5 => [⟨rb, 170, [some (.slice (cutA A c 0) (n - 0) (c - 0)), some (.slice none 0 0), some (.int .u8 (((nb bs 0) / 16 : Nat) : Int)), some (.int .u8 (((nb bs 0) &&& 15 : Nat) : Int)), some (.int .u8 ((nb bs 1 : Nat) : Int)), some (.int .u8 ((nb bs 2 : Nat) : Int)), some (.int .u8 ((nb bs 3 : Nat) : Int)), some (.int .u8 ((0 : Nat) : Int)), some (.int .u8 ((0 : Nat) : Int)), some (.int .u16 ((0 : Nat) : Int)), some (.slice none 0 0)], true⟩, ⟨b5, 206, [some (.string (⟨#[86, 82, 82, 80, 118, 50, 32, 110, 117, 109, 98, 101, 114, 32, 111, 102, 32, 73, 80, 32, 97, 100, 100, 114, 101, 115, 115, 101, 115, 32, 105, 115, 32, 110, 111, 116, 32, 118, 97, 108, 105, 100, 46]⟩))], true⟩]) (fun b5 => [Byt A n c bs]) (by decide) rfl ca_67 (fun _ h => h) rfl rfl rfl rfl (fun w h => errNew w (⟨#[86, 82, 82, 80, 118, 50, 32, 110, 117, 109, 98, 101, 114, 32, 111, 102, 32, 73, 80, 32, 97, 100, 100, 114, 101, 115, 115, 101, 115, 32, 105, 115, 32, 110, 111, 116, 32, 118, 97, 108, 105, 100, 46]⟩)  h) (fun _ => rfl) (fun _ => rfl) (fun _ => rfl) (fun _ => rfl) fun b5 hf1 he2 => ?_)
  refine sq (St.closed _ _ _ _) (q_assign rfl) rfl ?_
  refine send ?_
  refine eseq ?_
  refine HT.ret ?_
  refine rt_then ?_
  exact fun a ha w' hw => fin_ ha (res1 ha Tryz.results157 rfl) ⟨b5, rfl, hw, fr0⟩

theorem vrrp_dd3 (w : World) (A : Option Addr) (n : Nat) (c : Nat) (bs : List UInt8) (rb : Nat) (kb : Nat) (hn : n ≤ 400) (ha : 8 ≤ n) (hb : nb bs 0 % 16 = 1) (hc : nb bs 3 < 1) (hst : St w [rb, kb] [⟨rb, 170, [some (.slice none 0 0), some (.slice none 0 0), some (.int .u8 ((0 : Nat) : Int)), some (.int .u8 ((0 : Nat) : Int)), some (.int .u8 ((0 : Nat) : Int)), some (.int .u8 ((0 : Nat) : Int)), some (.int .u8 ((0 : Nat) : Int)), some (.int .u8 ((0 : Nat) : Int)), some (.int .u8 ((0 : Nat) : Int)), some (.int .u16 ((0 : Nat) : Int)), some (.slice none 0 0)], true⟩, ⟨kb, 201, [some .nilIface], true⟩] [Byt A n c bs] w) : Calls Tryz.prog 96 #[(.iface 165 (.pointer (some ⟨rb, 0, none⟩))), (.slice A n c), (.iface 199 (.pointer (some ⟨kb, 0, none⟩)))] w (CP1 w [rb, kb] [Byt A n c bs] (fun b5 => (.iface 204 (.pointer (some ⟨b5, 0, none⟩)))) (fun b5 => [⟨rb, 170, [some (.slice (cutA A c 0) (n - 0) (c - 0)), some (.slice none 0 0), some (.int .u8 (((nb bs 0) / 16 : Nat) : Int)), some (.int .u8 (((nb bs 0) &&& 15 : Nat) : Int)), some (.int .u8 ((nb bs 1 : Nat) : Int)), some (.int .u8 ((nb bs 2 : Nat) : Int)), some (.int .u8 ((nb bs 3 : Nat) : Int)), some (.int .u8 ((0 : Nat) : Int)), some (.int .u8 ((0 : Nat) : Int)), some (.int .u16 ((0 : Nat) : Int)), some (.slice none 0 0)], true⟩, ⟨kb, 201, [some .nilIface], true⟩, ⟨b5, 206, [some (.string (⟨#[86, 82, 82, 80, 118, 50, 32, 110, 117, 109, 98, 101, 114, 32, 111, 102, 32, 73, 80, 32, 97, 100, 100, 114, 101, 115, 115, 101, 115, 32, 105, 115, 32, 110, 111, 116, 32, 118, 97, 108, 105, 100, 46]⟩))], true⟩]) (fun b5 => [])) := by
  have hnc00 : n ≤ c := (hst.fact (j := 0) rfl).2.1
  refine enter (vs := [(.iface 165 (.pointer (some ⟨rb, 0, none⟩))), (.slice A n c), (.iface 199 (.pointer (some ⟨kb, 0, none⟩)))]) Tryz.func96 rfl rfl rfl hst ?_
  refine HT.seq ?_
  refine HT.plain ?_
  refine sq (St.closed _ _ _ _) (q_assign rfl) rfl ?_
  refine send ?_
  refine eseq ?_
  refine HT.seq ?_
  refine HT.plain ?_
  refine sq (St.closed _ _ _ _) (q_move rfl) rfl ?_
  refine sq (St.closed _ _ _ _) (q_move rfl) rfl ?_
  refine sq (St.closed _ _ _ _) (q_move rfl) rfl ?_
  refine sl_ (l_invX1 (vs := [(.slice A n c), (.iface 199 (.pointer (some ⟨kb, 0, none⟩)))]) (Kc := [⟨rb, 170, [some (.slice none 0 0), some (.slice none 0 0), some (.int .u8 ((0 : Nat) : Int)), some (.int .u8 ((0 : Nat) : Int)), some (.int .u8 ((0 : Nat) : Int)), some (.int .u8 ((0 : Nat) : Int)), some (.int .u8 ((0 : Nat) : Int)), some (.int .u8 ((0 : Nat) : Int)), some (.int .u8 ((0 : Nat) : Int)), some (.int .u16 ((0 : Nat) : Int)), some (.slice none 0 0)], true⟩]) (Bc := [Byt A n c bs]) [0] [0] [Byt A n c bs] (fun b5 => [⟨kb, 201, [some .nilIface], true⟩, ⟨rb, 170, [some (.slice (cutA A c 0) (n - 0) (c - 0)), some (.slice none 0 0), some (.int .u8 (((nb bs 0) / 16 : Nat) : Int)), some (.int .u8 (((nb bs 0) &&& 15 : Nat) : Int)), some (.int .u8 ((nb bs 1 : Nat) : Int)), some (.int .u8 ((nb bs 2 : Nat) : Int)), some (.int .u8 ((nb bs 3 : Nat) : Int)), some (.int .u8 ((0 : Nat) : Int)), some (.int .u8 ((0 : Nat) : Int)), some (.int .u16 ((0 : Nat) : Int)), some (.slice none 0 0)], true⟩, ⟨b5, 206, [some (.string (⟨#[86, 82, 82, 80, 118, 50, 32, 110, 117, 109, 98, 101, 114, 32, 111, 102, 32, 73, 80, 32, 97, 100, 100, 114, 101, 115, 115, 101, 115, 32, 105, 115, 32, 110, 111, 116, 32, 118, 97, 108, 105, 100, 46]⟩))], true⟩]) (fun b5 => [Byt A n c bs]) (by decide) rfl (fun w => me_165_DecodeFromBytes _ w) rfl ca_157 (fun _ h => h) rfl rfl rfl rfl (fun w h => vrrp_m1_3 w A n c bs rb kb (by omega) (by omega) (by omega) (by omega) h) (fun _ => rfl) (fun _ => rfl) (fun _ => rfl) (fun _ => rfl) fun b5 hf1 he2 => ?_)
  refine sq (St.closed _ _ _ _) (q_assign rfl) rfl ?_
  refine send ?_
  refine eseq ?_
  refine HT.seq ?_
  refine HT.seq ?_
  refine HT.plain ?_
  refine sq (St.closed _ _ _ _) (q_move rfl) rfl ?_
  refine sq (St.closed _ _ _ _) (q_notNil' rfl rfl Tryz.underlying59) rfl ?_
  refine send ?_
  refine eseq ?_
  refine HT.yes rfl ?_
  refine HT.seq ?_
  refine HT.plain ?_
  refine sq (St.closed _ _ _ _) (q_move rfl) rfl ?_
  refine sq (St.closed _ _ _ _) (q_assign rfl) rfl ?_
  refine send ?_
  refine eseq ?_
  refine HT.ret ?_
  refine rt_then ?_
  exact fun a ha w' hw => fin_ ha (res1 ha Tryz.results96 rfl) ⟨b5, rfl, (hw.wk [(1, []), (0, []), (2, [])] rfl), fr0⟩

theorem vrrp_d3 (w : World) (A : Option Addr) (n : Nat) (c : Nat) (bs : List UInt8) (kb : Nat) (hn : n ≤ 400) (ha : 8 ≤ n) (hb : nb bs 0 % 16 = 1) (hc : nb bs 3 < 1) (hst : St w [kb] [⟨kb, 201, [some .nilIface], true⟩] [Byt A n c bs] w) : Calls Tryz.prog 86 #[(.slice A n c), (.iface 199 (.pointer (some ⟨kb, 0, none⟩)))] w (CP1 w [kb] [Byt A n c bs] (fun b5 => (.iface 204 (.pointer (some ⟨b5, 0, none⟩)))) (fun b5 => [⟨kb, 201, [some .nilIface], true⟩, ⟨b5, 206, [some (.string (⟨#[86, 82, 82, 80, 118, 50, 32, 110, 117, 109, 98, 101, 114, 32, 111, 102, 32, 73, 80, 32, 97, 100, 100, 114, 101, 115, 115, 101, 115, 32, 105, 115, 32, 110, 111, 116, 32, 118, 97, 108, 105, 100, 46]⟩))], true⟩]) (fun b5 => [])) := by
  have hnc00 : n ≤ c := (hst.fact (j := 0) rfl).2.1
  refine enter (vs := [(.slice A n c), (.iface 199 (.pointer (some ⟨kb, 0, none⟩)))]) Tryz.func86 rfl rfl rfl hst ?_
  refine HT.seq ?_
  refine HT.plain ?_
  refine sq (St.closed _ _ _ _) (q_assign rfl) rfl ?_
  refine send ?_
  refine eseq ?_
  refine HT.seq ?_
  refine HT.seq ?_
  refine HT.plain ?_
  refine sq (St.closed _ _ _ _) (q_move rfl) rfl ?_
  refine sq (St.closed _ _ _ _) (q_len (len := n) rfl Tryz.underlying22) rfl ?_
  refine sq (St.closed _ _ _ _) (q_F (q_lt (p := n) (q := 8) rfl rfl) (by omega)) rfl ?_
  refine send ?_
  refine eseq ?_
  refine HT.no rfl ?_
  refine HT.skip ?_
  refine eseq ?_
  refine HT.seq ?_
  refine HT.plain ?_
  refine sq (St.closed _ _ _ _) (q_build (vs := []) (v := (.agg #[(.slice none 0 0), (.slice none 0 0), (.int .u8 ((0 : Nat) : Int)), (.int .u8 ((0 : Nat) : Int)), (.int .u8 ((0 : Nat) : Int)), (.int .u8 ((0 : Nat) : Int)), (.int .u8 ((0 : Nat) : Int)), (.int .u8 ((0 : Nat) : Int)), (.int .u8 ((0 : Nat) : Int)), (.int .u16 ((0 : Nat) : Int)), (.slice none 0 0)])) rfl (fun _ => by kernel_rfl)) rfl ?_
  refine sl_ (l_box (by decide) rfl fun b11 => ?_)
  refine sq (St.closed _ _ _ _) (q_assign rfl) rfl ?_
  refine send ?_
  refine eseq ?_
  refine HT.seq ?_
  refine HT.plain ?_
  refine sq (St.closed _ _ _ _) (q_move rfl) rfl ?_
  refine sq (St.closed _ _ _ _) (q_iface rfl Tryz.underlying165 (fun _ h => nomatch h)) rfl ?_
  refine sq (St.closed _ _ _ _) (q_move rfl) rfl ?_
  refine sq (St.closed _ _ _ _) (q_move rfl) rfl ?_
  refine sl_ (l_callX1 (vs := [(.iface 165 (.pointer (some ⟨b11, 0, none⟩))), (.slice A n c), (.iface 199 (.pointer (some ⟨kb, 0, none⟩)))]) (Kc := [⟨b11, 170, [some (.slice none 0 0), some (.slice none 0 0), some (.int .u8 ((0 : Nat) : Int)), some (.int .u8 ((0 : Nat) : Int)), some (.int .u8 ((0 : Nat) : Int)), some (.int .u8 ((0 : Nat) : Int)), some (.int .u8 ((0 : Nat) : Int)), some (.int .u8 ((0 : Nat) : Int)), some (.int .u8 ((0 : Nat) : Int)), some (.int .u16 ((0 : Nat) : Int)), some (.slice none 0 0)], true⟩, ⟨kb, 201, [some .nilIface], true⟩]) (Bc := [Byt A n c bs]) [1, 0] [0] [Byt A n c bs] (fun b5 => [⟨b11, 170, [some (.slice (cutA A c 0) (n - 0) (c - 0)), some (.slice none 0 0), some (.int .u8 (((nb bs 0) / 16 : Nat) : Int)), some (.int .u8 (((nb bs 0) &&& 15 : Nat) : Int)), some (.int .u8 ((nb bs 1 : Nat) : Int)), some (.int .u8 ((nb bs 2 : Nat) : Int)), some (.int .u8 ((nb bs 3 : Nat) : Int)), some (.int .u8 ((0 : Nat) : Int)), some (.int .u8 ((0 : Nat) : Int)), some (.int .u16 ((0 : Nat) : Int)), some (.slice none 0 0)], true⟩, ⟨kb, 201, [some .nilIface], true⟩, ⟨b5, 206, [some (.string (⟨#[86, 82, 82, 80, 118, 50, 32, 110, 117, 109, 98, 101, 114, 32, 111, 102, 32, 73, 80, 32, 97, 100, 100, 114, 101, 115, 115, 101, 115, 32, 105, 115, 32, 110, 111, 116, 32, 118, 97, 108, 105, 100, 46]⟩))], true⟩]) (fun b5 => [Byt A n c bs]) (by decide) rfl ca_96 (fun _ h => h) rfl rfl rfl rfl (fun w h => vrrp_dd3 w A n c bs b11 kb (by omega) (by omega) (by omega) (by omega) h) (fun _ => rfl) (fun _ => rfl) (fun _ => rfl) (fun _ => rfl) fun b5 hf1 he2 => ?_)
  refine sq (St.closed _ _ _ _) (q_assign rfl) rfl ?_
  refine send ?_
  refine eseq ?_
  refine HT.ret ?_
  exact fun a ha w' hw => fin_ ha (res1 ha Tryz.results86 rfl) ⟨b5, rfl, (hw.wk [(1, []), (2, [])] rfl), fr0⟩

theorem vrrp_z3 (w : World) (A : Option Addr) (n : Nat) (c : Nat) (bs : List UInt8) (hn : n ≤ 400) (ha : 8 ≤ n) (hb : nb bs 0 % 16 = 1) (hc : nb bs 3 < 1) (hst : St w [] [] [Byt A n c bs] w) : Calls Tryz.prog 58 #[(.string ⟨#[118, 114, 114, 112]⟩), (.slice A n c)] w (CP1 w [] [Byt A n c bs] (fun b5_1 => (.tuple #[.nilIface, (.iface 204 (.pointer (some ⟨b5_1, 0, none⟩)))])) (fun b5_1 => [⟨b5_1, 206, [some (.string (⟨#[86, 82, 82, 80, 118, 50, 32, 110, 117, 109, 98, 101, 114, 32, 111, 102, 32, 73, 80, 32, 97, 100, 100, 114, 101, 115, 115, 101, 115, 32, 105, 115, 32, 110, 111, 116, 32, 118, 97, 108, 105, 100, 46]⟩))], true⟩]) (fun b5_1 => [])) := by
  have hnc00 : n ≤ c := (hst.fact (j := 0) rfl).2.1
  refine enter (vs := [(.string ⟨#[118, 114, 114, 112]⟩), (.slice A n c)]) Tryz.func58 rfl rfl rfl hst ?_
  refine HT.seq ?_
  refine HT.plain ?_
  refine sq (St.closed _ _ _ _) (q_assign rfl) rfl ?_
  refine sq (St.closed _ _ _ _) (q_assign rfl) rfl ?_
  refine send ?_
  refine eseq ?_
  refine HT.seq ?_
  refine HT.plain ?_
  refine sq (St.closed _ _ _ _) (q_build (vs := []) (v := (.agg #[.nilIface])) rfl (fun _ => by kernel_rfl)) rfl ?_
  refine sl_ (l_box (by decide) rfl fun b9 => ?_)
  refine sq (St.closed _ _ _ _) (q_assign rfl) rfl ?_
  refine send ?_
  refine eseq ?_
  refine HT.seq ?_
  refine HT.plain ?_
  refine sl_ (l_callX1 (vs := [(.string ⟨#[110, 111, 32, 107, 105, 110, 100]⟩)]) (Kc := []) (Bc := []) [] [] [Byt A n c bs] (fun b5 => [⟨b9, 201, [some .nilIface], true⟩, ⟨b5, 206, [some (.string (⟨#[110, 111, 32, 107, 105, 110, 100]⟩))], true⟩]) (fun b5 => [Byt A n c bs]) (by decide) rfl ca_67 (fun _ h => h) rfl rfl rfl rfl (fun w h => errNew w (⟨#[110, 111, 32, 107, 105, 110, 100]⟩)  h) (fun _ => rfl) (fun _ => rfl) (fun _ => rfl) (fun _ => rfl) fun b5 hf1 he2 => ?_)
  refine sq (St.closed _ _ _ _) (q_assign rfl) rfl ?_
  refine send ?_
  refine eseq ?_
  refine HT.seq ?_
  refine HT.seq ?_
  refine HT.plain ?_
  refine sq (St.closed _ _ _ _) (q_move rfl) rfl ?_
  refine send ?_
  refine eseq ?_
  refine HT.block ?_
  refine HT.seq ?_
  refine HT.plain ?_
  refine sq (St.closed _ _ _ _) (q_eqs rfl rfl (r := false) (by kernel_rfl)) rfl ?_
  refine sq (St.closed _ _ _ _) (q_assign rfl) rfl ?_
  refine send ?_
  refine eseq ?_
  refine HT.no rfl ?_
  refine HT.seq ?_
  refine HT.plain ?_
  refine sq (St.closed _ _ _ _) (q_eqs rfl rfl (r := false) (by kernel_rfl)) rfl ?_
  refine sq (St.closed _ _ _ _) (q_assign rfl) rfl ?_
  refine send ?_
  refine eseq ?_
  refine HT.no rfl ?_
  refine HT.seq ?_
  refine HT.plain ?_
  refine sq (St.closed _ _ _ _) (q_eqs rfl rfl (r := false) (by kernel_rfl)) rfl ?_
  refine sq (St.closed _ _ _ _) (q_assign rfl) rfl ?_
  refine send ?_
  refine eseq ?_
  refine HT.no rfl ?_
  refine HT.seq ?_
  refine HT.plain ?_
  refine sq (St.closed _ _ _ _) (q_eqs rfl rfl (r := false) (by kernel_rfl)) rfl ?_
  refine sq (St.closed _ _ _ _) (q_assign rfl) rfl ?_
  refine send ?_
  refine eseq ?_
  refine HT.no rfl ?_
  refine HT.seq ?_
  refine HT.plain ?_
  refine sq (St.closed _ _ _ _) (q_eqs rfl rfl (r := false) (by kernel_rfl)) rfl ?_
  refine sq (St.closed _ _ _ _) (q_assign rfl) rfl ?_
  refine send ?_
  refine eseq ?_
  refine HT.no rfl ?_
  refine HT.seq ?_
  refine HT.plain ?_
  refine sq (St.closed _ _ _ _) (q_eqs rfl rfl (r := false) (by kernel_rfl)) rfl ?_
  refine sq (St.closed _ _ _ _) (q_assign rfl) rfl ?_
  refine send ?_
  refine eseq ?_
  refine HT.no rfl ?_
  refine HT.seq ?_
  refine HT.plain ?_
  refine sq (St.closed _ _ _ _) (q_eqs rfl rfl (r := false) (by kernel_rfl)) rfl ?_
  refine sq (St.closed _ _ _ _) (q_assign rfl) rfl ?_
  refine send ?_
  refine eseq ?_
  refine HT.no rfl ?_
  refine HT.seq ?_
  refine HT.plain ?_
  refine sq (St.closed _ _ _ _) (q_eqs rfl rfl (r := false) (by kernel_rfl)) rfl ?_
  refine sq (St.closed _ _ _ _) (q_assign rfl) rfl ?_
  refine send ?_
  refine eseq ?_
  refine HT.no rfl ?_
  refine HT.seq ?_
  refine HT.plain ?_
  refine sq (St.closed _ _ _ _) (q_eqs rfl rfl (r := false) (by kernel_rfl)) rfl ?_
  refine sq (St.closed _ _ _ _) (q_assign rfl) rfl ?_
  refine send ?_
  refine eseq ?_
  refine HT.no rfl ?_
  refine HT.seq ?_
  refine HT.plain ?_
  refine sq (St.closed _ _ _ _) (q_eqs rfl rfl (r := false) (by kernel_rfl)) rfl ?_
  refine sq (St.closed _ _ _ _) (q_assign rfl) rfl ?_
  refine send ?_
  refine eseq ?_
  refine HT.no rfl ?_
  refine HT.seq ?_
  refine HT.plain ?_
  refine sq (St.closed _ _ _ _) (q_eqs rfl rfl (r := false) (by kernel_rfl)) rfl ?_
  refine sq (St.closed _ _ _ _) (q_assign rfl) rfl ?_
  refine send ?_
  refine eseq ?_
  refine HT.no rfl ?_
  refine HT.seq ?_
  refine HT.plain ?_
  refine sq (St.closed _ _ _ _) (q_eqs rfl rfl (r := false) (by kernel_rfl)) rfl ?_
  refine sq (St.closed _ _ _ _) (q_assign rfl) rfl ?_
  refine send ?_
  refine eseq ?_
  refine HT.no rfl ?_
  refine HT.seq ?_
  refine HT.plain ?_
  refine sq (St.closed _ _ _ _) (q_eqs rfl rfl (r := false) (by kernel_rfl)) rfl ?_
  refine sq (St.closed _ _ _ _) (q_assign rfl) rfl ?_
  refine send ?_
  refine eseq ?_
  refine HT.no rfl ?_
  refine HT.seq ?_
  refine HT.plain ?_
  refine sq (St.closed _ _ _ _) (q_eqs rfl rfl (r := false) (by kernel_rfl)) rfl ?_
  refine sq (St.closed _ _ _ _) (q_assign rfl) rfl ?_
  refine send ?_
  refine eseq ?_
  refine HT.no rfl ?_
  refine HT.seq ?_
  refine HT.plain ?_
  refine sq (St.closed _ _ _ _) (q_eqs rfl rfl (r := false) (by kernel_rfl)) rfl ?_
  refine sq (St.closed _ _ _ _) (q_assign rfl) rfl ?_
  refine send ?_
  refine eseq ?_
  refine HT.no rfl ?_
  refine HT.seq ?_
  refine HT.plain ?_
  refine sq (St.closed _ _ _ _) (q_eqs rfl rfl (r := false) (by kernel_rfl)) rfl ?_
  refine sq (St.closed _ _ _ _) (q_assign rfl) rfl ?_
  refine send ?_
  refine eseq ?_
  refine HT.no rfl ?_
  refine HT.seq ?_
  refine HT.plain ?_
  refine sq (St.closed _ _ _ _) (q_eqs rfl rfl (r := false) (by kernel_rfl)) rfl ?_
  refine sq (St.closed _ _ _ _) (q_assign rfl) rfl ?_
  refine send ?_
  refine eseq ?_
  refine HT.no rfl ?_
  refine HT.seq ?_
  refine HT.plain ?_
  refine sq (St.closed _ _ _ _) (q_eqs rfl rfl (r := false) (by kernel_rfl)) rfl ?_
  refine sq (St.closed _ _ _ _) (q_assign rfl) rfl ?_
  refine send ?_
  refine eseq ?_
  refine HT.no rfl ?_
  refine HT.seq ?_
  refine HT.plain ?_
  refine sq (St.closed _ _ _ _) (q_eqs rfl rfl (r := true) (by kernel_rfl)) rfl ?_
  refine sq (St.closed _ _ _ _) (q_assign rfl) rfl ?_
  refine send ?_
  refine eseq ?_
  refine HT.yes rfl ?_
  refine HT.plain ?_
  refine sq (St.closed _ _ _ _) (q_move rfl) rfl ?_
  refine sq (St.closed _ _ _ _) (q_move rfl) rfl ?_
  refine sq (St.closed _ _ _ _) (q_iface rfl Tryz.underlying199 (fun _ h => nomatch h)) rfl ?_
  refine sl_ (l_callX1 (vs := [(.slice A n c), (.iface 199 (.pointer (some ⟨b9, 0, none⟩)))]) (Kc := [⟨b9, 201, [some .nilIface], true⟩]) (Bc := [Byt A n c bs]) [0] [0] [Byt A n c bs] (fun b5_1 => [⟨b5, 206, [some (.string (⟨#[110, 111, 32, 107, 105, 110, 100]⟩))], true⟩, ⟨b9, 201, [some .nilIface], true⟩, ⟨b5_1, 206, [some (.string (⟨#[86, 82, 82, 80, 118, 50, 32, 110, 117, 109, 98, 101, 114, 32, 111, 102, 32, 73, 80, 32, 97, 100, 100, 114, 101, 115, 115, 101, 115, 32, 105, 115, 32, 110, 111, 116, 32, 118, 97, 108, 105, 100, 46]⟩))], true⟩]) (fun b5_1 => [Byt A n c bs]) (by decide) rfl ca_86 (fun _ h => h) rfl rfl rfl rfl (fun w h => vrrp_d3 w A n c bs b9 (by omega) (by omega) (by omega) (by omega) h) (fun _ => rfl) (fun _ => rfl) (fun _ => rfl) (fun _ => rfl) fun b5_1 hf3 he4 => ?_)
  refine sq (St.closed _ _ _ _) (q_assign rfl) rfl ?_
  refine send ?_
  refine ein ?_
  refine eseq ?_
  refine HT.seq ?_
  refine HT.seq ?_
  refine HT.plain ?_
  refine sq (St.closed _ _ _ _) (q_move rfl) rfl ?_
  refine sq (St.closed _ _ _ _) (q_notNil' rfl rfl Tryz.underlying59) rfl ?_
  refine send ?_
  refine eseq ?_
  refine HT.yes rfl ?_
  refine HT.seq ?_
  refine HT.plain ?_
  refine sq (St.closed _ _ _ _) (q_move rfl) rfl ?_
  refine sq (St.closed _ _ _ _) (q_assign rfl) rfl ?_
  refine sq (St.closed _ _ _ _) (q_assign rfl) rfl ?_
  refine send ?_
  refine eseq ?_
  refine HT.ret ?_
  refine rt_then ?_
  exact fun a ha w' hw => fin_ ha (res2 ha Tryz.results58 rfl rfl) ⟨b5_1, rfl, (hw.wk [(2, [])] rfl), fr0⟩

theorem vrrp_e3 (w : World) (A : Option Addr) (n : Nat) (c : Nat) (bs : List UInt8) (hn : n ≤ 400) (ha : 8 ≤ n) (hb : nb bs 0 % 16 = 1) (hc : nb bs 3 < 1) (hst : St w [] [] [Byt A n c bs] w) : Calls Tryz.prog 46 #[(.string ⟨#[118, 114, 114, 112]⟩), (.slice A n c)] w (fun e w' => e = .returned (.tuple #[.nilIface, (.bool false)]) ∧ Pres [] w w') := by
  have hnc00 : n ≤ c := (hst.fact (j := 0) rfl).2.1
  refine enter (vs := [(.string ⟨#[118, 114, 114, 112]⟩), (.slice A n c)]) Tryz.func46 rfl rfl rfl hst ?_
  refine HT.seq ?_
  refine HT.plain ?_
  refine sq (St.closed _ _ _ _) (q_assign rfl) rfl ?_
  refine sq (St.closed _ _ _ _) (q_assign rfl) rfl ?_
  refine send ?_
  refine eseq ?_
  refine HT.seq ?_
  refine HT.seq ?_
  refine HT.plain ?_
  refine sq (St.closed _ _ _ _) (q_move rfl) rfl ?_
  refine sq (St.closed _ _ _ _) (q_len (len := n) rfl Tryz.underlying22) rfl ?_
  refine sq (St.closed _ _ _ _) (q_F (q_gt (p := n) (q := 2000) rfl rfl) (by omega)) rfl ?_
  refine send ?_
  refine eseq ?_
  refine HT.no rfl ?_
  refine HT.skip ?_
  refine eseq ?_
  refine HT.seq ?_
  refine HT.plain ?_
  refine sq (St.closed _ _ _ _) (q_move rfl) rfl ?_
  refine sq (St.closed _ _ _ _) (q_assign rfl) rfl ?_
  refine send ?_
  refine eseq ?_
  refine HT.seq ?_
  refine HT.seq ?_
  refine HT.plain ?_
  refine sq (St.closed _ _ _ _) (q_move rfl) rfl ?_
  refine sq (St.closed _ _ _ _) (q_eqs rfl rfl (r := false) (by kernel_rfl)) rfl ?_
  refine sq (St.closed _ _ _ _) (q_move rfl) rfl ?_
  refine sgq (St.closed _ _ _ _) rfl (q_move rfl) rfl ?_
  refine sgq (St.closed _ _ _ _) rfl (q_eqs rfl rfl (r := false) (by kernel_rfl)) rfl ?_
  refine sq (St.closed _ _ _ _) (q_pick rfl (fun h => nomatch h) (fun _ => rfl)) rfl ?_
  refine send ?_
  refine eseq ?_
  refine HT.no rfl ?_
  refine HT.seq ?_
  refine HT.plain ?_
  refine sq (St.closed _ _ _ _) (q_move rfl) rfl ?_
  refine sq (St.closed _ _ _ _) (q_eqs rfl rfl (r := false) (by kernel_rfl)) rfl ?_
  refine send ?_
  refine eseq ?_
  refine HT.no rfl ?_
  refine HT.skip ?_
  refine eseq ?_
  refine HT.seq ?_
  refine HT.seq ?_
  refine HT.plain ?_
  refine sq (St.closed _ _ _ _) (q_move rfl) rfl ?_
  refine sq (St.closed _ _ _ _) (q_move rfl) rfl ?_
  refine sq (St.closed _ _ _ _) (q_call (vs := [(.string ⟨#[118, 114, 114, 112]⟩), (.slice A n c)]) (v := (.bool true)) rfl ca_57 (fun w h => vrrp_c3 w A n c bs (by omega) (by omega) (by omega) (by omega) (St.enter (sp := []) (Kc := []) (bi := [0]) h rfl rfl rfl))) rfl ?_
  refine sq (St.closed _ _ _ _) (q_not rfl) rfl ?_
  refine send ?_
  refine eseq ?_
  refine HT.no rfl ?_
  refine HT.skip ?_
  refine eseq ?_
  refine HT.seq ?_
  refine HT.plain ?_
  refine sq (St.closed _ _ _ _) (q_move rfl) rfl ?_
  refine sq (St.closed _ _ _ _) (q_move rfl) rfl ?_
  refine sl_ (l_callX2 (vs := [(.slice A n c)]) (Kc := []) (Bc := [Byt A n c bs]) [] [0] [Byt A n c bs] (fun A5 c5 => []) (fun A5 c5 => [Byt A n c bs, Byt A5 n c5 bs]) (by decide) rfl ca_59 (fun _ h => h) rfl rfl rfl rfl (fun w h => Clone w A n c bs (by omega) h) (fun _ _ => rfl) (fun _ _ => rfl) (fun _ _ => rfl) (fun _ _ => rfl) fun A5 c5 hf1 he2 => ?_)
  have hnc3 : n ≤ c5 := by obtain ⟨w, h⟩ := he2; exact (h _ List.mem_cons_self).2.1
  refine sl_ (l_callX1 (vs := [(.string ⟨#[118, 114, 114, 112]⟩), (.slice A5 n c5)]) (Kc := []) (Bc := [Byt A5 n c5 bs]) [] [1] [Byt A n c bs, Byt A5 n c5 bs] (fun b5_1 => [⟨b5_1, 206, [some (.string (⟨#[86, 82, 82, 80, 118, 50, 32, 110, 117, 109, 98, 101, 114, 32, 111, 102, 32, 73, 80, 32, 97, 100, 100, 114, 101, 115, 115, 101, 115, 32, 105, 115, 32, 110, 111, 116, 32, 118, 97, 108, 105, 100, 46]⟩))], true⟩]) (fun b5_1 => [Byt A n c bs, Byt A5 n c5 bs]) (by decide) rfl ca_58 (fun _ h => h) rfl rfl rfl rfl (fun w h => vrrp_z3 w A5 n c5 bs (by omega) (by omega) (by omega) (by omega) h) (fun _ => rfl) (fun _ => rfl) (fun _ => rfl) (fun _ => rfl) fun b5_1 hf4 he5 => ?_)
  refine sq (St.closed _ _ _ _) (q_move rfl) rfl ?_
  refine sq (St.closed _ _ _ _) (q_extract (vs := [.nilIface, (.iface 204 (.pointer (some ⟨b5_1, 0, none⟩)))]) (i := 0) rfl rfl) rfl ?_
  refine sq (St.closed _ _ _ _) (q_extract (vs := [.nilIface, (.iface 204 (.pointer (some ⟨b5_1, 0, none⟩)))]) (i := 1) rfl rfl) rfl ?_
  refine sq (St.closed _ _ _ _) (q_assign rfl) rfl ?_
  refine sq (St.closed _ _ _ _) (q_assign rfl) rfl ?_
  refine send ?_
  refine eseq ?_
  refine HT.seq ?_
  refine HT.seq ?_
  refine HT.plain ?_
  refine sq (St.closed _ _ _ _) (q_move rfl) rfl ?_
  refine sq (St.closed _ _ _ _) (q_notNil' rfl rfl Tryz.underlying59) rfl ?_
  refine sq (St.closed _ _ _ _) (q_move rfl) rfl ?_
  refine sskip rfl rfl ?_
  refine sskip rfl rfl ?_
  refine sq (St.closed _ _ _ _) (q_pick rfl (fun _ => rfl) (fun h => nomatch h)) rfl ?_
  refine send ?_
  refine eseq ?_
  refine HT.yes rfl ?_
  refine HT.seq ?_
  refine HT.plain ?_
  refine sq (St.closed _ _ _ _) (q_assign rfl) rfl ?_
  refine sq (St.closed _ _ _ _) (q_assign rfl) rfl ?_
  refine send ?_
  refine eseq ?_
  refine HT.ret ?_
  refine rt_then ?_
  exact fun a ha w' hw => fin_ ha (res2 ha Tryz.results46 rfl rfl) ⟨rfl, hw.pres⟩

theorem vrrp_I3 (w : World) (A : Option Addr) (n : Nat) (c : Nat) (bs : List UInt8) (hn : n ≤ 400) (ha : 8 ≤ n) (hb : nb bs 0 % 16 = 1) (hc : nb bs 3 < 1) (hst : St w [] [] [Byt A n c bs] w) : Calls Tryz.prog 27 #[(.string ⟨#[118, 114, 114, 112]⟩), (.slice A n c)] w (IP w (Byt A n c bs) (some none)) := by
  have hnc00 : n ≤ c := (hst.fact (j := 0) rfl).2.1
  refine enter (vs := [(.string ⟨#[118, 114, 114, 112]⟩), (.slice A n c)]) Tryz.func27 rfl rfl rfl hst ?_
  refine HT.seq ?_
  refine HT.plain ?_
  refine sl_ (l_alloc (by decide) zero_29 fun b4 => ?_)
  refine sq (St.closed _ _ _ _) (q_assign rfl) rfl ?_
  refine send ?_
  refine eseq ?_
  refine HT.seq ?_
  refine HT.plain ?_
  refine sq (St.closed _ _ _ _) (q_move rfl) rfl ?_
  refine sq (St.closed _ _ _ _) (q_move rfl) rfl ?_
  refine sq (St.closed _ _ _ _) (q_call (vs := [(.string ⟨#[118, 114, 114, 112]⟩), (.slice A n c)]) (v := (.tuple #[.nilIface, (.bool false)])) rfl ca_46 (fun w h => vrrp_e3 w A n c bs (by omega) (by omega) (by omega) (by omega) (St.enter (sp := []) (Kc := []) (bi := [0]) h rfl rfl rfl))) rfl ?_
  refine sq (St.closed _ _ _ _) (q_move rfl) rfl ?_
  refine sq (St.closed _ _ _ _) (q_extract (vs := [.nilIface, (.bool false)]) (i := 0) rfl rfl) rfl ?_
  refine sq (St.closed _ _ _ _) (q_extract (vs := [.nilIface, (.bool false)]) (i := 1) rfl rfl) rfl ?_
  refine sq (St.closed _ _ _ _) (q_assign rfl) rfl ?_
  refine sq (St.closed _ _ _ _) (q_assign rfl) rfl ?_
  refine send ?_
  refine eseq ?_
  refine HT.seq ?_
  refine HT.seq ?_
  refine HT.plain ?_
  refine sq (St.closed _ _ _ _) (q_move rfl) rfl ?_
  refine sq (St.closed _ _ _ _) (q_not rfl) rfl ?_
  refine send ?_
  refine eseq ?_
  refine HT.yes rfl ?_
  refine HT.seq ?_
  refine HT.plain ?_
  refine sq (St.closed _ _ _ _) (q_build (vs := []) (v := (.agg #[(.slice none 0 0), (.slice none 0 0), (.slice none 0 0), (.slice none 0 0)])) rfl (fun _ => by kernel_rfl)) rfl ?_
  refine sl_ (l_storeAgg (b := b4) (off := 0) (j := 0) (vs := [(.slice none 0 0), (.slice none 0 0), (.slice none 0 0), (.slice none 0 0)]) rfl rfl aggs_29 (by simp [Value.one1]) rfl rfl rfl (Nat.le_of_ble_eq_true rfl) ?_)
  refine sq (St.closed _ _ _ _) (q_assign rfl) rfl ?_
  refine send ?_
  refine eseq ?_
  refine HT.ret ?_
  refine rt_then ?_
  exact fun a ha w' hw => fin_ ha (resc2 ha Tryz.results27 rfl (ld_ aggs_29 hw (j := 0) rfl rfl (vs := [(.slice none 0 0), (.slice none 0 0), (.slice none 0 0), (.slice none 0 0)]) rfl) rfl) ⟨rfl, hw.pres⟩
end Go.Proofs.YtfkaafbeeegenaaGreat.Zed
