/- vrrp: the package, case 6 -/
import Derived.Test.YtfkaafbeeegenaaGreatVrrp0
import Derived.KernelRfl
namespace Go.Proofs.YtfkaafbeeegenaaGreat.Zed
set_option linter.unusedVariables false
set_option linter.unusedSimpArgs false
set_option maxRecDepth 100000
set_option maxHeartbeats 4000000


theorem vrrp_c6 (w : World) (A : Option Addr) (n : Nat) (c : Nat) (bs : List UInt8) (hn : n ≤ 400) (ha : 8 ≤ n) (hb : nb bs 0 % 16 = 1) (hc : 1 ≤ nb bs 3) (hd : 8 + 4 * nb bs 3 ≤ n) (he : nb bs 0 / 16 = 2) (hst : St w [] [] [Byt A n c bs] w) : Calls Tryz.prog 57 #[(.string ⟨#[118, 114, 114, 112]⟩), (.slice A n c)] w (fun e w' => e = .returned (.bool true) ∧ Pres [] w w') := by
  have hnc00 : n ≤ c := (hst.fact (j := 0) rfl).2.1
  refine enter (vs := [(.string ⟨#[118, 114, 114, 112]⟩), (.slice A n c)]) Tryz.func57 rfl rfl rfl hst ?_
  refine HT.seq ?_
  refine HT.plain ?_
  refine sq (St.closed _ _ _ _) (q_assign rfl) rfl ?_
  refine send ?_
  refine eseq ?_
  refine HT.seq ?_
  refine HT.seq ?_
  refine HT.plain ?_
  refine sq (St.closed _ _ _ _) (q_move rfl) rfl ?_
  refine send ?_
  refine eseq ?_
  refine HT.block ?_
  refine HT.seq ?_
  refine HT.plain ?_
  refine sq (St.closed _ _ _ _) (q_eqs rfl rfl (r := false) (by kernel_rfl)) rfl ?_
  refine sq (St.closed _ _ _ _) (q_assign rfl) rfl ?_
  refine send ?_
  refine eseq ?_
  refine HT.no rfl ?_
  refine HT.seq ?_
  refine HT.plain ?_
  refine sq (St.closed _ _ _ _) (q_eqs rfl rfl (r := false) (by kernel_rfl)) rfl ?_
  refine sq (St.closed _ _ _ _) (q_assign rfl) rfl ?_
  refine send ?_
  refine eseq ?_
  refine HT.no rfl ?_
  refine HT.seq ?_
  refine HT.plain ?_
  refine sq (St.closed _ _ _ _) (q_eqs rfl rfl (r := false) (by kernel_rfl)) rfl ?_
  refine sq (St.closed _ _ _ _) (q_assign rfl) rfl ?_
  refine send ?_
  refine eseq ?_
  refine HT.no rfl ?_
  refine HT.seq ?_
  refine HT.plain ?_
  refine sq (St.closed _ _ _ _) (q_eqs rfl rfl (r := false) (by kernel_rfl)) rfl ?_
  refine sq (St.closed _ _ _ _) (q_assign rfl) rfl ?_
  refine send ?_
  refine eseq ?_
  refine HT.no rfl ?_
  refine HT.seq ?_
  refine HT.plain ?_
  refine sq (St.closed _ _ _ _) (q_eqs rfl rfl (r := false) (by kernel_rfl)) rfl ?_
  refine sq (St.closed _ _ _ _) (q_assign rfl) rfl ?_
  refine send ?_
  refine eseq ?_
  refine HT.no rfl ?_
  refine HT.seq ?_
  refine HT.seq ?_
  refine HT.plain ?_
  refine sq (St.closed _ _ _ _) (q_eqs rfl rfl (r := false) (by kernel_rfl)) rfl ?_
  refine sq (St.closed _ _ _ _) (q_assign rfl) rfl ?_
  refine send ?_
  refine eseq ?_
  refine HT.no rfl ?_
  refine HT.seq ?_
  refine HT.plain ?_
  refine sq (St.closed _ _ _ _) (q_eqs rfl rfl (r := false) (by kernel_rfl)) rfl ?_
  refine sq (St.closed _ _ _ _) (q_assign rfl) rfl ?_
  refine send ?_
  refine eseq ?_
  refine HT.no rfl ?_
  refine HT.plain ?_
  refine sq (St.closed _ _ _ _) (q_eqs rfl rfl (r := false) (by kernel_rfl)) rfl ?_
  refine sq (St.closed _ _ _ _) (q_assign rfl) rfl ?_
  refine send ?_
  refine eseq ?_
  refine HT.no rfl ?_
  refine HT.seq ?_
  refine HT.plain ?_
  refine sq (St.closed _ _ _ _) (q_eqs rfl rfl (r := false) (by kernel_rfl)) rfl ?_
  refine sq (St.closed _ _ _ _) (q_assign rfl) rfl ?_
  refine send ?_
  refine eseq ?_
  refine HT.no rfl ?_
  refine HT.seq ?_
  refine HT.plain ?_
  refine sq (St.closed _ _ _ _) (q_eqs rfl rfl (r := true) (by kernel_rfl)) rfl ?_
  refine sq (St.closed _ _ _ _) (q_assign rfl) rfl ?_
  refine send ?_
  refine eseq ?_
  refine HT.yes rfl ?_
  refine HT.seq ?_
  refine HT.plain ?_
  refine sq (St.closed _ _ _ _) (q_move rfl) rfl ?_
  refine sq (St.closed _ _ _ _) (q_len (len := n) rfl Tryz.underlying22) rfl ?_
  refine sq (St.closed _ _ _ _) (q_F (q_lt (p := n) (q := 8) rfl rfl) (by omega)) rfl ?_
  refine sq (St.closed _ _ _ _) (q_move rfl) rfl ?_
  refine sgq (St.closed _ _ _ _) rfl (q_move rfl) rfl ?_
  refine sgq (St.closed _ _ _ _) rfl (q_len (len := n) rfl Tryz.underlying22) rfl ?_
  refine sgq (St.closed _ _ _ _) rfl (q_move rfl) rfl ?_
  refine sgq (St.closed _ _ _ _) rfl (q_index (i := 3) (j := 0) rfl rfl Tryz.underlying22 nagg_5 (fun _ h => h) rfl (by omega)) rfl ?_
  refine sgq (St.closed _ _ _ _) rfl (q_byte (i := 3) (j := 0) rfl nagg_5 (fun _ h => h) rfl (by omega)) rfl ?_
  refine sgq (St.closed _ _ _ _) rfl (q_convn (p := nb bs 3) rfl Tryz.underlying5 Tryz.underlying3 (show nb bs 3 < 9223372036854775808 by have := nb_lt bs 3; omega)) rfl ?_
  refine sgq (St.closed _ _ _ _) rfl (q_mul (p := 4) (q := nb bs 3) rfl rfl (show 4 * (nb bs 3) < 9223372036854775808 by have := nb_lt bs 3; omega)) rfl ?_
  refine sgq (St.closed _ _ _ _) rfl (q_add (p := 8) (q := 4 * (nb bs 3)) rfl rfl (show 8 + (4 * (nb bs 3)) < 9223372036854775808 by have := nb_lt bs 3; omega)) rfl ?_
  refine sgq (St.closed _ _ _ _) rfl (q_T (q_ge (p := n) (q := 8 + (4 * (nb bs 3))) rfl rfl) (by have := nb_lt bs 3; omega)) rfl ?_
  refine sq (St.closed _ _ _ _) (q_pick rfl (fun h => nomatch h) (fun _ => rfl)) rfl ?_
  refine sq (St.closed _ _ _ _) (q_assign rfl) rfl ?_
  refine send ?_
  refine eseq ?_
  refine HT.ret ?_
  refine rt_in ?_
  refine rt_then ?_
  exact fun a ha w' hw => fin_ ha (res1 ha Tryz.results57 rfl) ⟨rfl, hw.pres⟩

theorem vrrp_m1_6 (w : World) (A : Option Addr) (n : Nat) (c : Nat) (bs : List UInt8) (rb : Nat) (kb : Nat) (hn : n ≤ 400) (ha : 8 ≤ n) (hb : nb bs 0 % 16 = 1) (hc : 1 ≤ nb bs 3) (hd : 8 + 4 * nb bs 3 ≤ n) (he : nb bs 0 / 16 = 2) (hst : St w [rb] [⟨rb, 170, [some (.slice none 0 0), some (.slice none 0 0), some (.int .u8 ((0 : Nat) : Int)), some (.int .u8 ((0 : Nat) : Int)), some (.int .u8 ((0 : Nat) : Int)), some (.int .u8 ((0 : Nat) : Int)), some (.int .u8 ((0 : Nat) : Int)), some (.int .u8 ((0 : Nat) : Int)), some (.int .u8 ((0 : Nat) : Int)), some (.int .u16 ((0 : Nat) : Int)), some (.slice none 0 0)], true⟩] [Byt A n c bs] w) : Calls Tryz.prog 157 #[(.pointer (some ⟨rb, 0, none⟩)), (.slice A n c), (.iface 199 (.pointer (some ⟨kb, 0, none⟩)))] w (CP2 w [rb] [Byt A n c bs] (fun AQ cQ => .nilIface) (fun AQ cQ => [⟨rb, 170, [some (.slice (cutA A c 0) (n - 0) (c - 0)), some (.slice none 0 0), some (.int .u8 (((nb bs 0) / 16 : Nat) : Int)), some (.int .u8 (((nb bs 0) &&& 15 : Nat) : Int)), some (.int .u8 ((nb bs 1 : Nat) : Int)), some (.int .u8 ((nb bs 2 : Nat) : Int)), some (.int .u8 ((nb bs 3 : Nat) : Int)), some (.int .u8 ((nb bs 4 : Nat) : Int)), some (.int .u8 ((nb bs 5 : Nat) : Int)), some (.int .u16 ((bN bs 6 2 : Nat) : Int)), some (.slice AQ (nb bs 3) cQ)], true⟩]) (fun AQ cQ => [Cel AQ (nb bs 3) cQ 1 (rowX (fun j => [.slice (cutA A c (8 + (4 * j))) ((8 + (4 * (j + 1))) - (8 + (4 * j))) (c - (8 + (4 * j)))]) (nb bs 3))])) := by
  have hnc00 : n ≤ c := (hst.fact (j := 0) rfl).2.1
  refine enter (vs := [(.pointer (some ⟨rb, 0, none⟩)), (.slice A n c), (.iface 199 (.pointer (some ⟨kb, 0, none⟩)))]) Tryz.func157 rfl rfl rfl hst ?_
  refine HT.seq ?_
  refine HT.plain ?_
  refine sq (St.closed _ _ _ _) (q_assign rfl) rfl ?_
  refine send ?_
  refine eseq ?_
  refine HT.seq ?_
  refine HT.plain ?_
  refine sq (St.closed _ _ _ _) (q_move rfl) rfl ?_
  refine sq (St.closed _ _ _ _) (q_move rfl) rfl ?_
  refine sq (St.closed _ _ _ _) (q_move rfl) rfl ?_
  refine sq (St.closed _ _ _ _) (q_len (len := n) rfl Tryz.underlying22) rfl ?_
  refine sq (St.closed _ _ _ _) (q_slice (lo := 0) (hi := n) rfl Tryz.underlying22 nagg_5 (.inl ⟨rfl, rfl⟩) (.inr ⟨_, _, rfl, rfl⟩) (by omega) (by omega)) rfl ?_
  refine sq (St.closed _ _ _ _) (q_build (vs := [(0, (.slice (cutA A c 0) (n - 0) (c - 0)))]) (v := (.agg #[(.slice (cutA A c 0) (n - 0) (c - 0)), (.slice none 0 0)])) rfl (fun _ => by kernel_rfl)) rfl ?_
  refine sq (St.closed _ _ _ _) (q_nil rfl) rfl ?_
  refine sq (St.closed _ _ _ _) (q_field (b := rb) (off := 0) rfl fo_170_0) rfl ?_
  refine sl_ (l_storeAgg (b := rb) (off := 0) (j := 0) (vs := [(.slice (cutA A c 0) (n - 0) (c - 0)), (.slice none 0 0)]) rfl rfl aggs_68 (by simp [Value.one1]) rfl rfl rfl (Nat.le_of_ble_eq_true rfl) ?_)
  refine send ?_
  refine eseq ?_
  refine HT.norm [⟨rb, 170, [some (.slice (cutA A c 0) (n - 0) (c - 0)), some (.slice none 0 0), some (.int .u8 ((0 : Nat) : Int)), some (.int .u8 ((0 : Nat) : Int)), some (.int .u8 ((0 : Nat) : Int)), some (.int .u8 ((0 : Nat) : Int)), some (.int .u8 ((0 : Nat) : Int)), some (.int .u8 ((0 : Nat) : Int)), some (.int .u8 ((0 : Nat) : Int)), some (.int .u16 ((0 : Nat) : Int)), some (.slice none 0 0)], true⟩] [Byt A n c bs] rfl rfl ?_
  refine HT.seq ?_
  refine HT.plain ?_
  refine sq (St.closed _ _ _ _) (q_move rfl) rfl ?_
  refine sq (St.closed _ _ _ _) (q_move rfl) rfl ?_
  refine sq (St.closed _ _ _ _) (q_index (i := 0) (j := 0) rfl rfl Tryz.underlying22 nagg_5 (fun _ h => h) rfl (by omega)) rfl ?_
  refine sq (St.closed _ _ _ _) (q_byte (i := 0) (j := 0) rfl nagg_5 (fun _ h => h) rfl (by omega)) rfl ?_
  refine sq (St.closed _ _ _ _) (q_shr (p := nb bs 0) (e := 4) (N := 16) rfl rfl (by decide) rfl) rfl ?_
  refine sq (St.closed _ _ _ _) (q_nil rfl) rfl ?_
  refine sq (St.closed _ _ _ _) (q_field (b := rb) (off := 0) rfl fo_170_1) rfl ?_
  refine sl_ (l_store (b := rb) (off := 2) (j := 0) rfl rfl nagg_5 rfl rfl rfl rfl (dlt rfl) ?_)
  refine send ?_
  refine eseq ?_
  refine HT.norm [⟨rb, 170, [some (.slice (cutA A c 0) (n - 0) (c - 0)), some (.slice none 0 0), some (.int .u8 (((nb bs 0) / 16 : Nat) : Int)), some (.int .u8 ((0 : Nat) : Int)), some (.int .u8 ((0 : Nat) : Int)), some (.int .u8 ((0 : Nat) : Int)), some (.int .u8 ((0 : Nat) : Int)), some (.int .u8 ((0 : Nat) : Int)), some (.int .u8 ((0 : Nat) : Int)), some (.int .u16 ((0 : Nat) : Int)), some (.slice none 0 0)], true⟩] [Byt A n c bs] rfl rfl ?_
  refine HT.seq ?_
  refine HT.plain ?_
  refine sq (St.closed _ _ _ _) (q_move rfl) rfl ?_
  refine sq (St.closed _ _ _ _) (q_move rfl) rfl ?_
  refine sq (St.closed _ _ _ _) (q_index (i := 0) (j := 0) rfl rfl Tryz.underlying22 nagg_5 (fun _ h => h) rfl (by omega)) rfl ?_
  refine sq (St.closed _ _ _ _) (q_byte (i := 0) (j := 0) rfl nagg_5 (fun _ h => h) rfl (by omega)) rfl ?_
  refine sq (St.closed _ _ _ _) (q_and (p := nb bs 0) (q := 15) rfl rfl rfl (show nb bs 0 < 256 by have := nb_lt bs 0; omega) (by decide)) rfl ?_
  refine sq (St.closed _ _ _ _) (q_nil rfl) rfl ?_
  refine sq (St.closed _ _ _ _) (q_field (b := rb) (off := 0) rfl fo_170_2) rfl ?_
  refine sl_ (l_store (b := rb) (off := 3) (j := 0) rfl rfl nagg_166 rfl rfl rfl rfl (dlt rfl) ?_)
  refine send ?_
  refine eseq ?_
  refine HT.norm [⟨rb, 170, [some (.slice (cutA A c 0) (n - 0) (c - 0)), some (.slice none 0 0), some (.int .u8 (((nb bs 0) / 16 : Nat) : Int)), some (.int .u8 (((nb bs 0) &&& 15 : Nat) : Int)), some (.int .u8 ((0 : Nat) : Int)), some (.int .u8 ((0 : Nat) : Int)), some (.int .u8 ((0 : Nat) : Int)), some (.int .u8 ((0 : Nat) : Int)), some (.int .u8 ((0 : Nat) : Int)), some (.int .u16 ((0 : Nat) : Int)), some (.slice none 0 0)], true⟩] [Byt A n c bs] rfl rfl ?_
  refine HT.seq ?_
  refine HT.seq ?_
  refine HT.plain ?_
  refine sq (St.closed _ _ _ _) (q_move rfl) rfl ?_
  refine sq (St.closed _ _ _ _) (q_nil rfl) rfl ?_
  refine sq (St.closed _ _ _ _) (q_field (b := rb) (off := 0) rfl fo_170_2) rfl ?_
  refine sq (St.closed _ _ _ _) (q_load (b := rb) (off := 3) (j := 0) rfl nagg_166 (fun _ h => h) rfl rfl rfl) rfl ?_
  refine sq (St.closed _ _ _ _) (q_F (q_ne (p := (nb bs 0) &&& 15) (q := 1) rfl rfl) (by have := nb_lt bs 0; have := zm15 (nb bs 0); have := Nat.and_le_left (n := nb bs 0) (m := 15); have := Nat.and_le_right (n := nb bs 0) (m := 15); omega)) rfl ?_
  refine send ?_
  refine eseq ?_
  refine HT.no rfl ?_
  refine HT.skip ?_
  refine eseq ?_
  refine HT.seq ?_
  refine HT.plain ?_
  refine sq (St.closed _ _ _ _) (q_move rfl) rfl ?_
  refine sq (St.closed _ _ _ _) (q_move rfl) rfl ?_
  refine sq (St.closed _ _ _ _) (q_index (i := 1) (j := 0) rfl rfl Tryz.underlying22 nagg_5 (fun _ h => h) rfl (by omega)) rfl ?_
  refine sq (St.closed _ _ _ _) (q_byte (i := 1) (j := 0) rfl nagg_5 (fun _ h => h) rfl (by omega)) rfl ?_
  refine sq (St.closed _ _ _ _) (q_nil rfl) rfl ?_
  refine sq (St.closed _ _ _ _) (q_field (b := rb) (off := 0) rfl fo_170_3) rfl ?_
  refine sl_ (l_store (b := rb) (off := 4) (j := 0) rfl rfl nagg_5 rfl rfl rfl rfl (dlt rfl) ?_)
  refine send ?_
  refine eseq ?_
  refine HT.norm [⟨rb, 170, [some (.slice (cutA A c 0) (n - 0) (c - 0)), some (.slice none 0 0), some (.int .u8 (((nb bs 0) / 16 : Nat) : Int)), some (.int .u8 (((nb bs 0) &&& 15 : Nat) : Int)), some (.int .u8 ((nb bs 1 : Nat) : Int)), some (.int .u8 ((0 : Nat) : Int)), some (.int .u8 ((0 : Nat) : Int)), some (.int .u8 ((0 : Nat) : Int)), some (.int .u8 ((0 : Nat) : Int)), some (.int .u16 ((0 : Nat) : Int)), some (.slice none 0 0)], true⟩] [Byt A n c bs] rfl rfl ?_
  refine HT.seq ?_
  refine HT.plain ?_
  refine sq (St.closed _ _ _ _) (q_move rfl) rfl ?_
  refine sq (St.closed _ _ _ _) (q_move rfl) rfl ?_
  refine sq (St.closed _ _ _ _) (q_index (i := 2) (j := 0) rfl rfl Tryz.underlying22 nagg_5 (fun _ h => h) rfl (by omega)) rfl ?_
  refine sq (St.closed _ _ _ _) (q_byte (i := 2) (j := 0) rfl nagg_5 (fun _ h => h) rfl (by omega)) rfl ?_
  refine sq (St.closed _ _ _ _) (q_nil rfl) rfl ?_
  refine sq (St.closed _ _ _ _) (q_field (b := rb) (off := 0) rfl fo_170_4) rfl ?_
  refine sl_ (l_store (b := rb) (off := 5) (j := 0) rfl rfl nagg_5 rfl rfl rfl rfl (dlt rfl) ?_)
  refine send ?_
  refine eseq ?_
  refine HT.norm [⟨rb, 170, [some (.slice (cutA A c 0) (n - 0) (c - 0)), some (.slice none 0 0), some (.int .u8 (((nb bs 0) / 16 : Nat) : Int)), some (.int .u8 (((nb bs 0) &&& 15 : Nat) : Int)), some (.int .u8 ((nb bs 1 : Nat) : Int)), some (.int .u8 ((nb bs 2 : Nat) : Int)), some (.int .u8 ((0 : Nat) : Int)), some (.int .u8 ((0 : Nat) : Int)), some (.int .u8 ((0 : Nat) : Int)), some (.int .u16 ((0 : Nat) : Int)), some (.slice none 0 0)], true⟩] [Byt A n c bs] rfl rfl ?_
  refine HT.seq ?_
  refine HT.plain ?_
  refine sq (St.closed _ _ _ _) (q_move rfl) rfl ?_
  refine sq (St.closed _ _ _ _) (q_move rfl) rfl ?_
  refine sq (St.closed _ _ _ _) (q_index (i := 3) (j := 0) rfl rfl Tryz.underlying22 nagg_5 (fun _ h => h) rfl (by omega)) rfl ?_
  refine sq (St.closed _ _ _ _) (q_byte (i := 3) (j := 0) rfl nagg_5 (fun _ h => h) rfl (by omega)) rfl ?_
  refine sq (St.closed _ _ _ _) (q_nil rfl) rfl ?_
  refine sq (St.closed _ _ _ _) (q_field (b := rb) (off := 0) rfl fo_170_5) rfl ?_
  refine sl_ (l_store (b := rb) (off := 6) (j := 0) rfl rfl nagg_5 rfl rfl rfl rfl (dlt rfl) ?_)
  refine send ?_
  refine eseq ?_
  refine HT.norm [⟨rb, 170, [some (.slice (cutA A c 0) (n - 0) (c - 0)), some (.slice none 0 0), some (.int .u8 (((nb bs 0) / 16 : Nat) : Int)), some (.int .u8 (((nb bs 0) &&& 15 : Nat) : Int)), some (.int .u8 ((nb bs 1 : Nat) : Int)), some (.int .u8 ((nb bs 2 : Nat) : Int)), some (.int .u8 ((nb bs 3 : Nat) : Int)), some (.int .u8 ((0 : Nat) : Int)), some (.int .u8 ((0 : Nat) : Int)), some (.int .u16 ((0 : Nat) : Int)), some (.slice none 0 0)], true⟩] [Byt A n c bs] rfl rfl ?_
  refine HT.seq ?_
  refine HT.seq ?_
  refine HT.plain ?_
  refine sq (St.closed _ _ _ _) (q_move rfl) rfl ?_
  refine sq (St.closed _ _ _ _) (q_nil rfl) rfl ?_
  refine sq (St.closed _ _ _ _) (q_field (b := rb) (off := 0) rfl fo_170_5) rfl ?_
  refine sq (St.closed _ _ _ _) (q_load (b := rb) (off := 6) (j := 0) rfl nagg_5 (fun _ h => h) rfl rfl rfl) rfl ?_
  refine sq (St.closed _ _ _ _) (q_F (q_lt (p := nb bs 3) (q := 1) rfl rfl) (by have := nb_lt bs 3; omega)) rfl ?_
  refine send ?_
  refine eseq ?_
  refine HT.no rfl ?_
  refine HT.skip ?_
  refine eseq ?_
  refine HT.seq ?_
  refine HT.plain ?_
  refine sq (St.closed _ _ _ _) (q_move rfl) rfl ?_
  refine sq (St.closed _ _ _ _) (q_move rfl) rfl ?_
  refine sq (St.closed _ _ _ _) (q_index (i := 4) (j := 0) rfl rfl Tryz.underlying22 nagg_5 (fun _ h => h) rfl (by omega)) rfl ?_
  refine sq (St.closed _ _ _ _) (q_byte (i := 4) (j := 0) rfl nagg_5 (fun _ h => h) rfl (by omega)) rfl ?_
  refine sq (St.closed _ _ _ _) (q_nil rfl) rfl ?_
  refine sq (St.closed _ _ _ _) (q_field (b := rb) (off := 0) rfl fo_170_6) rfl ?_
  refine sl_ (l_store (b := rb) (off := 7) (j := 0) rfl rfl nagg_167 rfl rfl rfl rfl (dlt rfl) ?_)
  refine send ?_
  refine eseq ?_
  refine HT.norm [⟨rb, 170, [some (.slice (cutA A c 0) (n - 0) (c - 0)), some (.slice none 0 0), some (.int .u8 (((nb bs 0) / 16 : Nat) : Int)), some (.int .u8 (((nb bs 0) &&& 15 : Nat) : Int)), some (.int .u8 ((nb bs 1 : Nat) : Int)), some (.int .u8 ((nb bs 2 : Nat) : Int)), some (.int .u8 ((nb bs 3 : Nat) : Int)), some (.int .u8 ((nb bs 4 : Nat) : Int)), some (.int .u8 ((0 : Nat) : Int)), some (.int .u16 ((0 : Nat) : Int)), some (.slice none 0 0)], true⟩] [Byt A n c bs] rfl rfl ?_
  refine HT.seq ?_
  refine HT.plain ?_
  refine sq (St.closed _ _ _ _) (q_move rfl) rfl ?_
  refine sq (St.closed _ _ _ _) (q_move rfl) rfl ?_
  refine sq (St.closed _ _ _ _) (q_index (i := 5) (j := 0) rfl rfl Tryz.underlying22 nagg_5 (fun _ h => h) rfl (by omega)) rfl ?_
  refine sq (St.closed _ _ _ _) (q_byte (i := 5) (j := 0) rfl nagg_5 (fun _ h => h) rfl (by omega)) rfl ?_
  refine sq (St.closed _ _ _ _) (q_nil rfl) rfl ?_
  refine sq (St.closed _ _ _ _) (q_field (b := rb) (off := 0) rfl fo_170_7) rfl ?_
  refine sl_ (l_store (b := rb) (off := 8) (j := 0) rfl rfl nagg_5 rfl rfl rfl rfl (dlt rfl) ?_)
  refine send ?_
  refine eseq ?_
  refine HT.norm [⟨rb, 170, [some (.slice (cutA A c 0) (n - 0) (c - 0)), some (.slice none 0 0), some (.int .u8 (((nb bs 0) / 16 : Nat) : Int)), some (.int .u8 (((nb bs 0) &&& 15 : Nat) : Int)), some (.int .u8 ((nb bs 1 : Nat) : Int)), some (.int .u8 ((nb bs 2 : Nat) : Int)), some (.int .u8 ((nb bs 3 : Nat) : Int)), some (.int .u8 ((nb bs 4 : Nat) : Int)), some (.int .u8 ((nb bs 5 : Nat) : Int)), some (.int .u16 ((0 : Nat) : Int)), some (.slice none 0 0)], true⟩] [Byt A n c bs] rfl rfl ?_
  refine HT.seq ?_
  refine HT.drawn mixed (St.closed _ _ _ _) (St w [rb] [⟨rb, 170, [some (.slice (cutA A c 0) (n - 0) (c - 0)), some (.slice none 0 0), some (.int .u8 (((nb bs 0) / 16 : Nat) : Int)), some (.int .u8 (((nb bs 0) &&& 15 : Nat) : Int)), some (.int .u8 ((nb bs 1 : Nat) : Int)), some (.int .u8 ((nb bs 2 : Nat) : Int)), some (.int .u8 ((nb bs 3 : Nat) : Int)), some (.int .u8 ((nb bs 4 : Nat) : Int)), some (.int .u8 ((nb bs 5 : Nat) : Int)), none, some (.slice none 0 0)], true⟩] [Byt A n c bs]) ?_
  refine dtake (f := 1) [0, 1, 2, 3, 4, 5, 6] (by kernel_rfl) (St.closed _ _ _ _) (fun _ h => (h.wk [(0, [9])] rfl)) (by kernel_rfl) ?_
  refine dq rfl (q_move rfl) ?_
  refine dq rfl (q_loadEmpty rfl aggs_210) ?_
  refine dq rfl (q_move rfl) ?_
  refine dq rfl (q_slice (lo := 6) (hi := 8) rfl Tryz.underlying22 nagg_5 (.inr ⟨_, _, rfl, rfl⟩) (.inr ⟨_, _, rfl, rfl⟩) (by omega) (by omega)) ?_
  refine dq rfl (q_call (vs := [(.agg #[]), (.slice (cutA A c 6) (8 - 6) (c - 6))]) (v := (.int .u16 ((bN bs 6 2 : Nat) : Int))) rfl ca_91 (fun w h => U16 w A n c bs (lo := 6) (hi := 8) (h.fact (j := 0) rfl) (by omega) (by omega))) ?_
  refine dq rfl (q_nil rfl) ?_
  refine dq rfl (q_field (b := rb) (off := 0) rfl fo_170_8) ?_
  refine QL.nil ?_
  refine RG.step1 7 (by kernel_rfl) ?_
  refine dop rfl (l_store (b := rb) (off := 9) (j := 0) rfl rfl nagg_70 rfl rfl rfl rfl (dlt rfl) ⟨(fun _ h => (h.wk [(0, [9])] rfl)), ?_⟩)
  refine dend (by kernel_rfl) ?_
  refine eseq ?_
  refine HT.norm [⟨rb, 170, [some (.slice (cutA A c 0) (n - 0) (c - 0)), some (.slice none 0 0), some (.int .u8 (((nb bs 0) / 16 : Nat) : Int)), some (.int .u8 (((nb bs 0) &&& 15 : Nat) : Int)), some (.int .u8 ((nb bs 1 : Nat) : Int)), some (.int .u8 ((nb bs 2 : Nat) : Int)), some (.int .u8 ((nb bs 3 : Nat) : Int)), some (.int .u8 ((nb bs 4 : Nat) : Int)), some (.int .u8 ((nb bs 5 : Nat) : Int)), some (.int .u16 ((bN bs 6 2 : Nat) : Int)), some (.slice none 0 0)], true⟩] [Byt A n c bs] rfl rfl ?_
  refine HT.seq ?_
  refine HT.plain ?_
  refine sq (St.closed _ _ _ _) (q_assign rfl) rfl ?_
  refine send ?_
  refine eseq ?_
  refine HT.seq ?_
  refine HT.seq ?_
  refine HT.plain ?_
  refine sq (St.closed _ _ _ _) (q_assign rfl) rfl ?_
  refine send ?_
  refine eseq ?_
  refine HT.block ?_
  refine HT.loop (ι := {p : Nat × Value × List Kb // p.1 ≤ nb bs 3 ∧ RowS 171 1 p.1 (rowX (fun j => [.slice (cutA A c (8 + (4 * j))) ((8 + (4 * (j + 1))) - (8 + (4 * j))) (c - (8 + (4 * j)))]) p.1) p.2.1 p.2.2}) (fun p => [(0, (.pointer (some ⟨rb, 0, none⟩))), (1, (.slice A n c)), (6, .nilIface), (7, (.int .i64 ((8 + (4 * p.1.1) : Nat) : Int))), (8, (.int .u8 ((p.1.1 : Nat) : Int)))]) (fun p => St w [rb] ([⟨rb, 170, [some (.slice (cutA A c 0) (n - 0) (c - 0)), some (.slice none 0 0), some (.int .u8 (((nb bs 0) / 16 : Nat) : Int)), some (.int .u8 (((nb bs 0) &&& 15 : Nat) : Int)), some (.int .u8 ((nb bs 1 : Nat) : Int)), some (.int .u8 ((nb bs 2 : Nat) : Int)), some (.int .u8 ((nb bs 3 : Nat) : Int)), some (.int .u8 ((nb bs 4 : Nat) : Int)), some (.int .u8 ((nb bs 5 : Nat) : Int)), some (.int .u16 ((bN bs 6 2 : Nat) : Int)), some p.1.2.1], true⟩] ++ p.1.2.2) [Byt A n c bs]) (fun p => nb bs 3 - p.1.1) ⟨(0, .slice none 0 0, []), Nat.zero_le _, RowS.nil 171 1⟩ ⟨rfl, rfl, rfl, rfl, rfl, trivial⟩ (fun _ h => h) fun ⟨⟨i, v, Kr⟩, hi, hr⟩ => ?_
  replace hi : i ≤ nb bs 3 := hi
  replace hr : RowS 171 1 i (rowX (fun j => [.slice (cutA A c (8 + (4 * j))) ((8 + (4 * (j + 1))) - (8 + (4 * j))) (c - (8 + (4 * j)))]) i) v Kr := hr
  refine HT.seq ?_
  refine HT.seq ?_
  refine HT.plain ?_
  refine sq (St.closed _ _ _ _) (q_move rfl) rfl ?_
  refine sq (St.closed _ _ _ _) (q_move rfl) rfl ?_
  refine sq (St.closed _ _ _ _) (q_nil rfl) rfl ?_
  refine sq (St.closed _ _ _ _) (q_field (b := rb) (off := 0) rfl fo_170_5) rfl ?_
  refine sq (St.closed _ _ _ _) (q_load (b := rb) (off := 6) (j := 0) rfl nagg_5 (fun _ h => h) rfl rfl rfl) rfl ?_
  refine sq (St.closed _ _ _ _) (q_lt (p := i) (q := nb bs 3) rfl rfl) rfl ?_
  refine send ?_
  refine eseq ?_
  refine condd rfl (fun h1 => ?_) (fun h1 => ?_)
  · refine HT.skip ?_
    refine eseq ?_
    refine HT.seq ?_
    refine HT.block ?_
    refine HT.seq ?_
    refine HT.drawn mixed (St.closed _ _ _ _) (St w [rb] [⟨rb, 170, [some (.slice (cutA A c 0) (n - 0) (c - 0)), some (.slice none 0 0), some (.int .u8 (((nb bs 0) / 16 : Nat) : Int)), some (.int .u8 (((nb bs 0) &&& 15 : Nat) : Int)), some (.int .u8 ((nb bs 1 : Nat) : Int)), some (.int .u8 ((nb bs 2 : Nat) : Int)), some (.int .u8 ((nb bs 3 : Nat) : Int)), some (.int .u8 ((nb bs 4 : Nat) : Int)), some (.int .u8 ((nb bs 5 : Nat) : Int)), some (.int .u16 ((bN bs 6 2 : Nat) : Int)), none], true⟩] [Byt A n c bs]) ?_
    refine dtake (f := 6) [0, 1, 2, 3, 5, 6, 7, 8, 9] (by kernel_rfl) (St.closed _ _ _ _) (fun _ h => (St.wk (St.untail (K := [⟨rb, 170, [some (.slice (cutA A c 0) (n - 0) (c - 0)), some (.slice none 0 0), some (.int .u8 (((nb bs 0) / 16 : Nat) : Int)), some (.int .u8 (((nb bs 0) &&& 15 : Nat) : Int)), some (.int .u8 ((nb bs 1 : Nat) : Int)), some (.int .u8 ((nb bs 2 : Nat) : Int)), some (.int .u8 ((nb bs 3 : Nat) : Int)), some (.int .u8 ((nb bs 4 : Nat) : Int)), some (.int .u8 ((nb bs 5 : Nat) : Int)), some (.int .u16 ((bN bs 6 2 : Nat) : Int)), some v], true⟩]) (Kr := Kr) h) [(0, [10])] rfl)) (by kernel_rfl) ?_
    refine dq rfl (q_move rfl) ?_
    refine dq rfl (q_move rfl) ?_
    refine dq rfl (q_nil rfl) ?_
    refine dq rfl (q_field (b := rb) (off := 0) rfl fo_170_9) ?_
    refine dq rfl (q_move rfl) ?_
    refine dq rfl (q_move rfl) ?_
    refine dq rfl (q_move rfl) ?_
    refine dq rfl (q_N (q_add (p := 8 + (4 * i)) (q := 4) rfl rfl (show (8 + (4 * i)) + 4 < 9223372036854775808 by have := nb_lt bs 3; have := hi; omega)) (a := (8 + (4 * i)) + 4) (b := 8 + (4 * (i + 1))) (by omega)) ?_
    refine dq rfl (q_slice (lo := 8 + (4 * i)) (hi := 8 + (4 * (i + 1))) rfl Tryz.underlying22 nagg_5 (.inr ⟨_, _, rfl, rfl⟩) (.inr ⟨_, _, rfl, rfl⟩) (by have := nb_lt bs 3; have := hi; omega) (by have := nb_lt bs 3; have := hi; omega)) ?_
    refine QL.nil ?_
    refine RG.step2 4 10 (by kernel_rfl) ?_ ?_
    · refine dop rfl (l_q _ (by simp) (St.closed _ _ _ _) (q_load (b := rb) (off := 10) (j := 0) rfl nagg_168 (fun _ h => h) rfl rfl rfl) ⟨(fun _ h => (St.wk (St.untail (K := [⟨rb, 170, [some (.slice (cutA A c 0) (n - 0) (c - 0)), some (.slice none 0 0), some (.int .u8 (((nb bs 0) / 16 : Nat) : Int)), some (.int .u8 (((nb bs 0) &&& 15 : Nat) : Int)), some (.int .u8 ((nb bs 1 : Nat) : Int)), some (.int .u8 ((nb bs 2 : Nat) : Int)), some (.int .u8 ((nb bs 3 : Nat) : Int)), some (.int .u8 ((nb bs 4 : Nat) : Int)), some (.int .u8 ((nb bs 5 : Nat) : Int)), some (.int .u16 ((bN bs 6 2 : Nat) : Int)), some v], true⟩]) (Kr := Kr) h) [(0, [10])] rfl)), ?_⟩)
      refine RG.step1 10 (by kernel_rfl) ?_
      refine dop rfl (l_buildSliceT (K := [⟨rb, 170, [some (.slice (cutA A c 0) (n - 0) (c - 0)), some (.slice none 0 0), some (.int .u8 (((nb bs 0) / 16 : Nat) : Int)), some (.int .u8 (((nb bs 0) &&& 15 : Nat) : Int)), some (.int .u8 ((nb bs 1 : Nat) : Int)), some (.int .u8 ((nb bs 2 : Nat) : Int)), some (.int .u8 ((nb bs 3 : Nat) : Int)), some (.int .u8 ((nb bs 4 : Nat) : Int)), some (.int .u8 ((nb bs 5 : Nat) : Int)), some (.int .u16 ((bN bs 6 2 : Nat) : Int)), some v], true⟩]) (Kr := Kr) (e := 171) (vs := [(0, (.slice (cutA A c (8 + (4 * i))) ((8 + (4 * (i + 1))) - (8 + (4 * i))) (c - (8 + (4 * i)))))]) (cs := [(.slice (cutA A c (8 + (4 * i))) ((8 + (4 * (i + 1))) - (8 + (4 * i))) (c - (8 + (4 * i))))]) (by decide) rfl (fun _ => by kernel_rfl) fun b98 => ⟨(fun _ h => (St.wk (St.untail (K := [⟨rb, 170, [some (.slice (cutA A c 0) (n - 0) (c - 0)), some (.slice none 0 0), some (.int .u8 (((nb bs 0) / 16 : Nat) : Int)), some (.int .u8 (((nb bs 0) &&& 15 : Nat) : Int)), some (.int .u8 ((nb bs 1 : Nat) : Int)), some (.int .u8 ((nb bs 2 : Nat) : Int)), some (.int .u8 ((nb bs 3 : Nat) : Int)), some (.int .u8 ((nb bs 4 : Nat) : Int)), some (.int .u8 ((nb bs 5 : Nat) : Int)), some (.int .u16 ((bN bs 6 2 : Nat) : Int)), some v], true⟩, ⟨b98, 171, [some (.slice (cutA A c (8 + (4 * i))) ((8 + (4 * (i + 1))) - (8 + (4 * i))) (c - (8 + (4 * i))))], true⟩]) (Kr := Kr) h) [(0, [10])] rfl)), ?_⟩)
      refine RG.step1 11 (by kernel_rfl) ?_
      refine dop rfl (l_appendR (K0 := [⟨rb, 170, [some (.slice (cutA A c 0) (n - 0) (c - 0)), some (.slice none 0 0), some (.int .u8 (((nb bs 0) / 16 : Nat) : Int)), some (.int .u8 (((nb bs 0) &&& 15 : Nat) : Int)), some (.int .u8 ((nb bs 1 : Nat) : Int)), some (.int .u8 ((nb bs 2 : Nat) : Int)), some (.int .u8 ((nb bs 3 : Nat) : Int)), some (.int .u8 ((nb bs 4 : Nat) : Int)), some (.int .u8 ((nb bs 5 : Nat) : Int)), some (.int .u16 ((bN bs 6 2 : Nat) : Int)), some v], true⟩, ⟨b98, 171, [some (.slice (cutA A c (8 + (4 * i))) ((8 + (4 * (i + 1))) - (8 + (4 * i))) (c - (8 + (4 * i))))], true⟩]) (Kr := Kr) (k := i) (xs := (rowX (fun j => [.slice (cutA A c (8 + (4 * j))) ((8 + (4 * (j + 1))) - (8 + (4 * j))) (c - (8 + (4 * j)))]) i)) (jq := 1) (news := [(.slice (cutA A c (8 + (4 * i))) ((8 + (4 * (i + 1))) - (8 + (4 * i))) (c - (8 + (4 * i))))]) (by decide) rfl rfl Tryz.underlying168 rowT_171 (by decide) hr (by have := nb_lt bs 3; omega) rfl rfl (by simp [Value.one1]) fun v99 Kr99 hr99 => ⟨(fun _ h => (St.wk (St.untail (K := [⟨rb, 170, [some (.slice (cutA A c 0) (n - 0) (c - 0)), some (.slice none 0 0), some (.int .u8 (((nb bs 0) / 16 : Nat) : Int)), some (.int .u8 (((nb bs 0) &&& 15 : Nat) : Int)), some (.int .u8 ((nb bs 1 : Nat) : Int)), some (.int .u8 ((nb bs 2 : Nat) : Int)), some (.int .u8 ((nb bs 3 : Nat) : Int)), some (.int .u8 ((nb bs 4 : Nat) : Int)), some (.int .u8 ((nb bs 5 : Nat) : Int)), some (.int .u16 ((bN bs 6 2 : Nat) : Int)), some v], true⟩, ⟨b98, 171, [some (.slice (cutA A c (8 + (4 * i))) ((8 + (4 * (i + 1))) - (8 + (4 * i))) (c - (8 + (4 * i))))], true⟩]) (Kr := Kr99) h) [(0, [10])] rfl)), ?_⟩)
      refine dtake (f := 1) [12, 13] (by kernel_rfl) (St.closed _ _ _ _) (fun _ h => (St.wk (St.untail (K := [⟨rb, 170, [some (.slice (cutA A c 0) (n - 0) (c - 0)), some (.slice none 0 0), some (.int .u8 (((nb bs 0) / 16 : Nat) : Int)), some (.int .u8 (((nb bs 0) &&& 15 : Nat) : Int)), some (.int .u8 ((nb bs 1 : Nat) : Int)), some (.int .u8 ((nb bs 2 : Nat) : Int)), some (.int .u8 ((nb bs 3 : Nat) : Int)), some (.int .u8 ((nb bs 4 : Nat) : Int)), some (.int .u8 ((nb bs 5 : Nat) : Int)), some (.int .u16 ((bN bs 6 2 : Nat) : Int)), some v], true⟩, ⟨b98, 171, [some (.slice (cutA A c (8 + (4 * i))) ((8 + (4 * (i + 1))) - (8 + (4 * i))) (c - (8 + (4 * i))))], true⟩]) (Kr := Kr99) h) [(0, [10])] rfl)) (by kernel_rfl) ?_
      refine dq rfl (q_nil rfl) ?_
      refine dq rfl (q_field (b := rb) (off := 0) rfl fo_170_9) ?_
      refine QL.nil ?_
      refine RG.step1 14 (by kernel_rfl) ?_
      refine dop rfl (l_store (b := rb) (off := 10) (j := 0) rfl rfl nagg_168 hr99.one rfl rfl rfl (dlt rfl) ⟨(fun _ h => (St.wk (St.untail (K := [⟨rb, 170, [some (.slice (cutA A c 0) (n - 0) (c - 0)), some (.slice none 0 0), some (.int .u8 (((nb bs 0) / 16 : Nat) : Int)), some (.int .u8 (((nb bs 0) &&& 15 : Nat) : Int)), some (.int .u8 ((nb bs 1 : Nat) : Int)), some (.int .u8 ((nb bs 2 : Nat) : Int)), some (.int .u8 ((nb bs 3 : Nat) : Int)), some (.int .u8 ((nb bs 4 : Nat) : Int)), some (.int .u8 ((nb bs 5 : Nat) : Int)), some (.int .u16 ((bN bs 6 2 : Nat) : Int)), some v99], true⟩, ⟨b98, 171, [some (.slice (cutA A c (8 + (4 * i))) ((8 + (4 * (i + 1))) - (8 + (4 * i))) (c - (8 + (4 * i))))], true⟩]) (Kr := Kr99) h) [(0, [10])] rfl)), ?_⟩)
      refine dend (by kernel_rfl) ?_
      refine eseq ?_
      refine HT.norm ([⟨rb, 170, [some (.slice (cutA A c 0) (n - 0) (c - 0)), some (.slice none 0 0), some (.int .u8 (((nb bs 0) / 16 : Nat) : Int)), some (.int .u8 (((nb bs 0) &&& 15 : Nat) : Int)), some (.int .u8 ((nb bs 1 : Nat) : Int)), some (.int .u8 ((nb bs 2 : Nat) : Int)), some (.int .u8 ((nb bs 3 : Nat) : Int)), some (.int .u8 ((nb bs 4 : Nat) : Int)), some (.int .u8 ((nb bs 5 : Nat) : Int)), some (.int .u16 ((bN bs 6 2 : Nat) : Int)), some v99], true⟩, ⟨b98, 171, [some (.slice (cutA A c (8 + (4 * i))) ((8 + (4 * (i + 1))) - (8 + (4 * i))) (c - (8 + (4 * i))))], true⟩] ++ Kr99) [Byt A n c bs] rfl rfl ?_
      refine HT.plain ?_
      refine sq (St.closed _ _ _ _) (q_move rfl) rfl ?_
      refine sq (St.closed _ _ _ _) (q_N (q_add (p := 8 + (4 * i)) (q := 4) rfl rfl (show (8 + (4 * i)) + 4 < 9223372036854775808 by have := nb_lt bs 3; have := hi; omega)) (a := (8 + (4 * i)) + 4) (b := 8 + (4 * (i + 1))) (by omega)) rfl ?_
      refine sq (St.closed _ _ _ _) (q_assign rfl) rfl ?_
      refine send ?_
      refine ein ?_
      refine eseq ?_
      refine HT.plain ?_
      refine sq (St.closed _ _ _ _) (q_move rfl) rfl ?_
      refine sq (St.closed _ _ _ _) (q_add (p := i) (q := 1) rfl rfl (show i + 1 < 256 by have := nb_lt bs 3; have := hi; omega)) rfl ?_
      refine sq (St.closed _ _ _ _) (q_assign rfl) rfl ?_
      refine send ?_
      exact eround ⟨(i + 1, v99, Kr99), by show i + 1 ≤ nb bs 3; omega, RowS.succ hr99 rfl⟩ (show nb bs 3 - (i + 1) < nb bs 3 - i by omega) ⟨rfl, rfl, rfl, rfl, rfl, trivial⟩ (fun _ h => St.drop (X := [⟨rb, 170, [some (.slice (cutA A c 0) (n - 0) (c - 0)), some (.slice none 0 0), some (.int .u8 (((nb bs 0) / 16 : Nat) : Int)), some (.int .u8 (((nb bs 0) &&& 15 : Nat) : Int)), some (.int .u8 ((nb bs 1 : Nat) : Int)), some (.int .u8 ((nb bs 2 : Nat) : Int)), some (.int .u8 ((nb bs 3 : Nat) : Int)), some (.int .u8 ((nb bs 4 : Nat) : Int)), some (.int .u8 ((nb bs 5 : Nat) : Int)), some (.int .u16 ((bN bs 6 2 : Nat) : Int)), some v99], true⟩]) (Y := [⟨b98, 171, [some (.slice (cutA A c (8 + (4 * i))) ((8 + (4 * (i + 1))) - (8 + (4 * i))) (c - (8 + (4 * i))))], true⟩]) (Z := Kr99) h)
    · refine dop rfl (l_buildSliceT (K := [⟨rb, 170, [some (.slice (cutA A c 0) (n - 0) (c - 0)), some (.slice none 0 0), some (.int .u8 (((nb bs 0) / 16 : Nat) : Int)), some (.int .u8 (((nb bs 0) &&& 15 : Nat) : Int)), some (.int .u8 ((nb bs 1 : Nat) : Int)), some (.int .u8 ((nb bs 2 : Nat) : Int)), some (.int .u8 ((nb bs 3 : Nat) : Int)), some (.int .u8 ((nb bs 4 : Nat) : Int)), some (.int .u8 ((nb bs 5 : Nat) : Int)), some (.int .u16 ((bN bs 6 2 : Nat) : Int)), some v], true⟩]) (Kr := Kr) (e := 171) (vs := [(0, (.slice (cutA A c (8 + (4 * i))) ((8 + (4 * (i + 1))) - (8 + (4 * i))) (c - (8 + (4 * i)))))]) (cs := [(.slice (cutA A c (8 + (4 * i))) ((8 + (4 * (i + 1))) - (8 + (4 * i))) (c - (8 + (4 * i))))]) (by decide) rfl (fun _ => by kernel_rfl) fun b98 => ⟨(fun _ h => (St.wk (St.untail (K := [⟨rb, 170, [some (.slice (cutA A c 0) (n - 0) (c - 0)), some (.slice none 0 0), some (.int .u8 (((nb bs 0) / 16 : Nat) : Int)), some (.int .u8 (((nb bs 0) &&& 15 : Nat) : Int)), some (.int .u8 ((nb bs 1 : Nat) : Int)), some (.int .u8 ((nb bs 2 : Nat) : Int)), some (.int .u8 ((nb bs 3 : Nat) : Int)), some (.int .u8 ((nb bs 4 : Nat) : Int)), some (.int .u8 ((nb bs 5 : Nat) : Int)), some (.int .u16 ((bN bs 6 2 : Nat) : Int)), some v], true⟩, ⟨b98, 171, [some (.slice (cutA A c (8 + (4 * i))) ((8 + (4 * (i + 1))) - (8 + (4 * i))) (c - (8 + (4 * i))))], true⟩]) (Kr := Kr) h) [(0, [10])] rfl)), ?_⟩)
      refine RG.step1 4 (by kernel_rfl) ?_
      refine dop rfl (l_q _ (by simp) (St.closed _ _ _ _) (q_load (b := rb) (off := 10) (j := 0) rfl nagg_168 (fun _ h => h) rfl rfl rfl) ⟨(fun _ h => (St.wk (St.untail (K := [⟨rb, 170, [some (.slice (cutA A c 0) (n - 0) (c - 0)), some (.slice none 0 0), some (.int .u8 (((nb bs 0) / 16 : Nat) : Int)), some (.int .u8 (((nb bs 0) &&& 15 : Nat) : Int)), some (.int .u8 ((nb bs 1 : Nat) : Int)), some (.int .u8 ((nb bs 2 : Nat) : Int)), some (.int .u8 ((nb bs 3 : Nat) : Int)), some (.int .u8 ((nb bs 4 : Nat) : Int)), some (.int .u8 ((nb bs 5 : Nat) : Int)), some (.int .u16 ((bN bs 6 2 : Nat) : Int)), some v], true⟩, ⟨b98, 171, [some (.slice (cutA A c (8 + (4 * i))) ((8 + (4 * (i + 1))) - (8 + (4 * i))) (c - (8 + (4 * i))))], true⟩]) (Kr := Kr) h) [(0, [10])] rfl)), ?_⟩)
      refine RG.step1 11 (by kernel_rfl) ?_
      refine dop rfl (l_appendR (K0 := [⟨rb, 170, [some (.slice (cutA A c 0) (n - 0) (c - 0)), some (.slice none 0 0), some (.int .u8 (((nb bs 0) / 16 : Nat) : Int)), some (.int .u8 (((nb bs 0) &&& 15 : Nat) : Int)), some (.int .u8 ((nb bs 1 : Nat) : Int)), some (.int .u8 ((nb bs 2 : Nat) : Int)), some (.int .u8 ((nb bs 3 : Nat) : Int)), some (.int .u8 ((nb bs 4 : Nat) : Int)), some (.int .u8 ((nb bs 5 : Nat) : Int)), some (.int .u16 ((bN bs 6 2 : Nat) : Int)), some v], true⟩, ⟨b98, 171, [some (.slice (cutA A c (8 + (4 * i))) ((8 + (4 * (i + 1))) - (8 + (4 * i))) (c - (8 + (4 * i))))], true⟩]) (Kr := Kr) (k := i) (xs := (rowX (fun j => [.slice (cutA A c (8 + (4 * j))) ((8 + (4 * (j + 1))) - (8 + (4 * j))) (c - (8 + (4 * j)))]) i)) (jq := 1) (news := [(.slice (cutA A c (8 + (4 * i))) ((8 + (4 * (i + 1))) - (8 + (4 * i))) (c - (8 + (4 * i))))]) (by decide) rfl rfl Tryz.underlying168 rowT_171 (by decide) hr (by have := nb_lt bs 3; omega) rfl rfl (by simp [Value.one1]) fun v99 Kr99 hr99 => ⟨(fun _ h => (St.wk (St.untail (K := [⟨rb, 170, [some (.slice (cutA A c 0) (n - 0) (c - 0)), some (.slice none 0 0), some (.int .u8 (((nb bs 0) / 16 : Nat) : Int)), some (.int .u8 (((nb bs 0) &&& 15 : Nat) : Int)), some (.int .u8 ((nb bs 1 : Nat) : Int)), some (.int .u8 ((nb bs 2 : Nat) : Int)), some (.int .u8 ((nb bs 3 : Nat) : Int)), some (.int .u8 ((nb bs 4 : Nat) : Int)), some (.int .u8 ((nb bs 5 : Nat) : Int)), some (.int .u16 ((bN bs 6 2 : Nat) : Int)), some v], true⟩, ⟨b98, 171, [some (.slice (cutA A c (8 + (4 * i))) ((8 + (4 * (i + 1))) - (8 + (4 * i))) (c - (8 + (4 * i))))], true⟩]) (Kr := Kr99) h) [(0, [10])] rfl)), ?_⟩)
      refine dtake (f := 1) [12, 13] (by kernel_rfl) (St.closed _ _ _ _) (fun _ h => (St.wk (St.untail (K := [⟨rb, 170, [some (.slice (cutA A c 0) (n - 0) (c - 0)), some (.slice none 0 0), some (.int .u8 (((nb bs 0) / 16 : Nat) : Int)), some (.int .u8 (((nb bs 0) &&& 15 : Nat) : Int)), some (.int .u8 ((nb bs 1 : Nat) : Int)), some (.int .u8 ((nb bs 2 : Nat) : Int)), some (.int .u8 ((nb bs 3 : Nat) : Int)), some (.int .u8 ((nb bs 4 : Nat) : Int)), some (.int .u8 ((nb bs 5 : Nat) : Int)), some (.int .u16 ((bN bs 6 2 : Nat) : Int)), some v], true⟩, ⟨b98, 171, [some (.slice (cutA A c (8 + (4 * i))) ((8 + (4 * (i + 1))) - (8 + (4 * i))) (c - (8 + (4 * i))))], true⟩]) (Kr := Kr99) h) [(0, [10])] rfl)) (by kernel_rfl) ?_
      refine dq rfl (q_nil rfl) ?_
      refine dq rfl (q_field (b := rb) (off := 0) rfl fo_170_9) ?_
      refine QL.nil ?_
      refine RG.step1 14 (by kernel_rfl) ?_
      refine dop rfl (l_store (b := rb) (off := 10) (j := 0) rfl rfl nagg_168 hr99.one rfl rfl rfl (dlt rfl) ⟨(fun _ h => (St.wk (St.untail (K := [⟨rb, 170, [some (.slice (cutA A c 0) (n - 0) (c - 0)), some (.slice none 0 0), some (.int .u8 (((nb bs 0) / 16 : Nat) : Int)), some (.int .u8 (((nb bs 0) &&& 15 : Nat) : Int)), some (.int .u8 ((nb bs 1 : Nat) : Int)), some (.int .u8 ((nb bs 2 : Nat) : Int)), some (.int .u8 ((nb bs 3 : Nat) : Int)), some (.int .u8 ((nb bs 4 : Nat) : Int)), some (.int .u8 ((nb bs 5 : Nat) : Int)), some (.int .u16 ((bN bs 6 2 : Nat) : Int)), some v99], true⟩, ⟨b98, 171, [some (.slice (cutA A c (8 + (4 * i))) ((8 + (4 * (i + 1))) - (8 + (4 * i))) (c - (8 + (4 * i))))], true⟩]) (Kr := Kr99) h) [(0, [10])] rfl)), ?_⟩)
      refine dend (by kernel_rfl) ?_
      refine eseq ?_
      refine HT.norm ([⟨rb, 170, [some (.slice (cutA A c 0) (n - 0) (c - 0)), some (.slice none 0 0), some (.int .u8 (((nb bs 0) / 16 : Nat) : Int)), some (.int .u8 (((nb bs 0) &&& 15 : Nat) : Int)), some (.int .u8 ((nb bs 1 : Nat) : Int)), some (.int .u8 ((nb bs 2 : Nat) : Int)), some (.int .u8 ((nb bs 3 : Nat) : Int)), some (.int .u8 ((nb bs 4 : Nat) : Int)), some (.int .u8 ((nb bs 5 : Nat) : Int)), some (.int .u16 ((bN bs 6 2 : Nat) : Int)), some v99], true⟩, ⟨b98, 171, [some (.slice (cutA A c (8 + (4 * i))) ((8 + (4 * (i + 1))) - (8 + (4 * i))) (c - (8 + (4 * i))))], true⟩] ++ Kr99) [Byt A n c bs] rfl rfl ?_
      refine HT.plain ?_
      refine sq (St.closed _ _ _ _) (q_move rfl) rfl ?_
      refine sq (St.closed _ _ _ _) (q_N (q_add (p := 8 + (4 * i)) (q := 4) rfl rfl (show (8 + (4 * i)) + 4 < 9223372036854775808 by have := nb_lt bs 3; have := hi; omega)) (a := (8 + (4 * i)) + 4) (b := 8 + (4 * (i + 1))) (by omega)) rfl ?_
      refine sq (St.closed _ _ _ _) (q_assign rfl) rfl ?_
      refine send ?_
      refine ein ?_
      refine eseq ?_
      refine HT.plain ?_
      refine sq (St.closed _ _ _ _) (q_move rfl) rfl ?_
      refine sq (St.closed _ _ _ _) (q_add (p := i) (q := 1) rfl rfl (show i + 1 < 256 by have := nb_lt bs 3; have := hi; omega)) rfl ?_
      refine sq (St.closed _ _ _ _) (q_assign rfl) rfl ?_
      refine send ?_
      exact eround ⟨(i + 1, v99, Kr99), by show i + 1 ≤ nb bs 3; omega, RowS.succ hr99 rfl⟩ (show nb bs 3 - (i + 1) < nb bs 3 - i by omega) ⟨rfl, rfl, rfl, rfl, rfl, trivial⟩ (fun _ h => St.drop (X := [⟨rb, 170, [some (.slice (cutA A c 0) (n - 0) (c - 0)), some (.slice none 0 0), some (.int .u8 (((nb bs 0) / 16 : Nat) : Int)), some (.int .u8 (((nb bs 0) &&& 15 : Nat) : Int)), some (.int .u8 ((nb bs 1 : Nat) : Int)), some (.int .u8 ((nb bs 2 : Nat) : Int)), some (.int .u8 ((nb bs 3 : Nat) : Int)), some (.int .u8 ((nb bs 4 : Nat) : Int)), some (.int .u8 ((nb bs 5 : Nat) : Int)), some (.int .u16 ((bN bs 6 2 : Nat) : Int)), some v99], true⟩]) (Y := [⟨b98, 171, [some (.slice (cutA A c (8 + (4 * i))) ((8 + (4 * (i + 1))) - (8 + (4 * i))) (c - (8 + (4 * i))))], true⟩]) (Z := Kr99) h)
  · refine HT.exit ?_
    refine ex_then ?_
    refine ex_then ?_
    refine ex_in ?_
    refine eseq ?_
    have hiN : i = nb bs 3 := by omega
    subst hiN
    refine HT.rowFact (K := [⟨rb, 170, [some (.slice (cutA A c 0) (n - 0) (c - 0)), some (.slice none 0 0), some (.int .u8 (((nb bs 0) / 16 : Nat) : Int)), some (.int .u8 (((nb bs 0) &&& 15 : Nat) : Int)), some (.int .u8 ((nb bs 1 : Nat) : Int)), some (.int .u8 ((nb bs 2 : Nat) : Int)), some (.int .u8 ((nb bs 3 : Nat) : Int)), some (.int .u8 ((nb bs 4 : Nat) : Int)), some (.int .u8 ((nb bs 5 : Nat) : Int)), some (.int .u16 ((bN bs 6 2 : Nat) : Int)), some v], true⟩]) (Kr := Kr) hr (fun i hi => by rw [List.mem_singleton.1 hi]; exact ⟨_, List.mem_cons_self, rfl⟩) fun AQ cQ hvQ hncQ hfQ => ?_
    subst hvQ
    refine HT.seq ?_
    refine HT.plain ?_
    refine sq (St.closed _ _ _ _) (q_assign rfl) rfl ?_
    refine send ?_
    refine eseq ?_
    refine HT.ret ?_
    exact fun a ha w' hw => fin_ ha (res1 ha Tryz.results157 rfl) ⟨AQ, cQ, rfl, hw, (fr1 hfQ fr0)⟩

theorem vrrp_dd6 (w : World) (A : Option Addr) (n : Nat) (c : Nat) (bs : List UInt8) (rb : Nat) (kb : Nat) (hn : n ≤ 400) (ha : 8 ≤ n) (hb : nb bs 0 % 16 = 1) (hc : 1 ≤ nb bs 3) (hd : 8 + 4 * nb bs 3 ≤ n) (he : nb bs 0 / 16 = 2) (hst : St w [rb, kb] [⟨rb, 170, [some (.slice none 0 0), some (.slice none 0 0), some (.int .u8 ((0 : Nat) : Int)), some (.int .u8 ((0 : Nat) : Int)), some (.int .u8 ((0 : Nat) : Int)), some (.int .u8 ((0 : Nat) : Int)), some (.int .u8 ((0 : Nat) : Int)), some (.int .u8 ((0 : Nat) : Int)), some (.int .u8 ((0 : Nat) : Int)), some (.int .u16 ((0 : Nat) : Int)), some (.slice none 0 0)], true⟩, ⟨kb, 201, [some .nilIface], true⟩] [Byt A n c bs] w) : Calls Tryz.prog 96 #[(.iface 165 (.pointer (some ⟨rb, 0, none⟩))), (.slice A n c), (.iface 199 (.pointer (some ⟨kb, 0, none⟩)))] w (CP2 w [rb, kb] [Byt A n c bs] (fun AQ cQ => .nilIface) (fun AQ cQ => [⟨rb, 170, [some (.slice (cutA A c 0) (n - 0) (c - 0)), some (.slice none 0 0), some (.int .u8 (((nb bs 0) / 16 : Nat) : Int)), some (.int .u8 (((nb bs 0) &&& 15 : Nat) : Int)), some (.int .u8 ((nb bs 1 : Nat) : Int)), some (.int .u8 ((nb bs 2 : Nat) : Int)), some (.int .u8 ((nb bs 3 : Nat) : Int)), some (.int .u8 ((nb bs 4 : Nat) : Int)), some (.int .u8 ((nb bs 5 : Nat) : Int)), some (.int .u16 ((bN bs 6 2 : Nat) : Int)), some (.slice AQ (nb bs 3) cQ)], true⟩, ⟨kb, 201, [some (.iface 165 (.pointer (some ⟨rb, 0, none⟩)))], true⟩]) (fun AQ cQ => [Cel AQ (nb bs 3) cQ 1 (rowX (fun j => [.slice (cutA A c (8 + (4 * j))) ((8 + (4 * (j + 1))) - (8 + (4 * j))) (c - (8 + (4 * j)))]) (nb bs 3))])) := by
  have hnc00 : n ≤ c := (hst.fact (j := 0) rfl).2.1
  refine enter (vs := [(.iface 165 (.pointer (some ⟨rb, 0, none⟩))), (.slice A n c), (.iface 199 (.pointer (some ⟨kb, 0, none⟩)))]) Tryz.func96 rfl rfl rfl hst ?_
  refine HT.seq ?_
  refine HT.plain ?_
  refine sq (St.closed _ _ _ _) (q_assign rfl) rfl ?_
  refine send ?_
  refine eseq ?_
  refine HT.seq ?_
  refine HT.plain ?_
  refine sq (St.closed _ _ _ _) (q_move rfl) rfl ?_
  refine sq (St.closed _ _ _ _) (q_move rfl) rfl ?_
  refine sq (St.closed _ _ _ _) (q_move rfl) rfl ?_
  refine sl_ (l_invX2 (vs := [(.slice A n c), (.iface 199 (.pointer (some ⟨kb, 0, none⟩)))]) (Kc := [⟨rb, 170, [some (.slice none 0 0), some (.slice none 0 0), some (.int .u8 ((0 : Nat) : Int)), some (.int .u8 ((0 : Nat) : Int)), some (.int .u8 ((0 : Nat) : Int)), some (.int .u8 ((0 : Nat) : Int)), some (.int .u8 ((0 : Nat) : Int)), some (.int .u8 ((0 : Nat) : Int)), some (.int .u8 ((0 : Nat) : Int)), some (.int .u16 ((0 : Nat) : Int)), some (.slice none 0 0)], true⟩]) (Bc := [Byt A n c bs]) [0] [0] [Byt A n c bs] (fun AQ cQ => [⟨kb, 201, [some .nilIface], true⟩, ⟨rb, 170, [some (.slice (cutA A c 0) (n - 0) (c - 0)), some (.slice none 0 0), some (.int .u8 (((nb bs 0) / 16 : Nat) : Int)), some (.int .u8 (((nb bs 0) &&& 15 : Nat) : Int)), some (.int .u8 ((nb bs 1 : Nat) : Int)), some (.int .u8 ((nb bs 2 : Nat) : Int)), some (.int .u8 ((nb bs 3 : Nat) : Int)), some (.int .u8 ((nb bs 4 : Nat) : Int)), some (.int .u8 ((nb bs 5 : Nat) : Int)), some (.int .u16 ((bN bs 6 2 : Nat) : Int)), some (.slice AQ (nb bs 3) cQ)], true⟩]) (fun AQ cQ => [Byt A n c bs, Cel AQ (nb bs 3) cQ 1 (rowX (fun j => [.slice (cutA A c (8 + (4 * j))) ((8 + (4 * (j + 1))) - (8 + (4 * j))) (c - (8 + (4 * j)))]) (nb bs 3))]) (by decide) rfl (fun w => me_165_DecodeFromBytes _ w) rfl ca_157 (fun _ h => h) rfl rfl rfl rfl (fun w h => vrrp_m1_6 w A n c bs rb kb (by omega) (by omega) (by omega) (by omega) (by omega) (by omega) h) (fun _ _ => rfl) (fun _ _ => rfl) (fun _ _ => rfl) (fun _ _ => rfl) fun AQ cQ hf1 he2 => ?_)
  have hnc3 : nb bs 3 ≤ cQ := by obtain ⟨w, h⟩ := he2; exact (h _ List.mem_cons_self).2.1
  refine sq (St.closed _ _ _ _) (q_assign rfl) rfl ?_
  refine send ?_
  refine eseq ?_
  refine HT.seq ?_
  refine HT.seq ?_
  refine HT.plain ?_
  refine sq (St.closed _ _ _ _) (q_move rfl) rfl ?_
  refine sq (St.closed _ _ _ _) (q_notNil rfl rfl Tryz.underlying59) rfl ?_
  refine send ?_
  refine eseq ?_
  refine HT.no rfl ?_
  refine HT.skip ?_
  refine eseq ?_
  refine HT.seq ?_
  refine HT.plain ?_
  refine sq (St.closed _ _ _ _) (q_move rfl) rfl ?_
  refine sq (St.closed _ _ _ _) (q_move rfl) rfl ?_
  refine sl_ (l_invX0 (vs := [(.iface 165 (.pointer (some ⟨rb, 0, none⟩)))]) (Kc := [⟨kb, 201, [some .nilIface], true⟩]) (Bc := []) [0] [] [Byt A n c bs, Cel AQ (nb bs 3) cQ 1 (rowX (fun j => [.slice (cutA A c (8 + (4 * j))) ((8 + (4 * (j + 1))) - (8 + (4 * j))) (c - (8 + (4 * j)))]) (nb bs 3))] ([⟨rb, 170, [some (.slice (cutA A c 0) (n - 0) (c - 0)), some (.slice none 0 0), some (.int .u8 (((nb bs 0) / 16 : Nat) : Int)), some (.int .u8 (((nb bs 0) &&& 15 : Nat) : Int)), some (.int .u8 ((nb bs 1 : Nat) : Int)), some (.int .u8 ((nb bs 2 : Nat) : Int)), some (.int .u8 ((nb bs 3 : Nat) : Int)), some (.int .u8 ((nb bs 4 : Nat) : Int)), some (.int .u8 ((nb bs 5 : Nat) : Int)), some (.int .u16 ((bN bs 6 2 : Nat) : Int)), some (.slice AQ (nb bs 3) cQ)], true⟩, ⟨kb, 201, [some (.iface 165 (.pointer (some ⟨rb, 0, none⟩)))], true⟩]) ([Byt A n c bs, Cel AQ (nb bs 3) cQ 1 (rowX (fun j => [.slice (cutA A c (8 + (4 * j))) ((8 + (4 * (j + 1))) - (8 + (4 * j))) (c - (8 + (4 * j)))]) (nb bs 3))]) (by decide) rfl (fun w => me_199_AddLayer _ w) rfl ca_166 (fun _ h => h) rfl rfl rfl rfl (fun w h => addLayer w kb 165 rb  h) rfl rfl rfl rfl fun hf4 he5 => ?_)
  refine send ?_
  refine eseq ?_
  refine HT.seq ?_
  refine HT.plain ?_
  refine sq (St.closed _ _ _ _) (q_assign rfl) rfl ?_
  refine send ?_
  refine eseq ?_
  refine HT.ret ?_
  exact fun a ha w' hw => fin_ ha (res1 ha Tryz.results96 rfl) ⟨AQ, cQ, rfl, hw, (fr1 (hf1 _ List.mem_cons_self) fr0)⟩

theorem vrrp_d6 (w : World) (A : Option Addr) (n : Nat) (c : Nat) (bs : List UInt8) (kb : Nat) (hn : n ≤ 400) (ha : 8 ≤ n) (hb : nb bs 0 % 16 = 1) (hc : 1 ≤ nb bs 3) (hd : 8 + 4 * nb bs 3 ≤ n) (he : nb bs 0 / 16 = 2) (hst : St w [kb] [⟨kb, 201, [some .nilIface], true⟩] [Byt A n c bs] w) : Calls Tryz.prog 86 #[(.slice A n c), (.iface 199 (.pointer (some ⟨kb, 0, none⟩)))] w (CP3 w [kb] [Byt A n c bs] (fun b11 AQ cQ => .nilIface) (fun b11 AQ cQ => [⟨kb, 201, [some (.iface 165 (.pointer (some ⟨b11, 0, none⟩)))], true⟩, ⟨b11, 170, [some (.slice (cutA A c 0) (n - 0) (c - 0)), some (.slice none 0 0), some (.int .u8 (((nb bs 0) / 16 : Nat) : Int)), some (.int .u8 (((nb bs 0) &&& 15 : Nat) : Int)), some (.int .u8 ((nb bs 1 : Nat) : Int)), some (.int .u8 ((nb bs 2 : Nat) : Int)), some (.int .u8 ((nb bs 3 : Nat) : Int)), some (.int .u8 ((nb bs 4 : Nat) : Int)), some (.int .u8 ((nb bs 5 : Nat) : Int)), some (.int .u16 ((bN bs 6 2 : Nat) : Int)), some (.slice AQ (nb bs 3) cQ)], true⟩]) (fun b11 AQ cQ => [Cel AQ (nb bs 3) cQ 1 (rowX (fun j => [.slice (cutA A c (8 + (4 * j))) ((8 + (4 * (j + 1))) - (8 + (4 * j))) (c - (8 + (4 * j)))]) (nb bs 3))])) := by
  have hnc00 : n ≤ c := (hst.fact (j := 0) rfl).2.1
  refine enter (vs := [(.slice A n c), (.iface 199 (.pointer (some ⟨kb, 0, none⟩)))]) Tryz.func86 rfl rfl rfl hst ?_
  refine HT.seq ?_
  refine HT.plain ?_
  refine sq (St.closed _ _ _ _) (q_assign rfl) rfl ?_
  refine send ?_
  refine eseq ?_
  refine HT.seq ?_
  refine HT.seq ?_
  refine HT.plain ?_
  refine sq (St.closed _ _ _ _) (q_move rfl) rfl ?_
  refine sq (St.closed _ _ _ _) (q_len (len := n) rfl Tryz.underlying22) rfl ?_
  refine sq (St.closed _ _ _ _) (q_F (q_lt (p := n) (q := 8) rfl rfl) (by omega)) rfl ?_
  refine send ?_
  refine eseq ?_
  refine HT.no rfl ?_
  refine HT.skip ?_
  refine eseq ?_
  refine HT.seq ?_
  refine HT.plain ?_
  refine sq (St.closed _ _ _ _) (q_build (vs := []) (v := (.agg #[(.slice none 0 0), (.slice none 0 0), (.int .u8 ((0 : Nat) : Int)), (.int .u8 ((0 : Nat) : Int)), (.int .u8 ((0 : Nat) : Int)), (.int .u8 ((0 : Nat) : Int)), (.int .u8 ((0 : Nat) : Int)), (.int .u8 ((0 : Nat) : Int)), (.int .u8 ((0 : Nat) : Int)), (.int .u16 ((0 : Nat) : Int)), (.slice none 0 0)])) rfl (fun _ => by kernel_rfl)) rfl ?_
  refine sl_ (l_box (by decide) rfl fun b11 => ?_)
  refine sq (St.closed _ _ _ _) (q_assign rfl) rfl ?_
  refine send ?_
  refine eseq ?_
  refine HT.seq ?_
  refine HT.plain ?_
  refine sq (St.closed _ _ _ _) (q_move rfl) rfl ?_
  refine sq (St.closed _ _ _ _) (q_iface rfl Tryz.underlying165 (fun _ h => nomatch h)) rfl ?_
  refine sq (St.closed _ _ _ _) (q_move rfl) rfl ?_
  refine sq (St.closed _ _ _ _) (q_move rfl) rfl ?_
  refine sl_ (l_callX2 (vs := [(.iface 165 (.pointer (some ⟨b11, 0, none⟩))), (.slice A n c), (.iface 199 (.pointer (some ⟨kb, 0, none⟩)))]) (Kc := [⟨b11, 170, [some (.slice none 0 0), some (.slice none 0 0), some (.int .u8 ((0 : Nat) : Int)), some (.int .u8 ((0 : Nat) : Int)), some (.int .u8 ((0 : Nat) : Int)), some (.int .u8 ((0 : Nat) : Int)), some (.int .u8 ((0 : Nat) : Int)), some (.int .u8 ((0 : Nat) : Int)), some (.int .u8 ((0 : Nat) : Int)), some (.int .u16 ((0 : Nat) : Int)), some (.slice none 0 0)], true⟩, ⟨kb, 201, [some .nilIface], true⟩]) (Bc := [Byt A n c bs]) [1, 0] [0] [Byt A n c bs] (fun AQ cQ => [⟨b11, 170, [some (.slice (cutA A c 0) (n - 0) (c - 0)), some (.slice none 0 0), some (.int .u8 (((nb bs 0) / 16 : Nat) : Int)), some (.int .u8 (((nb bs 0) &&& 15 : Nat) : Int)), some (.int .u8 ((nb bs 1 : Nat) : Int)), some (.int .u8 ((nb bs 2 : Nat) : Int)), some (.int .u8 ((nb bs 3 : Nat) : Int)), some (.int .u8 ((nb bs 4 : Nat) : Int)), some (.int .u8 ((nb bs 5 : Nat) : Int)), some (.int .u16 ((bN bs 6 2 : Nat) : Int)), some (.slice AQ (nb bs 3) cQ)], true⟩, ⟨kb, 201, [some (.iface 165 (.pointer (some ⟨b11, 0, none⟩)))], true⟩]) (fun AQ cQ => [Byt A n c bs, Cel AQ (nb bs 3) cQ 1 (rowX (fun j => [.slice (cutA A c (8 + (4 * j))) ((8 + (4 * (j + 1))) - (8 + (4 * j))) (c - (8 + (4 * j)))]) (nb bs 3))]) (by decide) rfl ca_96 (fun _ h => h) rfl rfl rfl rfl (fun w h => vrrp_dd6 w A n c bs b11 kb (by omega) (by omega) (by omega) (by omega) (by omega) (by omega) h) (fun _ _ => rfl) (fun _ _ => rfl) (fun _ _ => rfl) (fun _ _ => rfl) fun AQ cQ hf1 he2 => ?_)
  have hnc3 : nb bs 3 ≤ cQ := by obtain ⟨w, h⟩ := he2; exact (h _ List.mem_cons_self).2.1
  refine sq (St.closed _ _ _ _) (q_assign rfl) rfl ?_
  refine send ?_
  refine eseq ?_
  refine HT.ret ?_
  exact fun a ha w' hw => fin_ ha (res1 ha Tryz.results86 rfl) ⟨b11, AQ, cQ, rfl, (hw.wk [(1, []), (0, [])] rfl), (fr1 (hf1 _ List.mem_cons_self) fr0)⟩

theorem vrrp_z6 (w : World) (A : Option Addr) (n : Nat) (c : Nat) (bs : List UInt8) (hn : n ≤ 400) (ha : 8 ≤ n) (hb : nb bs 0 % 16 = 1) (hc : 1 ≤ nb bs 3) (hd : 8 + 4 * nb bs 3 ≤ n) (he : nb bs 0 / 16 = 2) (hst : St w [] [] [Byt A n c bs] w) : Calls Tryz.prog 58 #[(.string ⟨#[118, 114, 114, 112]⟩), (.slice A n c)] w (CP3 w [] [Byt A n c bs] (fun b11 AQ cQ => (.tuple #[(.iface 165 (.pointer (some ⟨b11, 0, none⟩))), .nilIface])) (fun b11 AQ cQ => [⟨b11, 170, [some (.slice (cutA A c 0) (n - 0) (c - 0)), some (.slice none 0 0), some (.int .u8 (((nb bs 0) / 16 : Nat) : Int)), some (.int .u8 (((nb bs 0) &&& 15 : Nat) : Int)), some (.int .u8 ((nb bs 1 : Nat) : Int)), some (.int .u8 ((nb bs 2 : Nat) : Int)), some (.int .u8 ((nb bs 3 : Nat) : Int)), some (.int .u8 ((nb bs 4 : Nat) : Int)), some (.int .u8 ((nb bs 5 : Nat) : Int)), some (.int .u16 ((bN bs 6 2 : Nat) : Int)), some (.slice AQ (nb bs 3) cQ)], true⟩]) (fun b11 AQ cQ => [Cel AQ (nb bs 3) cQ 1 (rowX (fun j => [.slice (cutA A c (8 + (4 * j))) ((8 + (4 * (j + 1))) - (8 + (4 * j))) (c - (8 + (4 * j)))]) (nb bs 3))])) := by
  have hnc00 : n ≤ c := (hst.fact (j := 0) rfl).2.1
  refine enter (vs := [(.string ⟨#[118, 114, 114, 112]⟩), (.slice A n c)]) Tryz.func58 rfl rfl rfl hst ?_
  refine HT.seq ?_
  refine HT.plain ?_
  refine sq (St.closed _ _ _ _) (q_assign rfl) rfl ?_
  refine sq (St.closed _ _ _ _) (q_assign rfl) rfl ?_
  refine send ?_
  refine eseq ?_
  refine HT.seq ?_
  refine HT.plain ?_
  refine sq (St.closed _ _ _ _) (q_build (vs := []) (v := (.agg #[.nilIface])) rfl (fun _ => by kernel_rfl)) rfl ?_
  refine sl_ (l_box (by decide) rfl fun b9 => ?_)
  refine sq (St.closed _ _ _ _) (q_assign rfl) rfl ?_
  refine send ?_
  refine eseq ?_
  refine HT.seq ?_
  refine HT.plain ?_
  refine sl_ (l_callX1 (vs := [(.string ⟨#[110, 111, 32, 107, 105, 110, 100]⟩)]) (Kc := []) (Bc := []) [] [] [Byt A n c bs] (fun b5 => [⟨b9, 201, [some .nilIface], true⟩, ⟨b5, 206, [some (.string (⟨#[110, 111, 32, 107, 105, 110, 100]⟩))], true⟩]) (fun b5 => [Byt A n c bs]) (by decide) rfl ca_67 (fun _ h => h) rfl rfl rfl rfl (fun w h => errNew w (⟨#[110, 111, 32, 107, 105, 110, 100]⟩)  h) (fun _ => rfl) (fun _ => rfl) (fun _ => rfl) (fun _ => rfl) fun b5 hf1 he2 => ?_)
  refine sq (St.closed _ _ _ _) (q_assign rfl) rfl ?_
  refine send ?_
  refine eseq ?_
  refine HT.seq ?_
  refine HT.seq ?_
  refine HT.plain ?_
  refine sq (St.closed _ _ _ _) (q_move rfl) rfl ?_
  refine send ?_
  refine eseq ?_
  refine HT.block ?_
  refine HT.seq ?_
  refine HT.plain ?_
  refine sq (St.closed _ _ _ _) (q_eqs rfl rfl (r := false) (by kernel_rfl)) rfl ?_
  refine sq (St.closed _ _ _ _) (q_assign rfl) rfl ?_
  refine send ?_
  refine eseq ?_
  refine HT.no rfl ?_
  refine HT.seq ?_
  refine HT.plain ?_
  refine sq (St.closed _ _ _ _) (q_eqs rfl rfl (r := false) (by kernel_rfl)) rfl ?_
  refine sq (St.closed _ _ _ _) (q_assign rfl) rfl ?_
  refine send ?_
  refine eseq ?_
  refine HT.no rfl ?_
  refine HT.seq ?_
  refine HT.plain ?_
  refine sq (St.closed _ _ _ _) (q_eqs rfl rfl (r := false) (by kernel_rfl)) rfl ?_
  refine sq (St.closed _ _ _ _) (q_assign rfl) rfl ?_
  refine send ?_
  refine eseq ?_
  refine HT.no rfl ?_
  refine HT.seq ?_
  refine HT.plain ?_
  refine sq (St.closed _ _ _ _) (q_eqs rfl rfl (r := false) (by kernel_rfl)) rfl ?_
  refine sq (St.closed _ _ _ _) (q_assign rfl) rfl ?_
  refine send ?_
  refine eseq ?_
  refine HT.no rfl ?_
  refine HT.seq ?_
  refine HT.plain ?_
  refine sq (St.closed _ _ _ _) (q_eqs rfl rfl (r := false) (by kernel_rfl)) rfl ?_
  refine sq (St.closed _ _ _ _) (q_assign rfl) rfl ?_
  refine send ?_
  refine eseq ?_
  refine HT.no rfl ?_
  refine HT.seq ?_
  refine HT.plain ?_
  refine sq (St.closed _ _ _ _) (q_eqs rfl rfl (r := false) (by kernel_rfl)) rfl ?_
  refine sq (St.closed _ _ _ _) (q_assign rfl) rfl ?_
  refine send ?_
  refine eseq ?_
  refine HT.no rfl ?_
  refine HT.seq ?_
  refine HT.plain ?_
  refine sq (St.closed _ _ _ _) (q_eqs rfl rfl (r := false) (by kernel_rfl)) rfl ?_
  refine sq (St.closed _ _ _ _) (q_assign rfl) rfl ?_
  refine send ?_
  refine eseq ?_
  refine HT.no rfl ?_
  refine HT.seq ?_
  refine HT.plain ?_
  refine sq (St.closed _ _ _ _) (q_eqs rfl rfl (r := false) (by kernel_rfl)) rfl ?_
  refine sq (St.closed _ _ _ _) (q_assign rfl) rfl ?_
  refine send ?_
  refine eseq ?_
  refine HT.no rfl ?_
  refine HT.seq ?_
  refine HT.plain ?_
  refine sq (St.closed _ _ _ _) (q_eqs rfl rfl (r := false) (by kernel_rfl)) rfl ?_
  refine sq (St.closed _ _ _ _) (q_assign rfl) rfl ?_
  refine send ?_
  refine eseq ?_
  refine HT.no rfl ?_
  refine HT.seq ?_
  refine HT.plain ?_
  refine sq (St.closed _ _ _ _) (q_eqs rfl rfl (r := false) (by kernel_rfl)) rfl ?_
  refine sq (St.closed _ _ _ _) (q_assign rfl) rfl ?_
  refine send ?_
  refine eseq ?_
  refine HT.no rfl ?_
  refine HT.seq ?_
  refine HT.plain ?_
  refine sq (St.closed _ _ _ _) (q_eqs rfl rfl (r := false) (by kernel_rfl)) rfl ?_
  refine sq (St.closed _ _ _ _) (q_assign rfl) rfl ?_
  refine send ?_
  refine eseq ?_
  refine HT.no rfl ?_
  refine HT.seq ?_
  refine HT.plain ?_
  refine sq (St.closed _ _ _ _) (q_eqs rfl rfl (r := false) (by kernel_rfl)) rfl ?_
  refine sq (St.closed _ _ _ _) (q_assign rfl) rfl ?_
  refine send ?_
  refine eseq ?_
  refine HT.no rfl ?_
  refine HT.seq ?_
  refine HT.plain ?_
  refine sq (St.closed _ _ _ _) (q_eqs rfl rfl (r := false) (by kernel_rfl)) rfl ?_
  refine sq (St.closed _ _ _ _) (q_assign rfl) rfl ?_
  refine send ?_
  refine eseq ?_
  refine HT.no rfl ?_
  refine HT.seq ?_
  refine HT.plain ?_
  refine sq (St.closed _ _ _ _) (q_eqs rfl rfl (r := false) (by kernel_rfl)) rfl ?_
  refine sq (St.closed _ _ _ _) (q_assign rfl) rfl ?_
  refine send ?_
  refine eseq ?_
  refine HT.no rfl ?_
  refine HT.seq ?_
  refine HT.plain ?_
  refine sq (St.closed _ _ _ _) (q_eqs rfl rfl (r := false) (by kernel_rfl)) rfl ?_
  refine sq (St.closed _ _ _ _) (q_assign rfl) rfl ?_
  refine send ?_
  refine eseq ?_
  refine HT.no rfl ?_
  refine HT.seq ?_
  refine HT.plain ?_
  refine sq (St.closed _ _ _ _) (q_eqs rfl rfl (r := false) (by kernel_rfl)) rfl ?_
  refine sq (St.closed _ _ _ _) (q_assign rfl) rfl ?_
  refine send ?_
  refine eseq ?_
  refine HT.no rfl ?_
  refine HT.seq ?_
  refine HT.plain ?_
  refine sq (St.closed _ _ _ _) (q_eqs rfl rfl (r := false) (by kernel_rfl)) rfl ?_
  refine sq (St.closed _ _ _ _) (q_assign rfl) rfl ?_
  refine send ?_
  refine eseq ?_
  refine HT.no rfl ?_
  refine HT.seq ?_
  refine HT.plain ?_
  refine sq (St.closed _ _ _ _) (q_eqs rfl rfl (r := false) (by kernel_rfl)) rfl ?_
  refine sq (St.closed _ _ _ _) (q_assign rfl) rfl ?_
  refine send ?_
  refine eseq ?_
  refine HT.no rfl ?_
  refine HT.seq ?_
  refine HT.plain ?_
  refine sq (St.closed _ _ _ _) (q_eqs rfl rfl (r := true) (by kernel_rfl)) rfl ?_
  refine sq (St.closed _ _ _ _) (q_assign rfl) rfl ?_
  refine send ?_
  refine eseq ?_
  refine HT.yes rfl ?_
  refine HT.plain ?_
  refine sq (St.closed _ _ _ _) (q_move rfl) rfl ?_
  refine sq (St.closed _ _ _ _) (q_move rfl) rfl ?_
  refine sq (St.closed _ _ _ _) (q_iface rfl Tryz.underlying199 (fun _ h => nomatch h)) rfl ?_
  refine sl_ (l_callX3 (vs := [(.slice A n c), (.iface 199 (.pointer (some ⟨b9, 0, none⟩)))]) (Kc := [⟨b9, 201, [some .nilIface], true⟩]) (Bc := [Byt A n c bs]) [0] [0] [Byt A n c bs] (fun b11 AQ cQ => [⟨b5, 206, [some (.string (⟨#[110, 111, 32, 107, 105, 110, 100]⟩))], true⟩, ⟨b9, 201, [some (.iface 165 (.pointer (some ⟨b11, 0, none⟩)))], true⟩, ⟨b11, 170, [some (.slice (cutA A c 0) (n - 0) (c - 0)), some (.slice none 0 0), some (.int .u8 (((nb bs 0) / 16 : Nat) : Int)), some (.int .u8 (((nb bs 0) &&& 15 : Nat) : Int)), some (.int .u8 ((nb bs 1 : Nat) : Int)), some (.int .u8 ((nb bs 2 : Nat) : Int)), some (.int .u8 ((nb bs 3 : Nat) : Int)), some (.int .u8 ((nb bs 4 : Nat) : Int)), some (.int .u8 ((nb bs 5 : Nat) : Int)), some (.int .u16 ((bN bs 6 2 : Nat) : Int)), some (.slice AQ (nb bs 3) cQ)], true⟩]) (fun b11 AQ cQ => [Byt A n c bs, Cel AQ (nb bs 3) cQ 1 (rowX (fun j => [.slice (cutA A c (8 + (4 * j))) ((8 + (4 * (j + 1))) - (8 + (4 * j))) (c - (8 + (4 * j)))]) (nb bs 3))]) (by decide) rfl ca_86 (fun _ h => h) rfl rfl rfl rfl (fun w h => vrrp_d6 w A n c bs b9 (by omega) (by omega) (by omega) (by omega) (by omega) (by omega) h) (fun _ _ _ => rfl) (fun _ _ _ => rfl) (fun _ _ _ => rfl) (fun _ _ _ => rfl) fun b11 AQ cQ hf3 he4 => ?_)
  have hnc5 : nb bs 3 ≤ cQ := by obtain ⟨w, h⟩ := he4; exact (h _ List.mem_cons_self).2.1
  refine sq (St.closed _ _ _ _) (q_assign rfl) rfl ?_
  refine send ?_
  refine ein ?_
  refine eseq ?_
  refine HT.seq ?_
  refine HT.seq ?_
  refine HT.plain ?_
  refine sq (St.closed _ _ _ _) (q_move rfl) rfl ?_
  refine sq (St.closed _ _ _ _) (q_notNil rfl rfl Tryz.underlying59) rfl ?_
  refine send ?_
  refine eseq ?_
  refine HT.no rfl ?_
  refine HT.skip ?_
  refine eseq ?_
  refine HT.seq ?_
  refine HT.plain ?_
  refine sq (St.closed _ _ _ _) (q_move rfl) rfl ?_
  refine sq (St.closed _ _ _ _) (q_nil rfl) rfl ?_
  refine sq (St.closed _ _ _ _) (q_field (b := b9) (off := 0) rfl fo_201_0) rfl ?_
  refine sq (St.closed _ _ _ _) (q_load (b := b9) (off := 0) (j := 1) rfl nagg_43 (fun _ h => h) rfl rfl rfl) rfl ?_
  refine sq (St.closed _ _ _ _) (q_assign rfl) rfl ?_
  refine sq (St.closed _ _ _ _) (q_assign rfl) rfl ?_
  refine send ?_
  refine eseq ?_
  refine HT.ret ?_
  exact fun a ha w' hw => fin_ ha (res2 ha Tryz.results58 rfl rfl) ⟨b11, AQ, cQ, rfl, (hw.wk [(2, [])] rfl), (fr1 (hf3 _ List.mem_cons_self) fr0)⟩

theorem vrrp_e6 (w : World) (A : Option Addr) (n : Nat) (c : Nat) (bs : List UInt8) (hn : n ≤ 400) (ha : 8 ≤ n) (hb : nb bs 0 % 16 = 1) (hc : 1 ≤ nb bs 3) (hd : 8 + 4 * nb bs 3 ≤ n) (he : nb bs 0 / 16 = 2) (hst : St w [] [] [Byt A n c bs] w) : Calls Tryz.prog 46 #[(.string ⟨#[118, 114, 114, 112]⟩), (.slice A n c)] w (CP5 w [] [Byt A n c bs] (fun b11 A5 c5 AQ cQ => (.tuple #[(.iface 165 (.pointer (some ⟨b11, 0, none⟩))), (.bool true)])) (fun b11 A5 c5 AQ cQ => [⟨b11, 170, [some (.slice (cutA A5 c5 0) (n - 0) (c5 - 0)), some (.slice none 0 0), some (.int .u8 (((nb bs 0) / 16 : Nat) : Int)), some (.int .u8 (((nb bs 0) &&& 15 : Nat) : Int)), some (.int .u8 ((nb bs 1 : Nat) : Int)), some (.int .u8 ((nb bs 2 : Nat) : Int)), some (.int .u8 ((nb bs 3 : Nat) : Int)), some (.int .u8 ((nb bs 4 : Nat) : Int)), some (.int .u8 ((nb bs 5 : Nat) : Int)), some (.int .u16 ((bN bs 6 2 : Nat) : Int)), some (.slice AQ (nb bs 3) cQ)], true⟩]) (fun b11 A5 c5 AQ cQ => [Byt A5 n c5 bs, Cel AQ (nb bs 3) cQ 1 (rowX (fun j => [.slice (cutA A5 c5 (8 + (4 * j))) ((8 + (4 * (j + 1))) - (8 + (4 * j))) (c5 - (8 + (4 * j)))]) (nb bs 3))])) := by
  have hnc00 : n ≤ c := (hst.fact (j := 0) rfl).2.1
  refine enter (vs := [(.string ⟨#[118, 114, 114, 112]⟩), (.slice A n c)]) Tryz.func46 rfl rfl rfl hst ?_
  refine HT.seq ?_
  refine HT.plain ?_
  refine sq (St.closed _ _ _ _) (q_assign rfl) rfl ?_
  refine sq (St.closed _ _ _ _) (q_assign rfl) rfl ?_
  refine send ?_
  refine eseq ?_
  refine HT.seq ?_
  refine HT.seq ?_
  refine HT.plain ?_
  refine sq (St.closed _ _ _ _) (q_move rfl) rfl ?_
  refine sq (St.closed _ _ _ _) (q_len (len := n) rfl Tryz.underlying22) rfl ?_
  refine sq (St.closed _ _ _ _) (q_F (q_gt (p := n) (q := 2000) rfl rfl) (by omega)) rfl ?_
  refine send ?_
  refine eseq ?_
  refine HT.no rfl ?_
  refine HT.skip ?_
  refine eseq ?_
  refine HT.seq ?_
  refine HT.plain ?_
  refine sq (St.closed _ _ _ _) (q_move rfl) rfl ?_
  refine sq (St.closed _ _ _ _) (q_assign rfl) rfl ?_
  refine send ?_
  refine eseq ?_
  refine HT.seq ?_
  refine HT.seq ?_
  refine HT.plain ?_
  refine sq (St.closed _ _ _ _) (q_move rfl) rfl ?_
  refine sq (St.closed _ _ _ _) (q_eqs rfl rfl (r := false) (by kernel_rfl)) rfl ?_
  refine sq (St.closed _ _ _ _) (q_move rfl) rfl ?_
  refine sgq (St.closed _ _ _ _) rfl (q_move rfl) rfl ?_
  refine sgq (St.closed _ _ _ _) rfl (q_eqs rfl rfl (r := false) (by kernel_rfl)) rfl ?_
  refine sq (St.closed _ _ _ _) (q_pick rfl (fun h => nomatch h) (fun _ => rfl)) rfl ?_
  refine send ?_
  refine eseq ?_
  refine HT.no rfl ?_
  refine HT.seq ?_
  refine HT.plain ?_
  refine sq (St.closed _ _ _ _) (q_move rfl) rfl ?_
  refine sq (St.closed _ _ _ _) (q_eqs rfl rfl (r := false) (by kernel_rfl)) rfl ?_
  refine send ?_
  refine eseq ?_
  refine HT.no rfl ?_
  refine HT.skip ?_
  refine eseq ?_
  refine HT.seq ?_
  refine HT.seq ?_
  refine HT.plain ?_
  refine sq (St.closed _ _ _ _) (q_move rfl) rfl ?_
  refine sq (St.closed _ _ _ _) (q_move rfl) rfl ?_
  refine sq (St.closed _ _ _ _) (q_call (vs := [(.string ⟨#[118, 114, 114, 112]⟩), (.slice A n c)]) (v := (.bool true)) rfl ca_57 (fun w h => vrrp_c6 w A n c bs (by omega) (by omega) (by omega) (by omega) (by omega) (by omega) (St.enter (sp := []) (Kc := []) (bi := [0]) h rfl rfl rfl))) rfl ?_
  refine sq (St.closed _ _ _ _) (q_not rfl) rfl ?_
  refine send ?_
  refine eseq ?_
  refine HT.no rfl ?_
  refine HT.skip ?_
  refine eseq ?_
  refine HT.seq ?_
  refine HT.plain ?_
  refine sq (St.closed _ _ _ _) (q_move rfl) rfl ?_
  refine sq (St.closed _ _ _ _) (q_move rfl) rfl ?_
  refine sl_ (l_callX2 (vs := [(.slice A n c)]) (Kc := []) (Bc := [Byt A n c bs]) [] [0] [Byt A n c bs] (fun A5 c5 => []) (fun A5 c5 => [Byt A n c bs, Byt A5 n c5 bs]) (by decide) rfl ca_59 (fun _ h => h) rfl rfl rfl rfl (fun w h => Clone w A n c bs (by omega) h) (fun _ _ => rfl) (fun _ _ => rfl) (fun _ _ => rfl) (fun _ _ => rfl) fun A5 c5 hf1 he2 => ?_)
  have hnc3 : n ≤ c5 := by obtain ⟨w, h⟩ := he2; exact (h _ List.mem_cons_self).2.1
  refine sl_ (l_callX3 (vs := [(.string ⟨#[118, 114, 114, 112]⟩), (.slice A5 n c5)]) (Kc := []) (Bc := [Byt A5 n c5 bs]) [] [1] [Byt A n c bs, Byt A5 n c5 bs] (fun b11 AQ cQ => [⟨b11, 170, [some (.slice (cutA A5 c5 0) (n - 0) (c5 - 0)), some (.slice none 0 0), some (.int .u8 (((nb bs 0) / 16 : Nat) : Int)), some (.int .u8 (((nb bs 0) &&& 15 : Nat) : Int)), some (.int .u8 ((nb bs 1 : Nat) : Int)), some (.int .u8 ((nb bs 2 : Nat) : Int)), some (.int .u8 ((nb bs 3 : Nat) : Int)), some (.int .u8 ((nb bs 4 : Nat) : Int)), some (.int .u8 ((nb bs 5 : Nat) : Int)), some (.int .u16 ((bN bs 6 2 : Nat) : Int)), some (.slice AQ (nb bs 3) cQ)], true⟩]) (fun b11 AQ cQ => [Byt A n c bs, Byt A5 n c5 bs, Cel AQ (nb bs 3) cQ 1 (rowX (fun j => [.slice (cutA A5 c5 (8 + (4 * j))) ((8 + (4 * (j + 1))) - (8 + (4 * j))) (c5 - (8 + (4 * j)))]) (nb bs 3))]) (by decide) rfl ca_58 (fun _ h => h) rfl rfl rfl rfl (fun w h => vrrp_z6 w A5 n c5 bs (by omega) (by omega) (by omega) (by omega) (by omega) (by omega) h) (fun _ _ _ => rfl) (fun _ _ _ => rfl) (fun _ _ _ => rfl) (fun _ _ _ => rfl) fun b11 AQ cQ hf4 he5 => ?_)
  have hnc6 : nb bs 3 ≤ cQ := by obtain ⟨w, h⟩ := he5; exact (h _ List.mem_cons_self).2.1
  refine sq (St.closed _ _ _ _) (q_move rfl) rfl ?_
  refine sq (St.closed _ _ _ _) (q_extract (vs := [(.iface 165 (.pointer (some ⟨b11, 0, none⟩))), .nilIface]) (i := 0) rfl rfl) rfl ?_
  refine sq (St.closed _ _ _ _) (q_extract (vs := [(.iface 165 (.pointer (some ⟨b11, 0, none⟩))), .nilIface]) (i := 1) rfl rfl) rfl ?_
  refine sq (St.closed _ _ _ _) (q_assign rfl) rfl ?_
  refine sq (St.closed _ _ _ _) (q_assign rfl) rfl ?_
  refine send ?_
  refine eseq ?_
  refine HT.seq ?_
  refine HT.seq ?_
  refine HT.plain ?_
  refine sq (St.closed _ _ _ _) (q_move rfl) rfl ?_
  refine sq (St.closed _ _ _ _) (q_notNil rfl rfl Tryz.underlying59) rfl ?_
  refine sq (St.closed _ _ _ _) (q_move rfl) rfl ?_
  refine sgq (St.closed _ _ _ _) rfl (q_move rfl) rfl ?_
  refine sgq (St.closed _ _ _ _) rfl (q_isNil' rfl rfl Tryz.underlying43) rfl ?_
  refine sq (St.closed _ _ _ _) (q_pick rfl (fun h => nomatch h) (fun _ => rfl)) rfl ?_
  refine send ?_
  refine eseq ?_
  refine HT.no rfl ?_
  refine HT.skip ?_
  refine eseq ?_
  refine HT.seq ?_
  refine HT.seq ?_
  refine HT.plain ?_
  refine sq (St.closed _ _ _ _) (q_move rfl) rfl ?_
  refine sq (St.closed _ _ _ _) (q_isnt (T := 165) (z := (.pointer none)) rfl Tryz.underlying63 (fun _ h => nomatch h) (by decide) zero_63) rfl ?_
  refine sq (St.closed _ _ _ _) (q_move rfl) rfl ?_
  refine sq (St.closed _ _ _ _) (q_extract (vs := [(.pointer none), (.bool false)]) (i := 0) rfl rfl) rfl ?_
  refine sq (St.closed _ _ _ _) (q_extract (vs := [(.pointer none), (.bool false)]) (i := 1) rfl rfl) rfl ?_
  refine sq (St.closed _ _ _ _) (q_assign rfl) rfl ?_
  refine sq (St.closed _ _ _ _) (q_assign rfl) rfl ?_
  refine send ?_
  refine eseq ?_
  refine HT.seq ?_
  refine HT.plain ?_
  refine sq (St.closed _ _ _ _) (q_move rfl) rfl ?_
  refine sq (St.closed _ _ _ _) (q_move rfl) rfl ?_
  refine sq (St.closed _ _ _ _) (q_eqs rfl rfl (r := false) (by kernel_rfl)) rfl ?_
  refine sq (St.closed _ _ _ _) (q_neb rfl rfl Tryz.underlying4) rfl ?_
  refine sq (St.closed _ _ _ _) (q_move rfl) rfl ?_
  refine sskip rfl rfl ?_
  refine sskip rfl rfl ?_
  refine sq (St.closed _ _ _ _) (q_pick rfl (fun h => nomatch h) (fun _ => rfl)) rfl ?_
  refine send ?_
  refine eseq ?_
  refine HT.no rfl ?_
  refine HT.skip ?_
  refine eseq ?_
  refine HT.seq ?_
  refine HT.plain ?_
  refine sq (St.closed _ _ _ _) (q_move rfl) rfl ?_
  refine sq (St.closed _ _ _ _) (q_assign rfl) rfl ?_
  refine sq (St.closed _ _ _ _) (q_assign rfl) rfl ?_
  refine send ?_
  refine eseq ?_
  refine HT.ret ?_
  exact fun a ha w' hw => fin_ ha (res2 ha Tryz.results46 rfl rfl) ⟨b11, A5, c5, AQ, cQ, rfl, hw, (fr1 (hf1 _ List.mem_cons_self) (fr1 (hf4 _ List.mem_cons_self) fr0))⟩

theorem vrrp_t6 (w : World) (A5 : Option Addr) (n : Nat) (c5 : Nat) (bs : List UInt8) (b11 : Nat) (AQ : Option Addr) (cQ : Nat) (hn : n ≤ 400) (ha : 8 ≤ n) (hb : nb bs 0 % 16 = 1) (hc : 1 ≤ nb bs 3) (hd : 8 + 4 * nb bs 3 ≤ n) (he : nb bs 0 / 16 = 2) (hst : St w [] [⟨b11, 170, [some (.slice (cutA A5 c5 0) (n - 0) (c5 - 0)), some (.slice none 0 0), some (.int .u8 (((nb bs 0) / 16 : Nat) : Int)), some (.int .u8 (((nb bs 0) &&& 15 : Nat) : Int)), some (.int .u8 ((nb bs 1 : Nat) : Int)), some (.int .u8 ((nb bs 2 : Nat) : Int)), some (.int .u8 ((nb bs 3 : Nat) : Int)), some (.int .u8 ((nb bs 4 : Nat) : Int)), some (.int .u8 ((nb bs 5 : Nat) : Int)), some (.int .u16 ((bN bs 6 2 : Nat) : Int)), some (.slice AQ (nb bs 3) cQ)], false⟩] [Byt A5 n c5 bs, Cel AQ (nb bs 3) cQ 1 (rowX (fun j => [.slice (cutA A5 c5 (8 + (4 * j))) ((8 + (4 * (j + 1))) - (8 + (4 * j))) (c5 - (8 + (4 * j)))]) (nb bs 3))] w) : Calls Tryz.prog 47 #[(.iface 165 (.pointer (some ⟨b11, 0, none⟩))), (.slice none 0 0)] w (IP w (Byt A5 n c5 bs) (some (some ⟨[2, 1, nb bs 1, nb bs 2, nb bs 3, nb bs 4, nb bs 5, bN bs 6 2], [], ((List.range (nb bs 3)).map fun j => ([], sl bs (8 + (4 * j)) (12 + (4 * j)))), []⟩))) := by
  have hnc00 : n ≤ c5 := (hst.fact (j := 0) rfl).2.1
  refine enter (vs := [(.iface 165 (.pointer (some ⟨b11, 0, none⟩))), (.slice none 0 0)]) Tryz.func47 rfl rfl rfl hst ?_
  refine HT.seq ?_
  refine HT.plain ?_
  refine sl_ (l_alloc (by decide) zero_29 fun b4 => ?_)
  refine sq (St.closed _ _ _ _) (q_assign rfl) rfl ?_
  refine send ?_
  refine eseq ?_
  refine HT.seq ?_
  refine HT.plain ?_
  refine sq (St.closed _ _ _ _) (q_move rfl) rfl ?_
  refine sq (St.closed _ _ _ _) (q_call (vs := [(.slice none 0 0)]) (v := (.slice none 0 0)) rfl ca_60 (fun w h => cloneNil w   (St.enter (sp := []) (Kc := []) (bi := []) h rfl rfl rfl))) rfl ?_
  refine sq (St.closed _ _ _ _) (q_build (vs := [(3, (.slice none 0 0))]) (v := (.agg #[(.slice none 0 0), (.slice none 0 0), (.slice none 0 0), (.slice none 0 0)])) rfl (fun _ => by kernel_rfl)) rfl ?_
  refine sl_ (l_box (by decide) rfl fun b50 => ?_)
  refine sq (St.closed _ _ _ _) (q_assign rfl) rfl ?_
  refine send ?_
  refine eseq ?_
  refine HT.seq ?_
  refine HT.seq ?_
  refine HT.plain ?_
  refine sq (St.closed _ _ _ _) (q_move rfl) rfl ?_
  refine send ?_
  refine eseq ?_
  refine HT.block ?_
  refine HT.seq ?_
  refine HT.plain ?_
  refine sq (St.closed _ _ _ _) (q_isnt (T := 165) (z := (.pointer none)) rfl Tryz.underlying66 (fun _ h => nomatch h) (by decide) zero_66) rfl ?_
  refine sq (St.closed _ _ _ _) (q_extract (vs := [(.pointer none), (.bool false)]) (i := 1) rfl rfl) rfl ?_
  refine sq (St.closed _ _ _ _) (q_extract (vs := [(.pointer none), (.bool false)]) (i := 0) rfl rfl) rfl ?_
  refine send ?_
  refine eseq ?_
  refine HT.no rfl ?_
  refine HT.seq ?_
  refine HT.plain ?_
  refine sq (St.closed _ _ _ _) (q_isnt (T := 165) (z := (.pointer none)) rfl Tryz.underlying73 (fun _ h => nomatch h) (by decide) zero_73) rfl ?_
  refine sq (St.closed _ _ _ _) (q_extract (vs := [(.pointer none), (.bool false)]) (i := 1) rfl rfl) rfl ?_
  refine sq (St.closed _ _ _ _) (q_extract (vs := [(.pointer none), (.bool false)]) (i := 0) rfl rfl) rfl ?_
  refine send ?_
  refine eseq ?_
  refine HT.no rfl ?_
  refine HT.seq ?_
  refine HT.plain ?_
  refine sq (St.closed _ _ _ _) (q_isnt (T := 165) (z := (.pointer none)) rfl Tryz.underlying78 (fun _ h => nomatch h) (by decide) zero_78) rfl ?_
  refine sq (St.closed _ _ _ _) (q_extract (vs := [(.pointer none), (.bool false)]) (i := 1) rfl rfl) rfl ?_
  refine sq (St.closed _ _ _ _) (q_extract (vs := [(.pointer none), (.bool false)]) (i := 0) rfl rfl) rfl ?_
  refine send ?_
  refine eseq ?_
  refine HT.no rfl ?_
  refine HT.seq ?_
  refine HT.plain ?_
  refine sq (St.closed _ _ _ _) (q_isnt (T := 165) (z := (.pointer none)) rfl Tryz.underlying81 (fun _ h => nomatch h) (by decide) zero_81) rfl ?_
  refine sq (St.closed _ _ _ _) (q_extract (vs := [(.pointer none), (.bool false)]) (i := 1) rfl rfl) rfl ?_
  refine sq (St.closed _ _ _ _) (q_extract (vs := [(.pointer none), (.bool false)]) (i := 0) rfl rfl) rfl ?_
  refine send ?_
  refine eseq ?_
  refine HT.no rfl ?_
  refine HT.seq ?_
  refine HT.plain ?_
  refine sq (St.closed _ _ _ _) (q_isnt (T := 165) (z := (.pointer none)) rfl Tryz.underlying85 (fun _ h => nomatch h) (by decide) zero_85) rfl ?_
  refine sq (St.closed _ _ _ _) (q_extract (vs := [(.pointer none), (.bool false)]) (i := 1) rfl rfl) rfl ?_
  refine sq (St.closed _ _ _ _) (q_extract (vs := [(.pointer none), (.bool false)]) (i := 0) rfl rfl) rfl ?_
  refine send ?_
  refine eseq ?_
  refine HT.no rfl ?_
  refine HT.seq ?_
  refine HT.plain ?_
  refine sq (St.closed _ _ _ _) (q_isnt (T := 165) (z := (.pointer none)) rfl Tryz.underlying89 (fun _ h => nomatch h) (by decide) zero_89) rfl ?_
  refine sq (St.closed _ _ _ _) (q_extract (vs := [(.pointer none), (.bool false)]) (i := 1) rfl rfl) rfl ?_
  refine sq (St.closed _ _ _ _) (q_extract (vs := [(.pointer none), (.bool false)]) (i := 0) rfl rfl) rfl ?_
  refine send ?_
  refine eseq ?_
  refine HT.no rfl ?_
  refine HT.seq ?_
  refine HT.plain ?_
  refine sq (St.closed _ _ _ _) (q_isnt (T := 165) (z := (.pointer none)) rfl Tryz.underlying94 (fun _ h => nomatch h) (by decide) zero_94) rfl ?_
  refine sq (St.closed _ _ _ _) (q_extract (vs := [(.pointer none), (.bool false)]) (i := 1) rfl rfl) rfl ?_
  refine sq (St.closed _ _ _ _) (q_extract (vs := [(.pointer none), (.bool false)]) (i := 0) rfl rfl) rfl ?_
  refine send ?_
  refine eseq ?_
  refine HT.no rfl ?_
  refine HT.seq ?_
  refine HT.plain ?_
  refine sq (St.closed _ _ _ _) (q_isnt (T := 165) (z := (.pointer none)) rfl Tryz.underlying95 (fun _ h => nomatch h) (by decide) zero_95) rfl ?_
  refine sq (St.closed _ _ _ _) (q_extract (vs := [(.pointer none), (.bool false)]) (i := 1) rfl rfl) rfl ?_
  refine sq (St.closed _ _ _ _) (q_extract (vs := [(.pointer none), (.bool false)]) (i := 0) rfl rfl) rfl ?_
  refine send ?_
  refine eseq ?_
  refine HT.no rfl ?_
  refine HT.seq ?_
  refine HT.plain ?_
  refine sq (St.closed _ _ _ _) (q_isnt (T := 165) (z := (.pointer none)) rfl Tryz.underlying99 (fun _ h => nomatch h) (by decide) zero_99) rfl ?_
  refine sq (St.closed _ _ _ _) (q_extract (vs := [(.pointer none), (.bool false)]) (i := 1) rfl rfl) rfl ?_
  refine sq (St.closed _ _ _ _) (q_extract (vs := [(.pointer none), (.bool false)]) (i := 0) rfl rfl) rfl ?_
  refine send ?_
  refine eseq ?_
  refine HT.no rfl ?_
  refine HT.seq ?_
  refine HT.plain ?_
  refine sq (St.closed _ _ _ _) (q_isnt (T := 165) (z := (.pointer none)) rfl Tryz.underlying105 (fun _ h => nomatch h) (by decide) zero_105) rfl ?_
  refine sq (St.closed _ _ _ _) (q_extract (vs := [(.pointer none), (.bool false)]) (i := 1) rfl rfl) rfl ?_
  refine sq (St.closed _ _ _ _) (q_extract (vs := [(.pointer none), (.bool false)]) (i := 0) rfl rfl) rfl ?_
  refine send ?_
  refine eseq ?_
  refine HT.no rfl ?_
  refine HT.seq ?_
  refine HT.plain ?_
  refine sq (St.closed _ _ _ _) (q_isnt (T := 165) (z := (.pointer none)) rfl Tryz.underlying110 (fun _ h => nomatch h) (by decide) zero_110) rfl ?_
  refine sq (St.closed _ _ _ _) (q_extract (vs := [(.pointer none), (.bool false)]) (i := 1) rfl rfl) rfl ?_
  refine sq (St.closed _ _ _ _) (q_extract (vs := [(.pointer none), (.bool false)]) (i := 0) rfl rfl) rfl ?_
  refine send ?_
  refine eseq ?_
  refine HT.no rfl ?_
  refine HT.seq ?_
  refine HT.plain ?_
  refine sq (St.closed _ _ _ _) (q_isnt (T := 165) (z := (.pointer none)) rfl Tryz.underlying114 (fun _ h => nomatch h) (by decide) zero_114) rfl ?_
  refine sq (St.closed _ _ _ _) (q_extract (vs := [(.pointer none), (.bool false)]) (i := 1) rfl rfl) rfl ?_
  refine sq (St.closed _ _ _ _) (q_extract (vs := [(.pointer none), (.bool false)]) (i := 0) rfl rfl) rfl ?_
  refine send ?_
  refine eseq ?_
  refine HT.no rfl ?_
  refine HT.seq ?_
  refine HT.plain ?_
  refine sq (St.closed _ _ _ _) (q_isnt (T := 165) (z := (.pointer none)) rfl Tryz.underlying121 (fun _ h => nomatch h) (by decide) zero_121) rfl ?_
  refine sq (St.closed _ _ _ _) (q_extract (vs := [(.pointer none), (.bool false)]) (i := 1) rfl rfl) rfl ?_
  refine sq (St.closed _ _ _ _) (q_extract (vs := [(.pointer none), (.bool false)]) (i := 0) rfl rfl) rfl ?_
  refine send ?_
  refine eseq ?_
  refine HT.no rfl ?_
  refine HT.seq ?_
  refine HT.plain ?_
  refine sq (St.closed _ _ _ _) (q_isnt (T := 165) (z := (.pointer none)) rfl Tryz.underlying127 (fun _ h => nomatch h) (by decide) zero_127) rfl ?_
  refine sq (St.closed _ _ _ _) (q_extract (vs := [(.pointer none), (.bool false)]) (i := 1) rfl rfl) rfl ?_
  refine sq (St.closed _ _ _ _) (q_extract (vs := [(.pointer none), (.bool false)]) (i := 0) rfl rfl) rfl ?_
  refine send ?_
  refine eseq ?_
  refine HT.no rfl ?_
  refine HT.seq ?_
  refine HT.plain ?_
  refine sq (St.closed _ _ _ _) (q_isnt (T := 165) (z := (.pointer none)) rfl Tryz.underlying130 (fun _ h => nomatch h) (by decide) zero_130) rfl ?_
  refine sq (St.closed _ _ _ _) (q_extract (vs := [(.pointer none), (.bool false)]) (i := 1) rfl rfl) rfl ?_
  refine sq (St.closed _ _ _ _) (q_extract (vs := [(.pointer none), (.bool false)]) (i := 0) rfl rfl) rfl ?_
  refine send ?_
  refine eseq ?_
  refine HT.no rfl ?_
  refine HT.seq ?_
  refine HT.plain ?_
  refine sq (St.closed _ _ _ _) (q_isnt (T := 165) (z := (.pointer none)) rfl Tryz.underlying133 (fun _ h => nomatch h) (by decide) zero_133) rfl ?_
  refine sq (St.closed _ _ _ _) (q_extract (vs := [(.pointer none), (.bool false)]) (i := 1) rfl rfl) rfl ?_
  refine sq (St.closed _ _ _ _) (q_extract (vs := [(.pointer none), (.bool false)]) (i := 0) rfl rfl) rfl ?_
  refine send ?_
  refine eseq ?_
  refine HT.no rfl ?_
  refine HT.seq ?_
  refine HT.plain ?_
  refine sq (St.closed _ _ _ _) (q_isnt (T := 165) (z := (.pointer none)) rfl Tryz.underlying137 (fun _ h => nomatch h) (by decide) zero_137) rfl ?_
  refine sq (St.closed _ _ _ _) (q_extract (vs := [(.pointer none), (.bool false)]) (i := 1) rfl rfl) rfl ?_
  refine sq (St.closed _ _ _ _) (q_extract (vs := [(.pointer none), (.bool false)]) (i := 0) rfl rfl) rfl ?_
  refine send ?_
  refine eseq ?_
  refine HT.no rfl ?_
  refine HT.seq ?_
  refine HT.plain ?_
  refine sq (St.closed _ _ _ _) (q_isnt (T := 165) (z := (.pointer none)) rfl Tryz.underlying153 (fun _ h => nomatch h) (by decide) zero_153) rfl ?_
  refine sq (St.closed _ _ _ _) (q_extract (vs := [(.pointer none), (.bool false)]) (i := 1) rfl rfl) rfl ?_
  refine sq (St.closed _ _ _ _) (q_extract (vs := [(.pointer none), (.bool false)]) (i := 0) rfl rfl) rfl ?_
  refine send ?_
  refine eseq ?_
  refine HT.no rfl ?_
  refine HT.seq ?_
  refine HT.plain ?_
  refine sq (St.closed _ _ _ _) (q_is rfl Tryz.underlying165 (fun _ h => nomatch h)) rfl ?_
  refine sq (St.closed _ _ _ _) (q_extract (vs := [(.pointer (some ⟨b11, 0, none⟩)), (.bool true)]) (i := 1) rfl rfl) rfl ?_
  refine sq (St.closed _ _ _ _) (q_extract (vs := [(.pointer (some ⟨b11, 0, none⟩)), (.bool true)]) (i := 0) rfl rfl) rfl ?_
  refine send ?_
  refine eseq ?_
  refine HT.yes rfl ?_
  refine HT.seq ?_
  refine HT.plain ?_
  refine sq (St.closed _ _ _ _) (q_assign rfl) rfl ?_
  refine send ?_
  refine eseq ?_
  refine HT.seq ?_
  refine HT.drawn mixed (St.closed _ _ _ _) (St w [] [⟨b11, 170, [some (.slice (cutA A5 c5 0) (n - 0) (c5 - 0)), some (.slice none 0 0), some (.int .u8 (((nb bs 0) / 16 : Nat) : Int)), some (.int .u8 (((nb bs 0) &&& 15 : Nat) : Int)), some (.int .u8 ((nb bs 1 : Nat) : Int)), some (.int .u8 ((nb bs 2 : Nat) : Int)), some (.int .u8 ((nb bs 3 : Nat) : Int)), some (.int .u8 ((nb bs 4 : Nat) : Int)), some (.int .u8 ((nb bs 5 : Nat) : Int)), some (.int .u16 ((bN bs 6 2 : Nat) : Int)), some (.slice AQ (nb bs 3) cQ)], false⟩, ⟨b4, 29, [some (.slice none 0 0), some (.slice none 0 0), some (.slice none 0 0), some (.slice none 0 0)], true⟩, ⟨b50, 29, [none, some (.slice none 0 0), some (.slice none 0 0), some (.slice none 0 0)], true⟩] [Byt A5 n c5 bs, Cel AQ (nb bs 3) cQ 1 (rowX (fun j => [.slice (cutA A5 c5 (8 + (4 * j))) ((8 + (4 * (j + 1))) - (8 + (4 * j))) (c5 - (8 + (4 * j)))]) (nb bs 3))]) ?_
  refine dtake (f := 4) [0, 1, 2, 3, 4, 5, 6, 7, 8, 9, 10, 11, 12, 13, 14, 15, 16, 17, 18, 19, 20, 21, 22, 23, 24, 25, 26, 27, 28, 29, 30, 31, 32, 33, 34, 35, 36, 37, 38, 39, 40] (by kernel_rfl) (St.closed _ _ _ _) (fun _ h => (h.wk [(0, []), (1, []), (2, [0])] rfl)) (by kernel_rfl) ?_
  refine dq rfl (q_move rfl) ?_
  refine dq rfl (q_move rfl) ?_
  refine dq rfl (q_nil rfl) ?_
  refine dq rfl (q_field (b := b11) (off := 0) rfl fo_170_1) ?_
  refine dq rfl (q_load (b := b11) (off := 2) (j := 0) rfl nagg_5 (fun _ h => h) rfl rfl rfl) ?_
  refine dq rfl (q_convn (p := (nb bs 0) / 16) rfl Tryz.underlying5 Tryz.underlying39 (show (nb bs 0) / 16 < 18446744073709551616 by have := nb_lt bs 0; omega)) ?_
  refine dq rfl (q_move rfl) ?_
  refine dq rfl (q_nil rfl) ?_
  refine dq rfl (q_field (b := b11) (off := 0) rfl fo_170_2) ?_
  refine dq rfl (q_load (b := b11) (off := 3) (j := 0) rfl nagg_166 (fun _ h => h) rfl rfl rfl) ?_
  refine dq rfl (q_convn (p := (nb bs 0) &&& 15) rfl Tryz.underlying166 Tryz.underlying39 (show (nb bs 0) &&& 15 < 18446744073709551616 by have := nb_lt bs 0; have := zm15 (nb bs 0); have := Nat.and_le_left (n := nb bs 0) (m := 15); have := Nat.and_le_right (n := nb bs 0) (m := 15); omega)) ?_
  refine dq rfl (q_move rfl) ?_
  refine dq rfl (q_nil rfl) ?_
  refine dq rfl (q_field (b := b11) (off := 0) rfl fo_170_3) ?_
  refine dq rfl (q_load (b := b11) (off := 4) (j := 0) rfl nagg_5 (fun _ h => h) rfl rfl rfl) ?_
  refine dq rfl (q_convn (p := nb bs 1) rfl Tryz.underlying5 Tryz.underlying39 (show nb bs 1 < 18446744073709551616 by have := nb_lt bs 1; omega)) ?_
  refine dq rfl (q_move rfl) ?_
  refine dq rfl (q_nil rfl) ?_
  refine dq rfl (q_field (b := b11) (off := 0) rfl fo_170_4) ?_
  refine dq rfl (q_load (b := b11) (off := 5) (j := 0) rfl nagg_5 (fun _ h => h) rfl rfl rfl) ?_
  refine dq rfl (q_convn (p := nb bs 2) rfl Tryz.underlying5 Tryz.underlying39 (show nb bs 2 < 18446744073709551616 by have := nb_lt bs 2; omega)) ?_
  refine dq rfl (q_move rfl) ?_
  refine dq rfl (q_nil rfl) ?_
  refine dq rfl (q_field (b := b11) (off := 0) rfl fo_170_5) ?_
  refine dq rfl (q_load (b := b11) (off := 6) (j := 0) rfl nagg_5 (fun _ h => h) rfl rfl rfl) ?_
  refine dq rfl (q_convn (p := nb bs 3) rfl Tryz.underlying5 Tryz.underlying39 (show nb bs 3 < 18446744073709551616 by have := nb_lt bs 3; omega)) ?_
  refine dq rfl (q_move rfl) ?_
  refine dq rfl (q_nil rfl) ?_
  refine dq rfl (q_field (b := b11) (off := 0) rfl fo_170_6) ?_
  refine dq rfl (q_load (b := b11) (off := 7) (j := 0) rfl nagg_167 (fun _ h => h) rfl rfl rfl) ?_
  refine dq rfl (q_convn (p := nb bs 4) rfl Tryz.underlying167 Tryz.underlying39 (show nb bs 4 < 18446744073709551616 by have := nb_lt bs 4; omega)) ?_
  refine dq rfl (q_move rfl) ?_
  refine dq rfl (q_nil rfl) ?_
  refine dq rfl (q_field (b := b11) (off := 0) rfl fo_170_7) ?_
  refine dq rfl (q_load (b := b11) (off := 8) (j := 0) rfl nagg_5 (fun _ h => h) rfl rfl rfl) ?_
  refine dq rfl (q_convn (p := nb bs 5) rfl Tryz.underlying5 Tryz.underlying39 (show nb bs 5 < 18446744073709551616 by have := nb_lt bs 5; omega)) ?_
  refine dq rfl (q_move rfl) ?_
  refine dq rfl (q_nil rfl) ?_
  refine dq rfl (q_field (b := b11) (off := 0) rfl fo_170_8) ?_
  refine dq rfl (q_load (b := b11) (off := 9) (j := 0) rfl nagg_70 (fun _ h => h) rfl rfl rfl) ?_
  refine dq rfl (q_convn (p := bN bs 6 2) rfl Tryz.underlying70 Tryz.underlying39 (show bN bs 6 2 < 18446744073709551616 by have := bN_lt bs 6 2 65536 rfl; omega)) ?_
  refine QL.nil ?_
  refine RG.step1 41 (by kernel_rfl) ?_
  refine dop rfl (l_buildSlice (e := 39) (vs := [(0, (.int .u64 (((nb bs 0) / 16 : Nat) : Int))), (1, (.int .u64 (((nb bs 0) &&& 15 : Nat) : Int))), (2, (.int .u64 ((nb bs 1 : Nat) : Int))), (3, (.int .u64 ((nb bs 2 : Nat) : Int))), (4, (.int .u64 ((nb bs 3 : Nat) : Int))), (5, (.int .u64 ((nb bs 4 : Nat) : Int))), (6, (.int .u64 ((nb bs 5 : Nat) : Int))), (7, (.int .u64 ((bN bs 6 2 : Nat) : Int)))]) (cs := [(.int .u64 (((nb bs 0) / 16 : Nat) : Int)), (.int .u64 (((nb bs 0) &&& 15 : Nat) : Int)), (.int .u64 ((nb bs 1 : Nat) : Int)), (.int .u64 ((nb bs 2 : Nat) : Int)), (.int .u64 ((nb bs 3 : Nat) : Int)), (.int .u64 ((nb bs 4 : Nat) : Int)), (.int .u64 ((nb bs 5 : Nat) : Int)), (.int .u64 ((bN bs 6 2 : Nat) : Int))]) (by decide) rfl (fun _ => by kernel_rfl) fun b910 => ⟨(fun _ h => (h.wk [(0, []), (1, []), (2, [0])] rfl)), ?_⟩)
  refine dtake (f := 1) [42, 43] (by kernel_rfl) (St.closed _ _ _ _) (fun _ h => (h.wk [(0, []), (1, []), (2, [0])] rfl)) (by kernel_rfl) ?_
  refine dq rfl (q_nil rfl) ?_
  refine dq rfl (q_field (b := b50) (off := 0) rfl fo_29_0) ?_
  refine QL.nil ?_
  refine RG.step1 44 (by kernel_rfl) ?_
  refine dop rfl (l_store (b := b50) (off := 0) (j := 2) rfl rfl nagg_25 rfl rfl rfl rfl (dlt rfl) ⟨(fun _ h => (h.wk [(0, []), (1, []), (2, [0])] rfl)), ?_⟩)
  refine dend (by kernel_rfl) ?_
  refine eseq ?_
  refine HT.seq ?_
  refine HT.plain ?_
  refine sq (St.closed _ _ _ _) (q_move rfl) rfl ?_
  refine sq (St.closed _ _ _ _) (q_nil rfl) rfl ?_
  refine sq (St.closed _ _ _ _) (q_field (b := b11) (off := 0) rfl fo_170_9) rfl ?_
  refine sq (St.closed _ _ _ _) (q_load (b := b11) (off := 10) (j := 0) rfl nagg_168 (fun _ h => h) rfl rfl rfl) rfl ?_
  refine sq (St.closed _ _ _ _) (q_len (len := nb bs 3) rfl Tryz.underlying168) rfl ?_
  refine sq (St.closed _ _ _ _) (q_move rfl) rfl ?_
  refine send ?_
  refine eseq ?_
  refine HT.block ?_
  refine HT.loop (ι := {p : Nat × Value × List Kb × List (NI × BI) // p.1 ≤ nb bs 3 ∧ RowS 49 2 p.1 (psV p.2.2.2) p.2.1 p.2.2.1 ∧ Told w.heap.size (fun j => ([], sl bs (8 + (4 * j)) (12 + (4 * j)))) p.1 p.2.2.2}) (fun p => [(4, (.pointer (some ⟨b4, 0, none⟩))), (5, (.bool false)), (6, (.pointer (some ⟨b50, 0, none⟩))), (916, (.slice AQ (nb bs 3) cQ)), (917, (.int .i64 ((nb bs 3 : Nat) : Int))), (918, (.int .i64 ((p.1.1 : Nat) : Int)))]) (fun p => St w [] ([⟨b11, 170, [some (.slice (cutA A5 c5 0) (n - 0) (c5 - 0)), some (.slice none 0 0), some (.int .u8 (((nb bs 0) / 16 : Nat) : Int)), some (.int .u8 (((nb bs 0) &&& 15 : Nat) : Int)), some (.int .u8 ((nb bs 1 : Nat) : Int)), some (.int .u8 ((nb bs 2 : Nat) : Int)), some (.int .u8 ((nb bs 3 : Nat) : Int)), some (.int .u8 ((nb bs 4 : Nat) : Int)), some (.int .u8 ((nb bs 5 : Nat) : Int)), some (.int .u16 ((bN bs 6 2 : Nat) : Int)), some (.slice AQ (nb bs 3) cQ)], false⟩, ⟨b4, 29, [some (.slice none 0 0), some (.slice none 0 0), some (.slice none 0 0), some (.slice none 0 0)], true⟩, ⟨b50, 29, [some (.slice (some ⟨b910, 0, none⟩) 8 8), some (.slice none 0 0), some p.1.2.1, some (.slice none 0 0)], true⟩, ⟨b910, 39, [some (.int .u64 (((nb bs 0) / 16 : Nat) : Int)), some (.int .u64 (((nb bs 0) &&& 15 : Nat) : Int)), some (.int .u64 ((nb bs 1 : Nat) : Int)), some (.int .u64 ((nb bs 2 : Nat) : Int)), some (.int .u64 ((nb bs 3 : Nat) : Int)), some (.int .u64 ((nb bs 4 : Nat) : Int)), some (.int .u64 ((nb bs 5 : Nat) : Int)), some (.int .u64 ((bN bs 6 2 : Nat) : Int))], true⟩] ++ p.1.2.2.1) ([Byt A5 n c5 bs, Cel AQ (nb bs 3) cQ 1 (rowX (fun j => [.slice (cutA A5 c5 (8 + (4 * j))) ((8 + (4 * (j + 1))) - (8 + (4 * j))) (c5 - (8 + (4 * j)))]) (nb bs 3))] ++ [psF p.1.2.2.2])) (fun p => nb bs 3 - p.1.1) ⟨(0, .slice none 0 0, [], []), Nat.zero_le _, RowS.nil 49 2, Told.nil _ _⟩ ⟨rfl, rfl, rfl, rfl, rfl, rfl, trivial⟩ (fun _ h => psF_nil h) fun ⟨⟨i, v, Kr, ps⟩, hi, hr, ht⟩ => ?_
  replace hi : i ≤ nb bs 3 := hi
  replace hr : RowS 49 2 i (psV ps) v Kr := hr
  replace ht : Told w.heap.size (fun j => ([], sl bs (8 + (4 * j)) (12 + (4 * j)))) i ps := ht
  refine HT.seq ?_
  refine HT.plain ?_
  refine sq (St.closed _ _ _ _) (q_lt (p := i) (q := nb bs 3) rfl rfl) rfl ?_
  refine send ?_
  refine eseq ?_
  refine HT.seq ?_
  refine condd rfl (fun h1 => ?_) (fun h1 => ?_)
  · refine HT.skip ?_
    refine eseq ?_
    refine HT.seq ?_
    refine HT.block ?_
    refine HT.seq ?_
    refine HT.plain ?_
    refine sq (St.closed _ _ _ _) (q_indexC (i := i) (sz := 1) rfl rfl Tryz.underlying168 size_171 (fun _ h => h.fact (j := 1) rfl) (by decide) (by omega)) rfl ?_
    refine sq (St.closed _ _ _ _) (q_celLoad (i := i * 1) rfl nagg_171 (fun _ h => h.fact (j := 1) rfl) (rowX_get _ _ _ (by omega))) rfl ?_
    refine sq (St.closed _ _ _ _) (q_assign rfl) rfl ?_
    refine send ?_
    refine eseq ?_
    refine HT.drawn mixed (St.closed _ _ _ _) (St w [] [⟨b11, 170, [some (.slice (cutA A5 c5 0) (n - 0) (c5 - 0)), some (.slice none 0 0), some (.int .u8 (((nb bs 0) / 16 : Nat) : Int)), some (.int .u8 (((nb bs 0) &&& 15 : Nat) : Int)), some (.int .u8 ((nb bs 1 : Nat) : Int)), some (.int .u8 ((nb bs 2 : Nat) : Int)), some (.int .u8 ((nb bs 3 : Nat) : Int)), some (.int .u8 ((nb bs 4 : Nat) : Int)), some (.int .u8 ((nb bs 5 : Nat) : Int)), some (.int .u16 ((bN bs 6 2 : Nat) : Int)), some (.slice AQ (nb bs 3) cQ)], false⟩, ⟨b4, 29, [some (.slice none 0 0), some (.slice none 0 0), some (.slice none 0 0), some (.slice none 0 0)], true⟩, ⟨b50, 29, [some (.slice (some ⟨b910, 0, none⟩) 8 8), some (.slice none 0 0), none, some (.slice none 0 0)], true⟩, ⟨b910, 39, [some (.int .u64 (((nb bs 0) / 16 : Nat) : Int)), some (.int .u64 (((nb bs 0) &&& 15 : Nat) : Int)), some (.int .u64 ((nb bs 1 : Nat) : Int)), some (.int .u64 ((nb bs 2 : Nat) : Int)), some (.int .u64 ((nb bs 3 : Nat) : Int)), some (.int .u64 ((nb bs 4 : Nat) : Int)), some (.int .u64 ((nb bs 5 : Nat) : Int)), some (.int .u64 ((bN bs 6 2 : Nat) : Int))], true⟩] [Byt A5 n c5 bs, Cel AQ (nb bs 3) cQ 1 (rowX (fun j => [.slice (cutA A5 c5 (8 + (4 * j))) ((8 + (4 * (j + 1))) - (8 + (4 * j))) (c5 - (8 + (4 * j)))]) (nb bs 3)), psF ps]) ?_
    refine dtake (f := 8) [0, 1, 2, 3, 5] (by kernel_rfl) (St.closed _ _ _ _) (fun _ h => (St.wk (St.untail (K := [⟨b11, 170, [some (.slice (cutA A5 c5 0) (n - 0) (c5 - 0)), some (.slice none 0 0), some (.int .u8 (((nb bs 0) / 16 : Nat) : Int)), some (.int .u8 (((nb bs 0) &&& 15 : Nat) : Int)), some (.int .u8 ((nb bs 1 : Nat) : Int)), some (.int .u8 ((nb bs 2 : Nat) : Int)), some (.int .u8 ((nb bs 3 : Nat) : Int)), some (.int .u8 ((nb bs 4 : Nat) : Int)), some (.int .u8 ((nb bs 5 : Nat) : Int)), some (.int .u16 ((bN bs 6 2 : Nat) : Int)), some (.slice AQ (nb bs 3) cQ)], false⟩, ⟨b4, 29, [some (.slice none 0 0), some (.slice none 0 0), some (.slice none 0 0), some (.slice none 0 0)], true⟩, ⟨b50, 29, [some (.slice (some ⟨b910, 0, none⟩) 8 8), some (.slice none 0 0), some v, some (.slice none 0 0)], true⟩, ⟨b910, 39, [some (.int .u64 (((nb bs 0) / 16 : Nat) : Int)), some (.int .u64 (((nb bs 0) &&& 15 : Nat) : Int)), some (.int .u64 ((nb bs 1 : Nat) : Int)), some (.int .u64 ((nb bs 2 : Nat) : Int)), some (.int .u64 ((nb bs 3 : Nat) : Int)), some (.int .u64 ((nb bs 4 : Nat) : Int)), some (.int .u64 ((nb bs 5 : Nat) : Int)), some (.int .u64 ((bN bs 6 2 : Nat) : Int))], true⟩]) (Kr := Kr) h) [(0, []), (1, []), (2, [2]), (3, [])] rfl)) (by kernel_rfl) ?_
    refine dq rfl (q_move rfl) ?_
    refine dq rfl (q_move rfl) ?_
    refine dq rfl (q_nil rfl) ?_
    refine dq rfl (q_field (b := b50) (off := 0) rfl fo_29_2) ?_
    refine dq rfl (q_move rfl) ?_
    refine QL.nil ?_
    refine RG.step2 4 6 (by kernel_rfl) ?_ ?_
    · refine dop rfl (l_q _ (by simp) (St.closed _ _ _ _) (q_load (b := b50) (off := 2) (j := 2) rfl nagg_27 (fun _ h => h) rfl rfl rfl) ⟨(fun _ h => (St.wk (St.untail (K := [⟨b11, 170, [some (.slice (cutA A5 c5 0) (n - 0) (c5 - 0)), some (.slice none 0 0), some (.int .u8 (((nb bs 0) / 16 : Nat) : Int)), some (.int .u8 (((nb bs 0) &&& 15 : Nat) : Int)), some (.int .u8 ((nb bs 1 : Nat) : Int)), some (.int .u8 ((nb bs 2 : Nat) : Int)), some (.int .u8 ((nb bs 3 : Nat) : Int)), some (.int .u8 ((nb bs 4 : Nat) : Int)), some (.int .u8 ((nb bs 5 : Nat) : Int)), some (.int .u16 ((bN bs 6 2 : Nat) : Int)), some (.slice AQ (nb bs 3) cQ)], false⟩, ⟨b4, 29, [some (.slice none 0 0), some (.slice none 0 0), some (.slice none 0 0), some (.slice none 0 0)], true⟩, ⟨b50, 29, [some (.slice (some ⟨b910, 0, none⟩) 8 8), some (.slice none 0 0), some v, some (.slice none 0 0)], true⟩, ⟨b910, 39, [some (.int .u64 (((nb bs 0) / 16 : Nat) : Int)), some (.int .u64 (((nb bs 0) &&& 15 : Nat) : Int)), some (.int .u64 ((nb bs 1 : Nat) : Int)), some (.int .u64 ((nb bs 2 : Nat) : Int)), some (.int .u64 ((nb bs 3 : Nat) : Int)), some (.int .u64 ((nb bs 4 : Nat) : Int)), some (.int .u64 ((nb bs 5 : Nat) : Int)), some (.int .u64 ((bN bs 6 2 : Nat) : Int))], true⟩]) (Kr := Kr) h) [(0, []), (1, []), (2, [2]), (3, [])] rfl)), ?_⟩)
      refine RG.step1 6 (by kernel_rfl) ?_
      refine dop rfl (l_callT2 (K := [⟨b11, 170, [some (.slice (cutA A5 c5 0) (n - 0) (c5 - 0)), some (.slice none 0 0), some (.int .u8 (((nb bs 0) / 16 : Nat) : Int)), some (.int .u8 (((nb bs 0) &&& 15 : Nat) : Int)), some (.int .u8 ((nb bs 1 : Nat) : Int)), some (.int .u8 ((nb bs 2 : Nat) : Int)), some (.int .u8 ((nb bs 3 : Nat) : Int)), some (.int .u8 ((nb bs 4 : Nat) : Int)), some (.int .u8 ((nb bs 5 : Nat) : Int)), some (.int .u16 ((bN bs 6 2 : Nat) : Int)), some (.slice AQ (nb bs 3) cQ)], false⟩, ⟨b4, 29, [some (.slice none 0 0), some (.slice none 0 0), some (.slice none 0 0), some (.slice none 0 0)], true⟩, ⟨b50, 29, [some (.slice (some ⟨b910, 0, none⟩) 8 8), some (.slice none 0 0), some v, some (.slice none 0 0)], true⟩, ⟨b910, 39, [some (.int .u64 (((nb bs 0) / 16 : Nat) : Int)), some (.int .u64 (((nb bs 0) &&& 15 : Nat) : Int)), some (.int .u64 ((nb bs 1 : Nat) : Int)), some (.int .u64 ((nb bs 2 : Nat) : Int)), some (.int .u64 ((nb bs 3 : Nat) : Int)), some (.int .u64 ((nb bs 4 : Nat) : Int)), some (.int .u64 ((nb bs 5 : Nat) : Int)), some (.int .u64 ((bN bs 6 2 : Nat) : Int))], true⟩]) (Kr := Kr) (vs := [(.slice (cutA A5 c5 (8 + (4 * i))) ((8 + (4 * (i + 1))) - (8 + (4 * i))) (c5 - (8 + (4 * i))))]) (Bc := [Byt (cutA A5 c5 (8 + (4 * i))) ((8 + (4 * (i + 1))) - (8 + (4 * i))) (c5 - (8 + (4 * i))) (sl bs (8 + (4 * i)) (8 + (4 * (i + 1))))]) (Bx := [Byt A5 n c5 bs, Cel AQ (nb bs 3) cQ 1 (rowX (fun j => [.slice (cutA A5 c5 (8 + (4 * j))) ((8 + (4 * (j + 1))) - (8 + (4 * j))) (c5 - (8 + (4 * j)))]) (nb bs 3)), psF ps, Byt (cutA A5 c5 (8 + (4 * i))) ((8 + (4 * (i + 1))) - (8 + (4 * i))) (c5 - (8 + (4 * i))) (sl bs (8 + (4 * i)) (8 + (4 * (i + 1))))]) [3] (fun A5_1 c5_1 => [Byt A5 n c5 bs, Cel AQ (nb bs 3) cQ 1 (rowX (fun j => [.slice (cutA A5 c5 (8 + (4 * j))) ((8 + (4 * (j + 1))) - (8 + (4 * j))) (c5 - (8 + (4 * j)))]) (nb bs 3)), psF ps, Byt A5_1 ((8 + (4 * (i + 1))) - (8 + (4 * i))) c5_1 (sl bs (8 + (4 * i)) (8 + (4 * (i + 1))))]) (by decide) rfl ca_60 (fun _ h => (h.cut (j := 0) (lo := 8 + (4 * i)) (hi := 8 + (4 * (i + 1))) rfl (by have := nb_lt bs 3; have := hi; omega) (by have := nb_lt bs 3; have := hi; omega))) rfl (fun w h => clone w (cutA A5 c5 (8 + (4 * i))) ((8 + (4 * (i + 1))) - (8 + (4 * i))) (c5 - (8 + (4 * i))) (sl bs (8 + (4 * i)) (8 + (4 * (i + 1)))) (by have := nb_lt bs 3; have := hi; omega) h) (fun _ _ => rfl) fun A5_1 c5_1 hf2 he3 => ⟨(fun _ h => (St.selF (St.wk (St.untail (K := [⟨b11, 170, [some (.slice (cutA A5 c5 0) (n - 0) (c5 - 0)), some (.slice none 0 0), some (.int .u8 (((nb bs 0) / 16 : Nat) : Int)), some (.int .u8 (((nb bs 0) &&& 15 : Nat) : Int)), some (.int .u8 ((nb bs 1 : Nat) : Int)), some (.int .u8 ((nb bs 2 : Nat) : Int)), some (.int .u8 ((nb bs 3 : Nat) : Int)), some (.int .u8 ((nb bs 4 : Nat) : Int)), some (.int .u8 ((nb bs 5 : Nat) : Int)), some (.int .u16 ((bN bs 6 2 : Nat) : Int)), some (.slice AQ (nb bs 3) cQ)], false⟩, ⟨b4, 29, [some (.slice none 0 0), some (.slice none 0 0), some (.slice none 0 0), some (.slice none 0 0)], true⟩, ⟨b50, 29, [some (.slice (some ⟨b910, 0, none⟩) 8 8), some (.slice none 0 0), some v, some (.slice none 0 0)], true⟩, ⟨b910, 39, [some (.int .u64 (((nb bs 0) / 16 : Nat) : Int)), some (.int .u64 (((nb bs 0) &&& 15 : Nat) : Int)), some (.int .u64 ((nb bs 1 : Nat) : Int)), some (.int .u64 ((nb bs 2 : Nat) : Int)), some (.int .u64 ((nb bs 3 : Nat) : Int)), some (.int .u64 ((nb bs 4 : Nat) : Int)), some (.int .u64 ((nb bs 5 : Nat) : Int)), some (.int .u64 ((bN bs 6 2 : Nat) : Int))], true⟩]) (Kr := Kr) h) [(0, []), (1, []), (2, [2]), (3, [])] rfl) [0, 1, 2] rfl)), ?_⟩)
      have hnc4 : ((8 + (4 * (i + 1))) - (8 + (4 * i))) ≤ c5_1 := by obtain ⟨w, h⟩ := he3; exact (h _ List.mem_cons_self).2.1
      refine dtake (f := 5) [7] (by kernel_rfl) (St.closed _ _ _ _) (fun _ h => (St.selF (St.wk (St.untail (K := [⟨b11, 170, [some (.slice (cutA A5 c5 0) (n - 0) (c5 - 0)), some (.slice none 0 0), some (.int .u8 (((nb bs 0) / 16 : Nat) : Int)), some (.int .u8 (((nb bs 0) &&& 15 : Nat) : Int)), some (.int .u8 ((nb bs 1 : Nat) : Int)), some (.int .u8 ((nb bs 2 : Nat) : Int)), some (.int .u8 ((nb bs 3 : Nat) : Int)), some (.int .u8 ((nb bs 4 : Nat) : Int)), some (.int .u8 ((nb bs 5 : Nat) : Int)), some (.int .u16 ((bN bs 6 2 : Nat) : Int)), some (.slice AQ (nb bs 3) cQ)], false⟩, ⟨b4, 29, [some (.slice none 0 0), some (.slice none 0 0), some (.slice none 0 0), some (.slice none 0 0)], true⟩, ⟨b50, 29, [some (.slice (some ⟨b910, 0, none⟩) 8 8), some (.slice none 0 0), some v, some (.slice none 0 0)], true⟩, ⟨b910, 39, [some (.int .u64 (((nb bs 0) / 16 : Nat) : Int)), some (.int .u64 (((nb bs 0) &&& 15 : Nat) : Int)), some (.int .u64 ((nb bs 1 : Nat) : Int)), some (.int .u64 ((nb bs 2 : Nat) : Int)), some (.int .u64 ((nb bs 3 : Nat) : Int)), some (.int .u64 ((nb bs 4 : Nat) : Int)), some (.int .u64 ((nb bs 5 : Nat) : Int)), some (.int .u64 ((bN bs 6 2 : Nat) : Int))], true⟩]) (Kr := Kr) h) [(0, []), (1, []), (2, [2]), (3, [])] rfl) [0, 1, 2] rfl)) (by kernel_rfl) ?_
      refine dq rfl (q_build (vs := [(1, (.slice A5_1 ((8 + (4 * (i + 1))) - (8 + (4 * i))) c5_1))]) (v := (.agg #[(.slice none 0 0), (.slice A5_1 ((8 + (4 * (i + 1))) - (8 + (4 * i))) c5_1)])) rfl (fun _ => by kernel_rfl)) ?_
      refine QL.nil ?_
      refine RG.step1 8 (by kernel_rfl) ?_
      refine dop rfl (l_buildSliceT (K := [⟨b11, 170, [some (.slice (cutA A5 c5 0) (n - 0) (c5 - 0)), some (.slice none 0 0), some (.int .u8 (((nb bs 0) / 16 : Nat) : Int)), some (.int .u8 (((nb bs 0) &&& 15 : Nat) : Int)), some (.int .u8 ((nb bs 1 : Nat) : Int)), some (.int .u8 ((nb bs 2 : Nat) : Int)), some (.int .u8 ((nb bs 3 : Nat) : Int)), some (.int .u8 ((nb bs 4 : Nat) : Int)), some (.int .u8 ((nb bs 5 : Nat) : Int)), some (.int .u16 ((bN bs 6 2 : Nat) : Int)), some (.slice AQ (nb bs 3) cQ)], false⟩, ⟨b4, 29, [some (.slice none 0 0), some (.slice none 0 0), some (.slice none 0 0), some (.slice none 0 0)], true⟩, ⟨b50, 29, [some (.slice (some ⟨b910, 0, none⟩) 8 8), some (.slice none 0 0), some v, some (.slice none 0 0)], true⟩, ⟨b910, 39, [some (.int .u64 (((nb bs 0) / 16 : Nat) : Int)), some (.int .u64 (((nb bs 0) &&& 15 : Nat) : Int)), some (.int .u64 ((nb bs 1 : Nat) : Int)), some (.int .u64 ((nb bs 2 : Nat) : Int)), some (.int .u64 ((nb bs 3 : Nat) : Int)), some (.int .u64 ((nb bs 4 : Nat) : Int)), some (.int .u64 ((nb bs 5 : Nat) : Int)), some (.int .u64 ((bN bs 6 2 : Nat) : Int))], true⟩]) (Kr := Kr) (e := 49) (vs := [(0, (.agg #[(.slice none 0 0), (.slice A5_1 ((8 + (4 * (i + 1))) - (8 + (4 * i))) c5_1)]))]) (cs := [(.slice none 0 0), (.slice A5_1 ((8 + (4 * (i + 1))) - (8 + (4 * i))) c5_1)]) (by decide) rfl (fun _ => by kernel_rfl) fun b930 => ⟨(fun _ h => (St.selF (St.wk (St.untail (K := [⟨b11, 170, [some (.slice (cutA A5 c5 0) (n - 0) (c5 - 0)), some (.slice none 0 0), some (.int .u8 (((nb bs 0) / 16 : Nat) : Int)), some (.int .u8 (((nb bs 0) &&& 15 : Nat) : Int)), some (.int .u8 ((nb bs 1 : Nat) : Int)), some (.int .u8 ((nb bs 2 : Nat) : Int)), some (.int .u8 ((nb bs 3 : Nat) : Int)), some (.int .u8 ((nb bs 4 : Nat) : Int)), some (.int .u8 ((nb bs 5 : Nat) : Int)), some (.int .u16 ((bN bs 6 2 : Nat) : Int)), some (.slice AQ (nb bs 3) cQ)], false⟩, ⟨b4, 29, [some (.slice none 0 0), some (.slice none 0 0), some (.slice none 0 0), some (.slice none 0 0)], true⟩, ⟨b50, 29, [some (.slice (some ⟨b910, 0, none⟩) 8 8), some (.slice none 0 0), some v, some (.slice none 0 0)], true⟩, ⟨b910, 39, [some (.int .u64 (((nb bs 0) / 16 : Nat) : Int)), some (.int .u64 (((nb bs 0) &&& 15 : Nat) : Int)), some (.int .u64 ((nb bs 1 : Nat) : Int)), some (.int .u64 ((nb bs 2 : Nat) : Int)), some (.int .u64 ((nb bs 3 : Nat) : Int)), some (.int .u64 ((nb bs 4 : Nat) : Int)), some (.int .u64 ((nb bs 5 : Nat) : Int)), some (.int .u64 ((bN bs 6 2 : Nat) : Int))], true⟩, ⟨b930, 49, [some (.slice none 0 0), some (.slice A5_1 ((8 + (4 * (i + 1))) - (8 + (4 * i))) c5_1)], true⟩]) (Kr := Kr) h) [(0, []), (1, []), (2, [2]), (3, [])] rfl) [0, 1, 2] rfl)), ?_⟩)
      refine RG.step1 9 (by kernel_rfl) ?_
      refine dop rfl (l_appendR (K0 := [⟨b11, 170, [some (.slice (cutA A5 c5 0) (n - 0) (c5 - 0)), some (.slice none 0 0), some (.int .u8 (((nb bs 0) / 16 : Nat) : Int)), some (.int .u8 (((nb bs 0) &&& 15 : Nat) : Int)), some (.int .u8 ((nb bs 1 : Nat) : Int)), some (.int .u8 ((nb bs 2 : Nat) : Int)), some (.int .u8 ((nb bs 3 : Nat) : Int)), some (.int .u8 ((nb bs 4 : Nat) : Int)), some (.int .u8 ((nb bs 5 : Nat) : Int)), some (.int .u16 ((bN bs 6 2 : Nat) : Int)), some (.slice AQ (nb bs 3) cQ)], false⟩, ⟨b4, 29, [some (.slice none 0 0), some (.slice none 0 0), some (.slice none 0 0), some (.slice none 0 0)], true⟩, ⟨b50, 29, [some (.slice (some ⟨b910, 0, none⟩) 8 8), some (.slice none 0 0), some v, some (.slice none 0 0)], true⟩, ⟨b910, 39, [some (.int .u64 (((nb bs 0) / 16 : Nat) : Int)), some (.int .u64 (((nb bs 0) &&& 15 : Nat) : Int)), some (.int .u64 ((nb bs 1 : Nat) : Int)), some (.int .u64 ((nb bs 2 : Nat) : Int)), some (.int .u64 ((nb bs 3 : Nat) : Int)), some (.int .u64 ((nb bs 4 : Nat) : Int)), some (.int .u64 ((nb bs 5 : Nat) : Int)), some (.int .u64 ((bN bs 6 2 : Nat) : Int))], true⟩, ⟨b930, 49, [some (.slice none 0 0), some (.slice A5_1 ((8 + (4 * (i + 1))) - (8 + (4 * i))) c5_1)], true⟩]) (Kr := Kr) (k := i) (xs := (psV ps)) (jq := 4) (news := [(.slice none 0 0), (.slice A5_1 ((8 + (4 * (i + 1))) - (8 + (4 * i))) c5_1)]) (by decide) rfl rfl Tryz.underlying27 rowT_49 (by decide) hr (by have := nb_lt bs 3; omega) rfl rfl (by simp [Value.one1]) fun v931 Kr931 hr931 => ⟨(fun _ h => (St.selF (St.wk (St.untail (K := [⟨b11, 170, [some (.slice (cutA A5 c5 0) (n - 0) (c5 - 0)), some (.slice none 0 0), some (.int .u8 (((nb bs 0) / 16 : Nat) : Int)), some (.int .u8 (((nb bs 0) &&& 15 : Nat) : Int)), some (.int .u8 ((nb bs 1 : Nat) : Int)), some (.int .u8 ((nb bs 2 : Nat) : Int)), some (.int .u8 ((nb bs 3 : Nat) : Int)), some (.int .u8 ((nb bs 4 : Nat) : Int)), some (.int .u8 ((nb bs 5 : Nat) : Int)), some (.int .u16 ((bN bs 6 2 : Nat) : Int)), some (.slice AQ (nb bs 3) cQ)], false⟩, ⟨b4, 29, [some (.slice none 0 0), some (.slice none 0 0), some (.slice none 0 0), some (.slice none 0 0)], true⟩, ⟨b50, 29, [some (.slice (some ⟨b910, 0, none⟩) 8 8), some (.slice none 0 0), some v, some (.slice none 0 0)], true⟩, ⟨b910, 39, [some (.int .u64 (((nb bs 0) / 16 : Nat) : Int)), some (.int .u64 (((nb bs 0) &&& 15 : Nat) : Int)), some (.int .u64 ((nb bs 1 : Nat) : Int)), some (.int .u64 ((nb bs 2 : Nat) : Int)), some (.int .u64 ((nb bs 3 : Nat) : Int)), some (.int .u64 ((nb bs 4 : Nat) : Int)), some (.int .u64 ((nb bs 5 : Nat) : Int)), some (.int .u64 ((bN bs 6 2 : Nat) : Int))], true⟩, ⟨b930, 49, [some (.slice none 0 0), some (.slice A5_1 ((8 + (4 * (i + 1))) - (8 + (4 * i))) c5_1)], true⟩]) (Kr := Kr931) h) [(0, []), (1, []), (2, [2]), (3, [])] rfl) [0, 1, 2] rfl)), ?_⟩)
      refine dtake (f := 1) [10, 11] (by kernel_rfl) (St.closed _ _ _ _) (fun _ h => (St.selF (St.wk (St.untail (K := [⟨b11, 170, [some (.slice (cutA A5 c5 0) (n - 0) (c5 - 0)), some (.slice none 0 0), some (.int .u8 (((nb bs 0) / 16 : Nat) : Int)), some (.int .u8 (((nb bs 0) &&& 15 : Nat) : Int)), some (.int .u8 ((nb bs 1 : Nat) : Int)), some (.int .u8 ((nb bs 2 : Nat) : Int)), some (.int .u8 ((nb bs 3 : Nat) : Int)), some (.int .u8 ((nb bs 4 : Nat) : Int)), some (.int .u8 ((nb bs 5 : Nat) : Int)), some (.int .u16 ((bN bs 6 2 : Nat) : Int)), some (.slice AQ (nb bs 3) cQ)], false⟩, ⟨b4, 29, [some (.slice none 0 0), some (.slice none 0 0), some (.slice none 0 0), some (.slice none 0 0)], true⟩, ⟨b50, 29, [some (.slice (some ⟨b910, 0, none⟩) 8 8), some (.slice none 0 0), some v, some (.slice none 0 0)], true⟩, ⟨b910, 39, [some (.int .u64 (((nb bs 0) / 16 : Nat) : Int)), some (.int .u64 (((nb bs 0) &&& 15 : Nat) : Int)), some (.int .u64 ((nb bs 1 : Nat) : Int)), some (.int .u64 ((nb bs 2 : Nat) : Int)), some (.int .u64 ((nb bs 3 : Nat) : Int)), some (.int .u64 ((nb bs 4 : Nat) : Int)), some (.int .u64 ((nb bs 5 : Nat) : Int)), some (.int .u64 ((bN bs 6 2 : Nat) : Int))], true⟩, ⟨b930, 49, [some (.slice none 0 0), some (.slice A5_1 ((8 + (4 * (i + 1))) - (8 + (4 * i))) c5_1)], true⟩]) (Kr := Kr931) h) [(0, []), (1, []), (2, [2]), (3, [])] rfl) [0, 1, 2] rfl)) (by kernel_rfl) ?_
      refine dq rfl (q_nil rfl) ?_
      refine dq rfl (q_field (b := b50) (off := 0) rfl fo_29_2) ?_
      refine QL.nil ?_
      refine RG.step1 12 (by kernel_rfl) ?_
      refine dop rfl (l_store (b := b50) (off := 2) (j := 2) rfl rfl nagg_27 hr931.one rfl rfl rfl (dlt rfl) ⟨(fun _ h => (St.selF (St.wk (St.untail (K := [⟨b11, 170, [some (.slice (cutA A5 c5 0) (n - 0) (c5 - 0)), some (.slice none 0 0), some (.int .u8 (((nb bs 0) / 16 : Nat) : Int)), some (.int .u8 (((nb bs 0) &&& 15 : Nat) : Int)), some (.int .u8 ((nb bs 1 : Nat) : Int)), some (.int .u8 ((nb bs 2 : Nat) : Int)), some (.int .u8 ((nb bs 3 : Nat) : Int)), some (.int .u8 ((nb bs 4 : Nat) : Int)), some (.int .u8 ((nb bs 5 : Nat) : Int)), some (.int .u16 ((bN bs 6 2 : Nat) : Int)), some (.slice AQ (nb bs 3) cQ)], false⟩, ⟨b4, 29, [some (.slice none 0 0), some (.slice none 0 0), some (.slice none 0 0), some (.slice none 0 0)], true⟩, ⟨b50, 29, [some (.slice (some ⟨b910, 0, none⟩) 8 8), some (.slice none 0 0), some v931, some (.slice none 0 0)], true⟩, ⟨b910, 39, [some (.int .u64 (((nb bs 0) / 16 : Nat) : Int)), some (.int .u64 (((nb bs 0) &&& 15 : Nat) : Int)), some (.int .u64 ((nb bs 1 : Nat) : Int)), some (.int .u64 ((nb bs 2 : Nat) : Int)), some (.int .u64 ((nb bs 3 : Nat) : Int)), some (.int .u64 ((nb bs 4 : Nat) : Int)), some (.int .u64 ((nb bs 5 : Nat) : Int)), some (.int .u64 ((bN bs 6 2 : Nat) : Int))], true⟩, ⟨b930, 49, [some (.slice none 0 0), some (.slice A5_1 ((8 + (4 * (i + 1))) - (8 + (4 * i))) c5_1)], true⟩]) (Kr := Kr931) h) [(0, []), (1, []), (2, [2]), (3, [])] rfl) [0, 1, 2] rfl)), ?_⟩)
      refine dend (by kernel_rfl) ?_
      refine ein ?_
      refine eseq ?_
      refine HT.norm ([⟨b11, 170, [some (.slice (cutA A5 c5 0) (n - 0) (c5 - 0)), some (.slice none 0 0), some (.int .u8 (((nb bs 0) / 16 : Nat) : Int)), some (.int .u8 (((nb bs 0) &&& 15 : Nat) : Int)), some (.int .u8 ((nb bs 1 : Nat) : Int)), some (.int .u8 ((nb bs 2 : Nat) : Int)), some (.int .u8 ((nb bs 3 : Nat) : Int)), some (.int .u8 ((nb bs 4 : Nat) : Int)), some (.int .u8 ((nb bs 5 : Nat) : Int)), some (.int .u16 ((bN bs 6 2 : Nat) : Int)), some (.slice AQ (nb bs 3) cQ)], false⟩, ⟨b4, 29, [some (.slice none 0 0), some (.slice none 0 0), some (.slice none 0 0), some (.slice none 0 0)], true⟩, ⟨b50, 29, [some (.slice (some ⟨b910, 0, none⟩) 8 8), some (.slice none 0 0), some v931, some (.slice none 0 0)], true⟩, ⟨b910, 39, [some (.int .u64 (((nb bs 0) / 16 : Nat) : Int)), some (.int .u64 (((nb bs 0) &&& 15 : Nat) : Int)), some (.int .u64 ((nb bs 1 : Nat) : Int)), some (.int .u64 ((nb bs 2 : Nat) : Int)), some (.int .u64 ((nb bs 3 : Nat) : Int)), some (.int .u64 ((nb bs 4 : Nat) : Int)), some (.int .u64 ((nb bs 5 : Nat) : Int)), some (.int .u64 ((bN bs 6 2 : Nat) : Int))], true⟩, ⟨b930, 49, [some (.slice none 0 0), some (.slice A5_1 ((8 + (4 * (i + 1))) - (8 + (4 * i))) c5_1)], true⟩] ++ Kr931) [Byt A5 n c5 bs, Cel AQ (nb bs 3) cQ 1 (rowX (fun j => [.slice (cutA A5 c5 (8 + (4 * j))) ((8 + (4 * (j + 1))) - (8 + (4 * j))) (c5 - (8 + (4 * j)))]) (nb bs 3)), psF ps, Byt A5_1 ((8 + (4 * (i + 1))) - (8 + (4 * i))) c5_1 (sl bs (8 + (4 * i)) (8 + (4 * (i + 1))))] rfl rfl ?_
      refine HT.plain ?_
      refine sq (St.closed _ _ _ _) (q_add (p := i) (q := 1) rfl rfl (show i + 1 < 9223372036854775808 by have := nb_lt bs 3; have := hi; omega)) rfl ?_
      refine sq (St.closed _ _ _ _) (q_move rfl) rfl ?_
      refine send ?_
      exact eround ⟨(i + 1, v931, Kr931, ps ++ [(ni0, ⟨A5_1, ((8 + (4 * (i + 1))) - (8 + (4 * i))), c5_1, (sl bs (8 + (4 * i)) (8 + (4 * (i + 1))))⟩)]), by show i + 1 ≤ nb bs 3; omega, (by rw [psV_snoc]; exact hr931), ht.succ (ni0, ⟨A5_1, ((8 + (4 * (i + 1))) - (8 + (4 * i))), c5_1, (sl bs (8 + (4 * i)) (8 + (4 * (i + 1))))⟩) (by show ([], sl bs _ _) = ([], sl bs _ _); congr 2; omega) (fun x hx => absurd rfl hx.1) ((hf2 _ List.mem_cons_self))⟩ (show nb bs 3 - (i + 1) < nb bs 3 - i by omega) ⟨rfl, rfl, rfl, rfl, rfl, rfl, trivial⟩ (fun _ h => St.psF_snoc0 (b := ⟨A5_1, ((8 + (4 * (i + 1))) - (8 + (4 * i))), c5_1, (sl bs (8 + (4 * i)) (8 + (4 * (i + 1))))⟩) (St.drop (X := [⟨b11, 170, [some (.slice (cutA A5 c5 0) (n - 0) (c5 - 0)), some (.slice none 0 0), some (.int .u8 (((nb bs 0) / 16 : Nat) : Int)), some (.int .u8 (((nb bs 0) &&& 15 : Nat) : Int)), some (.int .u8 ((nb bs 1 : Nat) : Int)), some (.int .u8 ((nb bs 2 : Nat) : Int)), some (.int .u8 ((nb bs 3 : Nat) : Int)), some (.int .u8 ((nb bs 4 : Nat) : Int)), some (.int .u8 ((nb bs 5 : Nat) : Int)), some (.int .u16 ((bN bs 6 2 : Nat) : Int)), some (.slice AQ (nb bs 3) cQ)], false⟩, ⟨b4, 29, [some (.slice none 0 0), some (.slice none 0 0), some (.slice none 0 0), some (.slice none 0 0)], true⟩, ⟨b50, 29, [some (.slice (some ⟨b910, 0, none⟩) 8 8), some (.slice none 0 0), some v931, some (.slice none 0 0)], true⟩, ⟨b910, 39, [some (.int .u64 (((nb bs 0) / 16 : Nat) : Int)), some (.int .u64 (((nb bs 0) &&& 15 : Nat) : Int)), some (.int .u64 ((nb bs 1 : Nat) : Int)), some (.int .u64 ((nb bs 2 : Nat) : Int)), some (.int .u64 ((nb bs 3 : Nat) : Int)), some (.int .u64 ((nb bs 4 : Nat) : Int)), some (.int .u64 ((nb bs 5 : Nat) : Int)), some (.int .u64 ((bN bs 6 2 : Nat) : Int))], true⟩]) (Y := [⟨b930, 49, [some (.slice none 0 0), some (.slice A5_1 ((8 + (4 * (i + 1))) - (8 + (4 * i))) c5_1)], true⟩]) (Z := Kr931) h))
    · refine dop rfl (l_callT2 (K := [⟨b11, 170, [some (.slice (cutA A5 c5 0) (n - 0) (c5 - 0)), some (.slice none 0 0), some (.int .u8 (((nb bs 0) / 16 : Nat) : Int)), some (.int .u8 (((nb bs 0) &&& 15 : Nat) : Int)), some (.int .u8 ((nb bs 1 : Nat) : Int)), some (.int .u8 ((nb bs 2 : Nat) : Int)), some (.int .u8 ((nb bs 3 : Nat) : Int)), some (.int .u8 ((nb bs 4 : Nat) : Int)), some (.int .u8 ((nb bs 5 : Nat) : Int)), some (.int .u16 ((bN bs 6 2 : Nat) : Int)), some (.slice AQ (nb bs 3) cQ)], false⟩, ⟨b4, 29, [some (.slice none 0 0), some (.slice none 0 0), some (.slice none 0 0), some (.slice none 0 0)], true⟩, ⟨b50, 29, [some (.slice (some ⟨b910, 0, none⟩) 8 8), some (.slice none 0 0), some v, some (.slice none 0 0)], true⟩, ⟨b910, 39, [some (.int .u64 (((nb bs 0) / 16 : Nat) : Int)), some (.int .u64 (((nb bs 0) &&& 15 : Nat) : Int)), some (.int .u64 ((nb bs 1 : Nat) : Int)), some (.int .u64 ((nb bs 2 : Nat) : Int)), some (.int .u64 ((nb bs 3 : Nat) : Int)), some (.int .u64 ((nb bs 4 : Nat) : Int)), some (.int .u64 ((nb bs 5 : Nat) : Int)), some (.int .u64 ((bN bs 6 2 : Nat) : Int))], true⟩]) (Kr := Kr) (vs := [(.slice (cutA A5 c5 (8 + (4 * i))) ((8 + (4 * (i + 1))) - (8 + (4 * i))) (c5 - (8 + (4 * i))))]) (Bc := [Byt (cutA A5 c5 (8 + (4 * i))) ((8 + (4 * (i + 1))) - (8 + (4 * i))) (c5 - (8 + (4 * i))) (sl bs (8 + (4 * i)) (8 + (4 * (i + 1))))]) (Bx := [Byt A5 n c5 bs, Cel AQ (nb bs 3) cQ 1 (rowX (fun j => [.slice (cutA A5 c5 (8 + (4 * j))) ((8 + (4 * (j + 1))) - (8 + (4 * j))) (c5 - (8 + (4 * j)))]) (nb bs 3)), psF ps, Byt (cutA A5 c5 (8 + (4 * i))) ((8 + (4 * (i + 1))) - (8 + (4 * i))) (c5 - (8 + (4 * i))) (sl bs (8 + (4 * i)) (8 + (4 * (i + 1))))]) [3] (fun A5_1 c5_1 => [Byt A5 n c5 bs, Cel AQ (nb bs 3) cQ 1 (rowX (fun j => [.slice (cutA A5 c5 (8 + (4 * j))) ((8 + (4 * (j + 1))) - (8 + (4 * j))) (c5 - (8 + (4 * j)))]) (nb bs 3)), psF ps, Byt A5_1 ((8 + (4 * (i + 1))) - (8 + (4 * i))) c5_1 (sl bs (8 + (4 * i)) (8 + (4 * (i + 1))))]) (by decide) rfl ca_60 (fun _ h => (h.cut (j := 0) (lo := 8 + (4 * i)) (hi := 8 + (4 * (i + 1))) rfl (by have := nb_lt bs 3; have := hi; omega) (by have := nb_lt bs 3; have := hi; omega))) rfl (fun w h => clone w (cutA A5 c5 (8 + (4 * i))) ((8 + (4 * (i + 1))) - (8 + (4 * i))) (c5 - (8 + (4 * i))) (sl bs (8 + (4 * i)) (8 + (4 * (i + 1)))) (by have := nb_lt bs 3; have := hi; omega) h) (fun _ _ => rfl) fun A5_1 c5_1 hf5 he6 => ⟨(fun _ h => (St.selF (St.wk (St.untail (K := [⟨b11, 170, [some (.slice (cutA A5 c5 0) (n - 0) (c5 - 0)), some (.slice none 0 0), some (.int .u8 (((nb bs 0) / 16 : Nat) : Int)), some (.int .u8 (((nb bs 0) &&& 15 : Nat) : Int)), some (.int .u8 ((nb bs 1 : Nat) : Int)), some (.int .u8 ((nb bs 2 : Nat) : Int)), some (.int .u8 ((nb bs 3 : Nat) : Int)), some (.int .u8 ((nb bs 4 : Nat) : Int)), some (.int .u8 ((nb bs 5 : Nat) : Int)), some (.int .u16 ((bN bs 6 2 : Nat) : Int)), some (.slice AQ (nb bs 3) cQ)], false⟩, ⟨b4, 29, [some (.slice none 0 0), some (.slice none 0 0), some (.slice none 0 0), some (.slice none 0 0)], true⟩, ⟨b50, 29, [some (.slice (some ⟨b910, 0, none⟩) 8 8), some (.slice none 0 0), some v, some (.slice none 0 0)], true⟩, ⟨b910, 39, [some (.int .u64 (((nb bs 0) / 16 : Nat) : Int)), some (.int .u64 (((nb bs 0) &&& 15 : Nat) : Int)), some (.int .u64 ((nb bs 1 : Nat) : Int)), some (.int .u64 ((nb bs 2 : Nat) : Int)), some (.int .u64 ((nb bs 3 : Nat) : Int)), some (.int .u64 ((nb bs 4 : Nat) : Int)), some (.int .u64 ((nb bs 5 : Nat) : Int)), some (.int .u64 ((bN bs 6 2 : Nat) : Int))], true⟩]) (Kr := Kr) h) [(0, []), (1, []), (2, [2]), (3, [])] rfl) [0, 1, 2] rfl)), ?_⟩)
      have hnc7 : ((8 + (4 * (i + 1))) - (8 + (4 * i))) ≤ c5_1 := by obtain ⟨w, h⟩ := he6; exact (h _ List.mem_cons_self).2.1
      refine dtake (f := 6) [7] (by kernel_rfl) (St.closed _ _ _ _) (fun _ h => (St.selF (St.wk (St.untail (K := [⟨b11, 170, [some (.slice (cutA A5 c5 0) (n - 0) (c5 - 0)), some (.slice none 0 0), some (.int .u8 (((nb bs 0) / 16 : Nat) : Int)), some (.int .u8 (((nb bs 0) &&& 15 : Nat) : Int)), some (.int .u8 ((nb bs 1 : Nat) : Int)), some (.int .u8 ((nb bs 2 : Nat) : Int)), some (.int .u8 ((nb bs 3 : Nat) : Int)), some (.int .u8 ((nb bs 4 : Nat) : Int)), some (.int .u8 ((nb bs 5 : Nat) : Int)), some (.int .u16 ((bN bs 6 2 : Nat) : Int)), some (.slice AQ (nb bs 3) cQ)], false⟩, ⟨b4, 29, [some (.slice none 0 0), some (.slice none 0 0), some (.slice none 0 0), some (.slice none 0 0)], true⟩, ⟨b50, 29, [some (.slice (some ⟨b910, 0, none⟩) 8 8), some (.slice none 0 0), some v, some (.slice none 0 0)], true⟩, ⟨b910, 39, [some (.int .u64 (((nb bs 0) / 16 : Nat) : Int)), some (.int .u64 (((nb bs 0) &&& 15 : Nat) : Int)), some (.int .u64 ((nb bs 1 : Nat) : Int)), some (.int .u64 ((nb bs 2 : Nat) : Int)), some (.int .u64 ((nb bs 3 : Nat) : Int)), some (.int .u64 ((nb bs 4 : Nat) : Int)), some (.int .u64 ((nb bs 5 : Nat) : Int)), some (.int .u64 ((bN bs 6 2 : Nat) : Int))], true⟩]) (Kr := Kr) h) [(0, []), (1, []), (2, [2]), (3, [])] rfl) [0, 1, 2] rfl)) (by kernel_rfl) ?_
      refine dq rfl (q_build (vs := [(1, (.slice A5_1 ((8 + (4 * (i + 1))) - (8 + (4 * i))) c5_1))]) (v := (.agg #[(.slice none 0 0), (.slice A5_1 ((8 + (4 * (i + 1))) - (8 + (4 * i))) c5_1)])) rfl (fun _ => by kernel_rfl)) ?_
      refine QL.nil ?_
      refine RG.step2 4 8 (by kernel_rfl) ?_ ?_
      · refine dop rfl (l_q _ (by simp) (St.closed _ _ _ _) (q_load (b := b50) (off := 2) (j := 2) rfl nagg_27 (fun _ h => h) rfl rfl rfl) ⟨(fun _ h => (St.selF (St.wk (St.untail (K := [⟨b11, 170, [some (.slice (cutA A5 c5 0) (n - 0) (c5 - 0)), some (.slice none 0 0), some (.int .u8 (((nb bs 0) / 16 : Nat) : Int)), some (.int .u8 (((nb bs 0) &&& 15 : Nat) : Int)), some (.int .u8 ((nb bs 1 : Nat) : Int)), some (.int .u8 ((nb bs 2 : Nat) : Int)), some (.int .u8 ((nb bs 3 : Nat) : Int)), some (.int .u8 ((nb bs 4 : Nat) : Int)), some (.int .u8 ((nb bs 5 : Nat) : Int)), some (.int .u16 ((bN bs 6 2 : Nat) : Int)), some (.slice AQ (nb bs 3) cQ)], false⟩, ⟨b4, 29, [some (.slice none 0 0), some (.slice none 0 0), some (.slice none 0 0), some (.slice none 0 0)], true⟩, ⟨b50, 29, [some (.slice (some ⟨b910, 0, none⟩) 8 8), some (.slice none 0 0), some v, some (.slice none 0 0)], true⟩, ⟨b910, 39, [some (.int .u64 (((nb bs 0) / 16 : Nat) : Int)), some (.int .u64 (((nb bs 0) &&& 15 : Nat) : Int)), some (.int .u64 ((nb bs 1 : Nat) : Int)), some (.int .u64 ((nb bs 2 : Nat) : Int)), some (.int .u64 ((nb bs 3 : Nat) : Int)), some (.int .u64 ((nb bs 4 : Nat) : Int)), some (.int .u64 ((nb bs 5 : Nat) : Int)), some (.int .u64 ((bN bs 6 2 : Nat) : Int))], true⟩]) (Kr := Kr) h) [(0, []), (1, []), (2, [2]), (3, [])] rfl) [0, 1, 2] rfl)), ?_⟩)
        refine RG.step1 8 (by kernel_rfl) ?_
        refine dop rfl (l_buildSliceT (K := [⟨b11, 170, [some (.slice (cutA A5 c5 0) (n - 0) (c5 - 0)), some (.slice none 0 0), some (.int .u8 (((nb bs 0) / 16 : Nat) : Int)), some (.int .u8 (((nb bs 0) &&& 15 : Nat) : Int)), some (.int .u8 ((nb bs 1 : Nat) : Int)), some (.int .u8 ((nb bs 2 : Nat) : Int)), some (.int .u8 ((nb bs 3 : Nat) : Int)), some (.int .u8 ((nb bs 4 : Nat) : Int)), some (.int .u8 ((nb bs 5 : Nat) : Int)), some (.int .u16 ((bN bs 6 2 : Nat) : Int)), some (.slice AQ (nb bs 3) cQ)], false⟩, ⟨b4, 29, [some (.slice none 0 0), some (.slice none 0 0), some (.slice none 0 0), some (.slice none 0 0)], true⟩, ⟨b50, 29, [some (.slice (some ⟨b910, 0, none⟩) 8 8), some (.slice none 0 0), some v, some (.slice none 0 0)], true⟩, ⟨b910, 39, [some (.int .u64 (((nb bs 0) / 16 : Nat) : Int)), some (.int .u64 (((nb bs 0) &&& 15 : Nat) : Int)), some (.int .u64 ((nb bs 1 : Nat) : Int)), some (.int .u64 ((nb bs 2 : Nat) : Int)), some (.int .u64 ((nb bs 3 : Nat) : Int)), some (.int .u64 ((nb bs 4 : Nat) : Int)), some (.int .u64 ((nb bs 5 : Nat) : Int)), some (.int .u64 ((bN bs 6 2 : Nat) : Int))], true⟩]) (Kr := Kr) (e := 49) (vs := [(0, (.agg #[(.slice none 0 0), (.slice A5_1 ((8 + (4 * (i + 1))) - (8 + (4 * i))) c5_1)]))]) (cs := [(.slice none 0 0), (.slice A5_1 ((8 + (4 * (i + 1))) - (8 + (4 * i))) c5_1)]) (by decide) rfl (fun _ => by kernel_rfl) fun b930 => ⟨(fun _ h => (St.selF (St.wk (St.untail (K := [⟨b11, 170, [some (.slice (cutA A5 c5 0) (n - 0) (c5 - 0)), some (.slice none 0 0), some (.int .u8 (((nb bs 0) / 16 : Nat) : Int)), some (.int .u8 (((nb bs 0) &&& 15 : Nat) : Int)), some (.int .u8 ((nb bs 1 : Nat) : Int)), some (.int .u8 ((nb bs 2 : Nat) : Int)), some (.int .u8 ((nb bs 3 : Nat) : Int)), some (.int .u8 ((nb bs 4 : Nat) : Int)), some (.int .u8 ((nb bs 5 : Nat) : Int)), some (.int .u16 ((bN bs 6 2 : Nat) : Int)), some (.slice AQ (nb bs 3) cQ)], false⟩, ⟨b4, 29, [some (.slice none 0 0), some (.slice none 0 0), some (.slice none 0 0), some (.slice none 0 0)], true⟩, ⟨b50, 29, [some (.slice (some ⟨b910, 0, none⟩) 8 8), some (.slice none 0 0), some v, some (.slice none 0 0)], true⟩, ⟨b910, 39, [some (.int .u64 (((nb bs 0) / 16 : Nat) : Int)), some (.int .u64 (((nb bs 0) &&& 15 : Nat) : Int)), some (.int .u64 ((nb bs 1 : Nat) : Int)), some (.int .u64 ((nb bs 2 : Nat) : Int)), some (.int .u64 ((nb bs 3 : Nat) : Int)), some (.int .u64 ((nb bs 4 : Nat) : Int)), some (.int .u64 ((nb bs 5 : Nat) : Int)), some (.int .u64 ((bN bs 6 2 : Nat) : Int))], true⟩, ⟨b930, 49, [some (.slice none 0 0), some (.slice A5_1 ((8 + (4 * (i + 1))) - (8 + (4 * i))) c5_1)], true⟩]) (Kr := Kr) h) [(0, []), (1, []), (2, [2]), (3, [])] rfl) [0, 1, 2] rfl)), ?_⟩)
        refine RG.step1 9 (by kernel_rfl) ?_
        refine dop rfl (l_appendR (K0 := [⟨b11, 170, [some (.slice (cutA A5 c5 0) (n - 0) (c5 - 0)), some (.slice none 0 0), some (.int .u8 (((nb bs 0) / 16 : Nat) : Int)), some (.int .u8 (((nb bs 0) &&& 15 : Nat) : Int)), some (.int .u8 ((nb bs 1 : Nat) : Int)), some (.int .u8 ((nb bs 2 : Nat) : Int)), some (.int .u8 ((nb bs 3 : Nat) : Int)), some (.int .u8 ((nb bs 4 : Nat) : Int)), some (.int .u8 ((nb bs 5 : Nat) : Int)), some (.int .u16 ((bN bs 6 2 : Nat) : Int)), some (.slice AQ (nb bs 3) cQ)], false⟩, ⟨b4, 29, [some (.slice none 0 0), some (.slice none 0 0), some (.slice none 0 0), some (.slice none 0 0)], true⟩, ⟨b50, 29, [some (.slice (some ⟨b910, 0, none⟩) 8 8), some (.slice none 0 0), some v, some (.slice none 0 0)], true⟩, ⟨b910, 39, [some (.int .u64 (((nb bs 0) / 16 : Nat) : Int)), some (.int .u64 (((nb bs 0) &&& 15 : Nat) : Int)), some (.int .u64 ((nb bs 1 : Nat) : Int)), some (.int .u64 ((nb bs 2 : Nat) : Int)), some (.int .u64 ((nb bs 3 : Nat) : Int)), some (.int .u64 ((nb bs 4 : Nat) : Int)), some (.int .u64 ((nb bs 5 : Nat) : Int)), some (.int .u64 ((bN bs 6 2 : Nat) : Int))], true⟩, ⟨b930, 49, [some (.slice none 0 0), some (.slice A5_1 ((8 + (4 * (i + 1))) - (8 + (4 * i))) c5_1)], true⟩]) (Kr := Kr) (k := i) (xs := (psV ps)) (jq := 4) (news := [(.slice none 0 0), (.slice A5_1 ((8 + (4 * (i + 1))) - (8 + (4 * i))) c5_1)]) (by decide) rfl rfl Tryz.underlying27 rowT_49 (by decide) hr (by have := nb_lt bs 3; omega) rfl rfl (by simp [Value.one1]) fun v931 Kr931 hr931 => ⟨(fun _ h => (St.selF (St.wk (St.untail (K := [⟨b11, 170, [some (.slice (cutA A5 c5 0) (n - 0) (c5 - 0)), some (.slice none 0 0), some (.int .u8 (((nb bs 0) / 16 : Nat) : Int)), some (.int .u8 (((nb bs 0) &&& 15 : Nat) : Int)), some (.int .u8 ((nb bs 1 : Nat) : Int)), some (.int .u8 ((nb bs 2 : Nat) : Int)), some (.int .u8 ((nb bs 3 : Nat) : Int)), some (.int .u8 ((nb bs 4 : Nat) : Int)), some (.int .u8 ((nb bs 5 : Nat) : Int)), some (.int .u16 ((bN bs 6 2 : Nat) : Int)), some (.slice AQ (nb bs 3) cQ)], false⟩, ⟨b4, 29, [some (.slice none 0 0), some (.slice none 0 0), some (.slice none 0 0), some (.slice none 0 0)], true⟩, ⟨b50, 29, [some (.slice (some ⟨b910, 0, none⟩) 8 8), some (.slice none 0 0), some v, some (.slice none 0 0)], true⟩, ⟨b910, 39, [some (.int .u64 (((nb bs 0) / 16 : Nat) : Int)), some (.int .u64 (((nb bs 0) &&& 15 : Nat) : Int)), some (.int .u64 ((nb bs 1 : Nat) : Int)), some (.int .u64 ((nb bs 2 : Nat) : Int)), some (.int .u64 ((nb bs 3 : Nat) : Int)), some (.int .u64 ((nb bs 4 : Nat) : Int)), some (.int .u64 ((nb bs 5 : Nat) : Int)), some (.int .u64 ((bN bs 6 2 : Nat) : Int))], true⟩, ⟨b930, 49, [some (.slice none 0 0), some (.slice A5_1 ((8 + (4 * (i + 1))) - (8 + (4 * i))) c5_1)], true⟩]) (Kr := Kr931) h) [(0, []), (1, []), (2, [2]), (3, [])] rfl) [0, 1, 2] rfl)), ?_⟩)
        refine dtake (f := 1) [10, 11] (by kernel_rfl) (St.closed _ _ _ _) (fun _ h => (St.selF (St.wk (St.untail (K := [⟨b11, 170, [some (.slice (cutA A5 c5 0) (n - 0) (c5 - 0)), some (.slice none 0 0), some (.int .u8 (((nb bs 0) / 16 : Nat) : Int)), some (.int .u8 (((nb bs 0) &&& 15 : Nat) : Int)), some (.int .u8 ((nb bs 1 : Nat) : Int)), some (.int .u8 ((nb bs 2 : Nat) : Int)), some (.int .u8 ((nb bs 3 : Nat) : Int)), some (.int .u8 ((nb bs 4 : Nat) : Int)), some (.int .u8 ((nb bs 5 : Nat) : Int)), some (.int .u16 ((bN bs 6 2 : Nat) : Int)), some (.slice AQ (nb bs 3) cQ)], false⟩, ⟨b4, 29, [some (.slice none 0 0), some (.slice none 0 0), some (.slice none 0 0), some (.slice none 0 0)], true⟩, ⟨b50, 29, [some (.slice (some ⟨b910, 0, none⟩) 8 8), some (.slice none 0 0), some v, some (.slice none 0 0)], true⟩, ⟨b910, 39, [some (.int .u64 (((nb bs 0) / 16 : Nat) : Int)), some (.int .u64 (((nb bs 0) &&& 15 : Nat) : Int)), some (.int .u64 ((nb bs 1 : Nat) : Int)), some (.int .u64 ((nb bs 2 : Nat) : Int)), some (.int .u64 ((nb bs 3 : Nat) : Int)), some (.int .u64 ((nb bs 4 : Nat) : Int)), some (.int .u64 ((nb bs 5 : Nat) : Int)), some (.int .u64 ((bN bs 6 2 : Nat) : Int))], true⟩, ⟨b930, 49, [some (.slice none 0 0), some (.slice A5_1 ((8 + (4 * (i + 1))) - (8 + (4 * i))) c5_1)], true⟩]) (Kr := Kr931) h) [(0, []), (1, []), (2, [2]), (3, [])] rfl) [0, 1, 2] rfl)) (by kernel_rfl) ?_
        refine dq rfl (q_nil rfl) ?_
        refine dq rfl (q_field (b := b50) (off := 0) rfl fo_29_2) ?_
        refine QL.nil ?_
        refine RG.step1 12 (by kernel_rfl) ?_
        refine dop rfl (l_store (b := b50) (off := 2) (j := 2) rfl rfl nagg_27 hr931.one rfl rfl rfl (dlt rfl) ⟨(fun _ h => (St.selF (St.wk (St.untail (K := [⟨b11, 170, [some (.slice (cutA A5 c5 0) (n - 0) (c5 - 0)), some (.slice none 0 0), some (.int .u8 (((nb bs 0) / 16 : Nat) : Int)), some (.int .u8 (((nb bs 0) &&& 15 : Nat) : Int)), some (.int .u8 ((nb bs 1 : Nat) : Int)), some (.int .u8 ((nb bs 2 : Nat) : Int)), some (.int .u8 ((nb bs 3 : Nat) : Int)), some (.int .u8 ((nb bs 4 : Nat) : Int)), some (.int .u8 ((nb bs 5 : Nat) : Int)), some (.int .u16 ((bN bs 6 2 : Nat) : Int)), some (.slice AQ (nb bs 3) cQ)], false⟩, ⟨b4, 29, [some (.slice none 0 0), some (.slice none 0 0), some (.slice none 0 0), some (.slice none 0 0)], true⟩, ⟨b50, 29, [some (.slice (some ⟨b910, 0, none⟩) 8 8), some (.slice none 0 0), some v931, some (.slice none 0 0)], true⟩, ⟨b910, 39, [some (.int .u64 (((nb bs 0) / 16 : Nat) : Int)), some (.int .u64 (((nb bs 0) &&& 15 : Nat) : Int)), some (.int .u64 ((nb bs 1 : Nat) : Int)), some (.int .u64 ((nb bs 2 : Nat) : Int)), some (.int .u64 ((nb bs 3 : Nat) : Int)), some (.int .u64 ((nb bs 4 : Nat) : Int)), some (.int .u64 ((nb bs 5 : Nat) : Int)), some (.int .u64 ((bN bs 6 2 : Nat) : Int))], true⟩, ⟨b930, 49, [some (.slice none 0 0), some (.slice A5_1 ((8 + (4 * (i + 1))) - (8 + (4 * i))) c5_1)], true⟩]) (Kr := Kr931) h) [(0, []), (1, []), (2, [2]), (3, [])] rfl) [0, 1, 2] rfl)), ?_⟩)
        refine dend (by kernel_rfl) ?_
        refine ein ?_
        refine eseq ?_
        refine HT.norm ([⟨b11, 170, [some (.slice (cutA A5 c5 0) (n - 0) (c5 - 0)), some (.slice none 0 0), some (.int .u8 (((nb bs 0) / 16 : Nat) : Int)), some (.int .u8 (((nb bs 0) &&& 15 : Nat) : Int)), some (.int .u8 ((nb bs 1 : Nat) : Int)), some (.int .u8 ((nb bs 2 : Nat) : Int)), some (.int .u8 ((nb bs 3 : Nat) : Int)), some (.int .u8 ((nb bs 4 : Nat) : Int)), some (.int .u8 ((nb bs 5 : Nat) : Int)), some (.int .u16 ((bN bs 6 2 : Nat) : Int)), some (.slice AQ (nb bs 3) cQ)], false⟩, ⟨b4, 29, [some (.slice none 0 0), some (.slice none 0 0), some (.slice none 0 0), some (.slice none 0 0)], true⟩, ⟨b50, 29, [some (.slice (some ⟨b910, 0, none⟩) 8 8), some (.slice none 0 0), some v931, some (.slice none 0 0)], true⟩, ⟨b910, 39, [some (.int .u64 (((nb bs 0) / 16 : Nat) : Int)), some (.int .u64 (((nb bs 0) &&& 15 : Nat) : Int)), some (.int .u64 ((nb bs 1 : Nat) : Int)), some (.int .u64 ((nb bs 2 : Nat) : Int)), some (.int .u64 ((nb bs 3 : Nat) : Int)), some (.int .u64 ((nb bs 4 : Nat) : Int)), some (.int .u64 ((nb bs 5 : Nat) : Int)), some (.int .u64 ((bN bs 6 2 : Nat) : Int))], true⟩, ⟨b930, 49, [some (.slice none 0 0), some (.slice A5_1 ((8 + (4 * (i + 1))) - (8 + (4 * i))) c5_1)], true⟩] ++ Kr931) [Byt A5 n c5 bs, Cel AQ (nb bs 3) cQ 1 (rowX (fun j => [.slice (cutA A5 c5 (8 + (4 * j))) ((8 + (4 * (j + 1))) - (8 + (4 * j))) (c5 - (8 + (4 * j)))]) (nb bs 3)), psF ps, Byt A5_1 ((8 + (4 * (i + 1))) - (8 + (4 * i))) c5_1 (sl bs (8 + (4 * i)) (8 + (4 * (i + 1))))] rfl rfl ?_
        refine HT.plain ?_
        refine sq (St.closed _ _ _ _) (q_add (p := i) (q := 1) rfl rfl (show i + 1 < 9223372036854775808 by have := nb_lt bs 3; have := hi; omega)) rfl ?_
        refine sq (St.closed _ _ _ _) (q_move rfl) rfl ?_
        refine send ?_
        exact eround ⟨(i + 1, v931, Kr931, ps ++ [(ni0, ⟨A5_1, ((8 + (4 * (i + 1))) - (8 + (4 * i))), c5_1, (sl bs (8 + (4 * i)) (8 + (4 * (i + 1))))⟩)]), by show i + 1 ≤ nb bs 3; omega, (by rw [psV_snoc]; exact hr931), ht.succ (ni0, ⟨A5_1, ((8 + (4 * (i + 1))) - (8 + (4 * i))), c5_1, (sl bs (8 + (4 * i)) (8 + (4 * (i + 1))))⟩) (by show ([], sl bs _ _) = ([], sl bs _ _); congr 2; omega) (fun x hx => absurd rfl hx.1) ((hf5 _ List.mem_cons_self))⟩ (show nb bs 3 - (i + 1) < nb bs 3 - i by omega) ⟨rfl, rfl, rfl, rfl, rfl, rfl, trivial⟩ (fun _ h => St.psF_snoc0 (b := ⟨A5_1, ((8 + (4 * (i + 1))) - (8 + (4 * i))), c5_1, (sl bs (8 + (4 * i)) (8 + (4 * (i + 1))))⟩) (St.drop (X := [⟨b11, 170, [some (.slice (cutA A5 c5 0) (n - 0) (c5 - 0)), some (.slice none 0 0), some (.int .u8 (((nb bs 0) / 16 : Nat) : Int)), some (.int .u8 (((nb bs 0) &&& 15 : Nat) : Int)), some (.int .u8 ((nb bs 1 : Nat) : Int)), some (.int .u8 ((nb bs 2 : Nat) : Int)), some (.int .u8 ((nb bs 3 : Nat) : Int)), some (.int .u8 ((nb bs 4 : Nat) : Int)), some (.int .u8 ((nb bs 5 : Nat) : Int)), some (.int .u16 ((bN bs 6 2 : Nat) : Int)), some (.slice AQ (nb bs 3) cQ)], false⟩, ⟨b4, 29, [some (.slice none 0 0), some (.slice none 0 0), some (.slice none 0 0), some (.slice none 0 0)], true⟩, ⟨b50, 29, [some (.slice (some ⟨b910, 0, none⟩) 8 8), some (.slice none 0 0), some v931, some (.slice none 0 0)], true⟩, ⟨b910, 39, [some (.int .u64 (((nb bs 0) / 16 : Nat) : Int)), some (.int .u64 (((nb bs 0) &&& 15 : Nat) : Int)), some (.int .u64 ((nb bs 1 : Nat) : Int)), some (.int .u64 ((nb bs 2 : Nat) : Int)), some (.int .u64 ((nb bs 3 : Nat) : Int)), some (.int .u64 ((nb bs 4 : Nat) : Int)), some (.int .u64 ((nb bs 5 : Nat) : Int)), some (.int .u64 ((bN bs 6 2 : Nat) : Int))], true⟩]) (Y := [⟨b930, 49, [some (.slice none 0 0), some (.slice A5_1 ((8 + (4 * (i + 1))) - (8 + (4 * i))) c5_1)], true⟩]) (Z := Kr931) h))
      · refine dop rfl (l_buildSliceT (K := [⟨b11, 170, [some (.slice (cutA A5 c5 0) (n - 0) (c5 - 0)), some (.slice none 0 0), some (.int .u8 (((nb bs 0) / 16 : Nat) : Int)), some (.int .u8 (((nb bs 0) &&& 15 : Nat) : Int)), some (.int .u8 ((nb bs 1 : Nat) : Int)), some (.int .u8 ((nb bs 2 : Nat) : Int)), some (.int .u8 ((nb bs 3 : Nat) : Int)), some (.int .u8 ((nb bs 4 : Nat) : Int)), some (.int .u8 ((nb bs 5 : Nat) : Int)), some (.int .u16 ((bN bs 6 2 : Nat) : Int)), some (.slice AQ (nb bs 3) cQ)], false⟩, ⟨b4, 29, [some (.slice none 0 0), some (.slice none 0 0), some (.slice none 0 0), some (.slice none 0 0)], true⟩, ⟨b50, 29, [some (.slice (some ⟨b910, 0, none⟩) 8 8), some (.slice none 0 0), some v, some (.slice none 0 0)], true⟩, ⟨b910, 39, [some (.int .u64 (((nb bs 0) / 16 : Nat) : Int)), some (.int .u64 (((nb bs 0) &&& 15 : Nat) : Int)), some (.int .u64 ((nb bs 1 : Nat) : Int)), some (.int .u64 ((nb bs 2 : Nat) : Int)), some (.int .u64 ((nb bs 3 : Nat) : Int)), some (.int .u64 ((nb bs 4 : Nat) : Int)), some (.int .u64 ((nb bs 5 : Nat) : Int)), some (.int .u64 ((bN bs 6 2 : Nat) : Int))], true⟩]) (Kr := Kr) (e := 49) (vs := [(0, (.agg #[(.slice none 0 0), (.slice A5_1 ((8 + (4 * (i + 1))) - (8 + (4 * i))) c5_1)]))]) (cs := [(.slice none 0 0), (.slice A5_1 ((8 + (4 * (i + 1))) - (8 + (4 * i))) c5_1)]) (by decide) rfl (fun _ => by kernel_rfl) fun b930 => ⟨(fun _ h => (St.selF (St.wk (St.untail (K := [⟨b11, 170, [some (.slice (cutA A5 c5 0) (n - 0) (c5 - 0)), some (.slice none 0 0), some (.int .u8 (((nb bs 0) / 16 : Nat) : Int)), some (.int .u8 (((nb bs 0) &&& 15 : Nat) : Int)), some (.int .u8 ((nb bs 1 : Nat) : Int)), some (.int .u8 ((nb bs 2 : Nat) : Int)), some (.int .u8 ((nb bs 3 : Nat) : Int)), some (.int .u8 ((nb bs 4 : Nat) : Int)), some (.int .u8 ((nb bs 5 : Nat) : Int)), some (.int .u16 ((bN bs 6 2 : Nat) : Int)), some (.slice AQ (nb bs 3) cQ)], false⟩, ⟨b4, 29, [some (.slice none 0 0), some (.slice none 0 0), some (.slice none 0 0), some (.slice none 0 0)], true⟩, ⟨b50, 29, [some (.slice (some ⟨b910, 0, none⟩) 8 8), some (.slice none 0 0), some v, some (.slice none 0 0)], true⟩, ⟨b910, 39, [some (.int .u64 (((nb bs 0) / 16 : Nat) : Int)), some (.int .u64 (((nb bs 0) &&& 15 : Nat) : Int)), some (.int .u64 ((nb bs 1 : Nat) : Int)), some (.int .u64 ((nb bs 2 : Nat) : Int)), some (.int .u64 ((nb bs 3 : Nat) : Int)), some (.int .u64 ((nb bs 4 : Nat) : Int)), some (.int .u64 ((nb bs 5 : Nat) : Int)), some (.int .u64 ((bN bs 6 2 : Nat) : Int))], true⟩, ⟨b930, 49, [some (.slice none 0 0), some (.slice A5_1 ((8 + (4 * (i + 1))) - (8 + (4 * i))) c5_1)], true⟩]) (Kr := Kr) h) [(0, []), (1, []), (2, [2]), (3, [])] rfl) [0, 1, 2] rfl)), ?_⟩)
        refine RG.step1 4 (by kernel_rfl) ?_
        refine dop rfl (l_q _ (by simp) (St.closed _ _ _ _) (q_load (b := b50) (off := 2) (j := 2) rfl nagg_27 (fun _ h => h) rfl rfl rfl) ⟨(fun _ h => (St.selF (St.wk (St.untail (K := [⟨b11, 170, [some (.slice (cutA A5 c5 0) (n - 0) (c5 - 0)), some (.slice none 0 0), some (.int .u8 (((nb bs 0) / 16 : Nat) : Int)), some (.int .u8 (((nb bs 0) &&& 15 : Nat) : Int)), some (.int .u8 ((nb bs 1 : Nat) : Int)), some (.int .u8 ((nb bs 2 : Nat) : Int)), some (.int .u8 ((nb bs 3 : Nat) : Int)), some (.int .u8 ((nb bs 4 : Nat) : Int)), some (.int .u8 ((nb bs 5 : Nat) : Int)), some (.int .u16 ((bN bs 6 2 : Nat) : Int)), some (.slice AQ (nb bs 3) cQ)], false⟩, ⟨b4, 29, [some (.slice none 0 0), some (.slice none 0 0), some (.slice none 0 0), some (.slice none 0 0)], true⟩, ⟨b50, 29, [some (.slice (some ⟨b910, 0, none⟩) 8 8), some (.slice none 0 0), some v, some (.slice none 0 0)], true⟩, ⟨b910, 39, [some (.int .u64 (((nb bs 0) / 16 : Nat) : Int)), some (.int .u64 (((nb bs 0) &&& 15 : Nat) : Int)), some (.int .u64 ((nb bs 1 : Nat) : Int)), some (.int .u64 ((nb bs 2 : Nat) : Int)), some (.int .u64 ((nb bs 3 : Nat) : Int)), some (.int .u64 ((nb bs 4 : Nat) : Int)), some (.int .u64 ((nb bs 5 : Nat) : Int)), some (.int .u64 ((bN bs 6 2 : Nat) : Int))], true⟩, ⟨b930, 49, [some (.slice none 0 0), some (.slice A5_1 ((8 + (4 * (i + 1))) - (8 + (4 * i))) c5_1)], true⟩]) (Kr := Kr) h) [(0, []), (1, []), (2, [2]), (3, [])] rfl) [0, 1, 2] rfl)), ?_⟩)
        refine RG.step1 9 (by kernel_rfl) ?_
        refine dop rfl (l_appendR (K0 := [⟨b11, 170, [some (.slice (cutA A5 c5 0) (n - 0) (c5 - 0)), some (.slice none 0 0), some (.int .u8 (((nb bs 0) / 16 : Nat) : Int)), some (.int .u8 (((nb bs 0) &&& 15 : Nat) : Int)), some (.int .u8 ((nb bs 1 : Nat) : Int)), some (.int .u8 ((nb bs 2 : Nat) : Int)), some (.int .u8 ((nb bs 3 : Nat) : Int)), some (.int .u8 ((nb bs 4 : Nat) : Int)), some (.int .u8 ((nb bs 5 : Nat) : Int)), some (.int .u16 ((bN bs 6 2 : Nat) : Int)), some (.slice AQ (nb bs 3) cQ)], false⟩, ⟨b4, 29, [some (.slice none 0 0), some (.slice none 0 0), some (.slice none 0 0), some (.slice none 0 0)], true⟩, ⟨b50, 29, [some (.slice (some ⟨b910, 0, none⟩) 8 8), some (.slice none 0 0), some v, some (.slice none 0 0)], true⟩, ⟨b910, 39, [some (.int .u64 (((nb bs 0) / 16 : Nat) : Int)), some (.int .u64 (((nb bs 0) &&& 15 : Nat) : Int)), some (.int .u64 ((nb bs 1 : Nat) : Int)), some (.int .u64 ((nb bs 2 : Nat) : Int)), some (.int .u64 ((nb bs 3 : Nat) : Int)), some (.int .u64 ((nb bs 4 : Nat) : Int)), some (.int .u64 ((nb bs 5 : Nat) : Int)), some (.int .u64 ((bN bs 6 2 : Nat) : Int))], true⟩, ⟨b930, 49, [some (.slice none 0 0), some (.slice A5_1 ((8 + (4 * (i + 1))) - (8 + (4 * i))) c5_1)], true⟩]) (Kr := Kr) (k := i) (xs := (psV ps)) (jq := 4) (news := [(.slice none 0 0), (.slice A5_1 ((8 + (4 * (i + 1))) - (8 + (4 * i))) c5_1)]) (by decide) rfl rfl Tryz.underlying27 rowT_49 (by decide) hr (by have := nb_lt bs 3; omega) rfl rfl (by simp [Value.one1]) fun v931 Kr931 hr931 => ⟨(fun _ h => (St.selF (St.wk (St.untail (K := [⟨b11, 170, [some (.slice (cutA A5 c5 0) (n - 0) (c5 - 0)), some (.slice none 0 0), some (.int .u8 (((nb bs 0) / 16 : Nat) : Int)), some (.int .u8 (((nb bs 0) &&& 15 : Nat) : Int)), some (.int .u8 ((nb bs 1 : Nat) : Int)), some (.int .u8 ((nb bs 2 : Nat) : Int)), some (.int .u8 ((nb bs 3 : Nat) : Int)), some (.int .u8 ((nb bs 4 : Nat) : Int)), some (.int .u8 ((nb bs 5 : Nat) : Int)), some (.int .u16 ((bN bs 6 2 : Nat) : Int)), some (.slice AQ (nb bs 3) cQ)], false⟩, ⟨b4, 29, [some (.slice none 0 0), some (.slice none 0 0), some (.slice none 0 0), some (.slice none 0 0)], true⟩, ⟨b50, 29, [some (.slice (some ⟨b910, 0, none⟩) 8 8), some (.slice none 0 0), some v, some (.slice none 0 0)], true⟩, ⟨b910, 39, [some (.int .u64 (((nb bs 0) / 16 : Nat) : Int)), some (.int .u64 (((nb bs 0) &&& 15 : Nat) : Int)), some (.int .u64 ((nb bs 1 : Nat) : Int)), some (.int .u64 ((nb bs 2 : Nat) : Int)), some (.int .u64 ((nb bs 3 : Nat) : Int)), some (.int .u64 ((nb bs 4 : Nat) : Int)), some (.int .u64 ((nb bs 5 : Nat) : Int)), some (.int .u64 ((bN bs 6 2 : Nat) : Int))], true⟩, ⟨b930, 49, [some (.slice none 0 0), some (.slice A5_1 ((8 + (4 * (i + 1))) - (8 + (4 * i))) c5_1)], true⟩]) (Kr := Kr931) h) [(0, []), (1, []), (2, [2]), (3, [])] rfl) [0, 1, 2] rfl)), ?_⟩)
        refine dtake (f := 1) [10, 11] (by kernel_rfl) (St.closed _ _ _ _) (fun _ h => (St.selF (St.wk (St.untail (K := [⟨b11, 170, [some (.slice (cutA A5 c5 0) (n - 0) (c5 - 0)), some (.slice none 0 0), some (.int .u8 (((nb bs 0) / 16 : Nat) : Int)), some (.int .u8 (((nb bs 0) &&& 15 : Nat) : Int)), some (.int .u8 ((nb bs 1 : Nat) : Int)), some (.int .u8 ((nb bs 2 : Nat) : Int)), some (.int .u8 ((nb bs 3 : Nat) : Int)), some (.int .u8 ((nb bs 4 : Nat) : Int)), some (.int .u8 ((nb bs 5 : Nat) : Int)), some (.int .u16 ((bN bs 6 2 : Nat) : Int)), some (.slice AQ (nb bs 3) cQ)], false⟩, ⟨b4, 29, [some (.slice none 0 0), some (.slice none 0 0), some (.slice none 0 0), some (.slice none 0 0)], true⟩, ⟨b50, 29, [some (.slice (some ⟨b910, 0, none⟩) 8 8), some (.slice none 0 0), some v, some (.slice none 0 0)], true⟩, ⟨b910, 39, [some (.int .u64 (((nb bs 0) / 16 : Nat) : Int)), some (.int .u64 (((nb bs 0) &&& 15 : Nat) : Int)), some (.int .u64 ((nb bs 1 : Nat) : Int)), some (.int .u64 ((nb bs 2 : Nat) : Int)), some (.int .u64 ((nb bs 3 : Nat) : Int)), some (.int .u64 ((nb bs 4 : Nat) : Int)), some (.int .u64 ((nb bs 5 : Nat) : Int)), some (.int .u64 ((bN bs 6 2 : Nat) : Int))], true⟩, ⟨b930, 49, [some (.slice none 0 0), some (.slice A5_1 ((8 + (4 * (i + 1))) - (8 + (4 * i))) c5_1)], true⟩]) (Kr := Kr931) h) [(0, []), (1, []), (2, [2]), (3, [])] rfl) [0, 1, 2] rfl)) (by kernel_rfl) ?_
        refine dq rfl (q_nil rfl) ?_
        refine dq rfl (q_field (b := b50) (off := 0) rfl fo_29_2) ?_
        refine QL.nil ?_
        refine RG.step1 12 (by kernel_rfl) ?_
        refine dop rfl (l_store (b := b50) (off := 2) (j := 2) rfl rfl nagg_27 hr931.one rfl rfl rfl (dlt rfl) ⟨(fun _ h => (St.selF (St.wk (St.untail (K := [⟨b11, 170, [some (.slice (cutA A5 c5 0) (n - 0) (c5 - 0)), some (.slice none 0 0), some (.int .u8 (((nb bs 0) / 16 : Nat) : Int)), some (.int .u8 (((nb bs 0) &&& 15 : Nat) : Int)), some (.int .u8 ((nb bs 1 : Nat) : Int)), some (.int .u8 ((nb bs 2 : Nat) : Int)), some (.int .u8 ((nb bs 3 : Nat) : Int)), some (.int .u8 ((nb bs 4 : Nat) : Int)), some (.int .u8 ((nb bs 5 : Nat) : Int)), some (.int .u16 ((bN bs 6 2 : Nat) : Int)), some (.slice AQ (nb bs 3) cQ)], false⟩, ⟨b4, 29, [some (.slice none 0 0), some (.slice none 0 0), some (.slice none 0 0), some (.slice none 0 0)], true⟩, ⟨b50, 29, [some (.slice (some ⟨b910, 0, none⟩) 8 8), some (.slice none 0 0), some v931, some (.slice none 0 0)], true⟩, ⟨b910, 39, [some (.int .u64 (((nb bs 0) / 16 : Nat) : Int)), some (.int .u64 (((nb bs 0) &&& 15 : Nat) : Int)), some (.int .u64 ((nb bs 1 : Nat) : Int)), some (.int .u64 ((nb bs 2 : Nat) : Int)), some (.int .u64 ((nb bs 3 : Nat) : Int)), some (.int .u64 ((nb bs 4 : Nat) : Int)), some (.int .u64 ((nb bs 5 : Nat) : Int)), some (.int .u64 ((bN bs 6 2 : Nat) : Int))], true⟩, ⟨b930, 49, [some (.slice none 0 0), some (.slice A5_1 ((8 + (4 * (i + 1))) - (8 + (4 * i))) c5_1)], true⟩]) (Kr := Kr931) h) [(0, []), (1, []), (2, [2]), (3, [])] rfl) [0, 1, 2] rfl)), ?_⟩)
        refine dend (by kernel_rfl) ?_
        refine ein ?_
        refine eseq ?_
        refine HT.norm ([⟨b11, 170, [some (.slice (cutA A5 c5 0) (n - 0) (c5 - 0)), some (.slice none 0 0), some (.int .u8 (((nb bs 0) / 16 : Nat) : Int)), some (.int .u8 (((nb bs 0) &&& 15 : Nat) : Int)), some (.int .u8 ((nb bs 1 : Nat) : Int)), some (.int .u8 ((nb bs 2 : Nat) : Int)), some (.int .u8 ((nb bs 3 : Nat) : Int)), some (.int .u8 ((nb bs 4 : Nat) : Int)), some (.int .u8 ((nb bs 5 : Nat) : Int)), some (.int .u16 ((bN bs 6 2 : Nat) : Int)), some (.slice AQ (nb bs 3) cQ)], false⟩, ⟨b4, 29, [some (.slice none 0 0), some (.slice none 0 0), some (.slice none 0 0), some (.slice none 0 0)], true⟩, ⟨b50, 29, [some (.slice (some ⟨b910, 0, none⟩) 8 8), some (.slice none 0 0), some v931, some (.slice none 0 0)], true⟩, ⟨b910, 39, [some (.int .u64 (((nb bs 0) / 16 : Nat) : Int)), some (.int .u64 (((nb bs 0) &&& 15 : Nat) : Int)), some (.int .u64 ((nb bs 1 : Nat) : Int)), some (.int .u64 ((nb bs 2 : Nat) : Int)), some (.int .u64 ((nb bs 3 : Nat) : Int)), some (.int .u64 ((nb bs 4 : Nat) : Int)), some (.int .u64 ((nb bs 5 : Nat) : Int)), some (.int .u64 ((bN bs 6 2 : Nat) : Int))], true⟩, ⟨b930, 49, [some (.slice none 0 0), some (.slice A5_1 ((8 + (4 * (i + 1))) - (8 + (4 * i))) c5_1)], true⟩] ++ Kr931) [Byt A5 n c5 bs, Cel AQ (nb bs 3) cQ 1 (rowX (fun j => [.slice (cutA A5 c5 (8 + (4 * j))) ((8 + (4 * (j + 1))) - (8 + (4 * j))) (c5 - (8 + (4 * j)))]) (nb bs 3)), psF ps, Byt A5_1 ((8 + (4 * (i + 1))) - (8 + (4 * i))) c5_1 (sl bs (8 + (4 * i)) (8 + (4 * (i + 1))))] rfl rfl ?_
        refine HT.plain ?_
        refine sq (St.closed _ _ _ _) (q_add (p := i) (q := 1) rfl rfl (show i + 1 < 9223372036854775808 by have := nb_lt bs 3; have := hi; omega)) rfl ?_
        refine sq (St.closed _ _ _ _) (q_move rfl) rfl ?_
        refine send ?_
        exact eround ⟨(i + 1, v931, Kr931, ps ++ [(ni0, ⟨A5_1, ((8 + (4 * (i + 1))) - (8 + (4 * i))), c5_1, (sl bs (8 + (4 * i)) (8 + (4 * (i + 1))))⟩)]), by show i + 1 ≤ nb bs 3; omega, (by rw [psV_snoc]; exact hr931), ht.succ (ni0, ⟨A5_1, ((8 + (4 * (i + 1))) - (8 + (4 * i))), c5_1, (sl bs (8 + (4 * i)) (8 + (4 * (i + 1))))⟩) (by show ([], sl bs _ _) = ([], sl bs _ _); congr 2; omega) (fun x hx => absurd rfl hx.1) ((hf5 _ List.mem_cons_self))⟩ (show nb bs 3 - (i + 1) < nb bs 3 - i by omega) ⟨rfl, rfl, rfl, rfl, rfl, rfl, trivial⟩ (fun _ h => St.psF_snoc0 (b := ⟨A5_1, ((8 + (4 * (i + 1))) - (8 + (4 * i))), c5_1, (sl bs (8 + (4 * i)) (8 + (4 * (i + 1))))⟩) (St.drop (X := [⟨b11, 170, [some (.slice (cutA A5 c5 0) (n - 0) (c5 - 0)), some (.slice none 0 0), some (.int .u8 (((nb bs 0) / 16 : Nat) : Int)), some (.int .u8 (((nb bs 0) &&& 15 : Nat) : Int)), some (.int .u8 ((nb bs 1 : Nat) : Int)), some (.int .u8 ((nb bs 2 : Nat) : Int)), some (.int .u8 ((nb bs 3 : Nat) : Int)), some (.int .u8 ((nb bs 4 : Nat) : Int)), some (.int .u8 ((nb bs 5 : Nat) : Int)), some (.int .u16 ((bN bs 6 2 : Nat) : Int)), some (.slice AQ (nb bs 3) cQ)], false⟩, ⟨b4, 29, [some (.slice none 0 0), some (.slice none 0 0), some (.slice none 0 0), some (.slice none 0 0)], true⟩, ⟨b50, 29, [some (.slice (some ⟨b910, 0, none⟩) 8 8), some (.slice none 0 0), some v931, some (.slice none 0 0)], true⟩, ⟨b910, 39, [some (.int .u64 (((nb bs 0) / 16 : Nat) : Int)), some (.int .u64 (((nb bs 0) &&& 15 : Nat) : Int)), some (.int .u64 ((nb bs 1 : Nat) : Int)), some (.int .u64 ((nb bs 2 : Nat) : Int)), some (.int .u64 ((nb bs 3 : Nat) : Int)), some (.int .u64 ((nb bs 4 : Nat) : Int)), some (.int .u64 ((nb bs 5 : Nat) : Int)), some (.int .u64 ((bN bs 6 2 : Nat) : Int))], true⟩]) (Y := [⟨b930, 49, [some (.slice none 0 0), some (.slice A5_1 ((8 + (4 * (i + 1))) - (8 + (4 * i))) c5_1)], true⟩]) (Z := Kr931) h))
  · refine HT.exit ?_
    refine ex_then ?_
    refine ex_then ?_
    refine ex_in ?_
    refine ein ?_
    refine eseq ?_
    have hiN : i = nb bs 3 := by omega
    subst hiN
    refine HT.rowFact (K := [⟨b11, 170, [some (.slice (cutA A5 c5 0) (n - 0) (c5 - 0)), some (.slice none 0 0), some (.int .u8 (((nb bs 0) / 16 : Nat) : Int)), some (.int .u8 (((nb bs 0) &&& 15 : Nat) : Int)), some (.int .u8 ((nb bs 1 : Nat) : Int)), some (.int .u8 ((nb bs 2 : Nat) : Int)), some (.int .u8 ((nb bs 3 : Nat) : Int)), some (.int .u8 ((nb bs 4 : Nat) : Int)), some (.int .u8 ((nb bs 5 : Nat) : Int)), some (.int .u16 ((bN bs 6 2 : Nat) : Int)), some (.slice AQ (nb bs 3) cQ)], false⟩, ⟨b4, 29, [some (.slice none 0 0), some (.slice none 0 0), some (.slice none 0 0), some (.slice none 0 0)], true⟩, ⟨b50, 29, [some (.slice (some ⟨b910, 0, none⟩) 8 8), some (.slice none 0 0), some v, some (.slice none 0 0)], true⟩, ⟨b910, 39, [some (.int .u64 (((nb bs 0) / 16 : Nat) : Int)), some (.int .u64 (((nb bs 0) &&& 15 : Nat) : Int)), some (.int .u64 ((nb bs 1 : Nat) : Int)), some (.int .u64 ((nb bs 2 : Nat) : Int)), some (.int .u64 ((nb bs 3 : Nat) : Int)), some (.int .u64 ((nb bs 4 : Nat) : Int)), some (.int .u64 ((nb bs 5 : Nat) : Int)), some (.int .u64 ((bN bs 6 2 : Nat) : Int))], true⟩]) (Kr := Kr) hr (fun _ h => nomatch h) fun AR cR hvR hncR hfR => ?_
    subst hvR
    refine HT.seq ?_
    refine HT.plain ?_
    refine sq (St.closed _ _ _ _) (q_move rfl) rfl ?_
    refine sq (St.closed _ _ _ _) (q_nil rfl) rfl ?_
    refine sq (St.closed _ _ _ _) (q_loadAgg (b := b50) (off := 0) (j := 2) (vs := [(.slice (some ⟨b910, 0, none⟩) 8 8), (.slice none 0 0), (.slice AR (nb bs 3) cR), (.slice none 0 0)]) rfl aggs_29 (fun _ h => h) rfl rfl rfl) rfl ?_
    refine sl_ (l_storeAgg (b := b4) (off := 0) (j := 1) (vs := [(.slice (some ⟨b910, 0, none⟩) 8 8), (.slice none 0 0), (.slice AR (nb bs 3) cR), (.slice none 0 0)]) rfl rfl aggs_29 (by simp [Value.one1]) rfl rfl rfl (Nat.le_of_ble_eq_true rfl) ?_)
    refine sq (St.closed _ _ _ _) (q_assign rfl) rfl ?_
    refine send ?_
    refine eseq ?_
    refine HT.ret ?_
    have hnums : [(nb bs 0) / 16, (nb bs 0) &&& 15, nb bs 1, nb bs 2, nb bs 3, nb bs 4, nb bs 5, bN bs 6 2] = [2, 1, nb bs 1, nb bs 2, nb bs 3, nb bs 4, nb bs 5, bN bs 6 2] := (lc (show (nb bs 0) / 16 = 2 from by (have := nb_lt bs 0; first | omega | ((try simp only [zd224, zd240, zd192, zd24, zd56, zd65520, zd4, zd8, zd48, zd112]) <;> (try simp only [zt1, zt2, zt4, zt8, zt16, zt32, zt64, zt128, zt256, zt512, zt1024, zt2048, zt4096, zt8192]) <;> (try simp only [zm1, zm3, zm7, zm15, zm31, zm63, zm127, zm255, zm1023, zm4095, zm1048575, zb1, zb2, zb4, zb8, zb16, zb32, zb64, zb128, zb256, zb512, zb1024, zb2048, zb4096, zb8192, bitN, cond_true, cond_false]) <;> omega) | ((try simp only [zd224, zd240, zd192, zd24, zd56, zd65520, zd4, zd8, zd48, zd112]) <;> (try simp only [zt1, zt2, zt4, zt8, zt16, zt32, zt64, zt128, zt256, zt512, zt1024, zt2048, zt4096, zt8192]) <;> (try simp only [zm1, zm3, zm7, zm15, zm31, zm63, zm127, zm255, zm1023, zm4095, zm1048575, zb1, zb2, zb4, zb8, zb16, zb32, zb64, zb128, zb256, zb512, zb1024, zb2048, zb4096, zb8192, bitN, cond_true, cond_false, lN, bN, Nat.zero_mul, Nat.zero_add, Nat.add_zero, Nat.reduceAdd, Nat.reduceDiv, Nat.reduceMul]) <;> omega))) (lc (show (nb bs 0) &&& 15 = 1 from by (have := nb_lt bs 0; first | omega | ((try simp only [zd224, zd240, zd192, zd24, zd56, zd65520, zd4, zd8, zd48, zd112]) <;> (try simp only [zt1, zt2, zt4, zt8, zt16, zt32, zt64, zt128, zt256, zt512, zt1024, zt2048, zt4096, zt8192]) <;> (try simp only [zm1, zm3, zm7, zm15, zm31, zm63, zm127, zm255, zm1023, zm4095, zm1048575, zb1, zb2, zb4, zb8, zb16, zb32, zb64, zb128, zb256, zb512, zb1024, zb2048, zb4096, zb8192, bitN, cond_true, cond_false]) <;> omega) | ((try simp only [zd224, zd240, zd192, zd24, zd56, zd65520, zd4, zd8, zd48, zd112]) <;> (try simp only [zt1, zt2, zt4, zt8, zt16, zt32, zt64, zt128, zt256, zt512, zt1024, zt2048, zt4096, zt8192]) <;> (try simp only [zm1, zm3, zm7, zm15, zm31, zm63, zm127, zm255, zm1023, zm4095, zm1048575, zb1, zb2, zb4, zb8, zb16, zb32, zb64, zb128, zb256, zb512, zb1024, zb2048, zb4096, zb8192, bitN, cond_true, cond_false, lN, bN, Nat.zero_mul, Nat.zero_add, Nat.add_zero, Nat.reduceAdd, Nat.reduceDiv, Nat.reduceMul]) <;> omega))) (lc rfl (lc rfl (lc rfl (lc rfl (lc rfl (lc rfl rfl))))))))
    exact fun a ha w' hw => fin_ ha (resc2 ha Tryz.results47 rfl (ld_ aggs_29 hw (j := 1) rfl rfl (vs := [(.slice (some ⟨b910, 0, none⟩) 8 8), (.slice none 0 0), (.slice AR (nb bs 3) cR), (.slice none 0 0)]) rfl) rfl) ⟨⟨⟨some ⟨b910, 0, none⟩, 8, 8, [(nb bs 0) / 16, (nb bs 0) &&& 15, nb bs 1, nb bs 2, nb bs 3, nb bs 4, nb bs 5, bN bs 6 2]⟩, none, 0, 0, [], AR, nb bs 3, cR, ps, bi0⟩, rfl, hw.pres, Own.lay6 (Own.cel hw (j := 3) (sz := 1) (r := []) rfl rfl rfl rfl (Nat.le_refl _)) (Own.nilCel 1) (Own.byt hw (j := 3) rfl (fun i h => .inl (hfR i h))) Own.nilByt (fun _ h => nomatch h) (psOwn hw (j := 2) rfl ht.new), LD_eq hnums rfl ht.data rfl⟩

theorem vrrp_I6 (w : World) (A : Option Addr) (n : Nat) (c : Nat) (bs : List UInt8) (hn : n ≤ 400) (ha : 8 ≤ n) (hb : nb bs 0 % 16 = 1) (hc : 1 ≤ nb bs 3) (hd : 8 + 4 * nb bs 3 ≤ n) (he : nb bs 0 / 16 = 2) (hst : St w [] [] [Byt A n c bs] w) : Calls Tryz.prog 27 #[(.string ⟨#[118, 114, 114, 112]⟩), (.slice A n c)] w (IP w (Byt A n c bs) (some (some ⟨[2, 1, nb bs 1, nb bs 2, nb bs 3, nb bs 4, nb bs 5, bN bs 6 2], [], ((List.range (nb bs 3)).map fun j => ([], sl bs (8 + (4 * j)) (12 + (4 * j)))), []⟩))) := by
  have hnc00 : n ≤ c := (hst.fact (j := 0) rfl).2.1
  refine enter (vs := [(.string ⟨#[118, 114, 114, 112]⟩), (.slice A n c)]) Tryz.func27 rfl rfl rfl hst ?_
  refine HT.seq ?_
  refine HT.plain ?_
  refine sl_ (l_alloc (by decide) zero_29 fun b4 => ?_)
  refine sq (St.closed _ _ _ _) (q_assign rfl) rfl ?_
  refine send ?_
  refine eseq ?_
  refine HT.seq ?_
  refine HT.plain ?_
  refine sq (St.closed _ _ _ _) (q_move rfl) rfl ?_
  refine sq (St.closed _ _ _ _) (q_move rfl) rfl ?_
  refine sl_ (l_callX5 (vs := [(.string ⟨#[118, 114, 114, 112]⟩), (.slice A n c)]) (Kc := []) (Bc := [Byt A n c bs]) [] [0] [Byt A n c bs] (fun b11 A5 c5 AQ cQ => [⟨b4, 29, [some (.slice none 0 0), some (.slice none 0 0), some (.slice none 0 0), some (.slice none 0 0)], true⟩, ⟨b11, 170, [some (.slice (cutA A5 c5 0) (n - 0) (c5 - 0)), some (.slice none 0 0), some (.int .u8 (((nb bs 0) / 16 : Nat) : Int)), some (.int .u8 (((nb bs 0) &&& 15 : Nat) : Int)), some (.int .u8 ((nb bs 1 : Nat) : Int)), some (.int .u8 ((nb bs 2 : Nat) : Int)), some (.int .u8 ((nb bs 3 : Nat) : Int)), some (.int .u8 ((nb bs 4 : Nat) : Int)), some (.int .u8 ((nb bs 5 : Nat) : Int)), some (.int .u16 ((bN bs 6 2 : Nat) : Int)), some (.slice AQ (nb bs 3) cQ)], true⟩]) (fun b11 A5 c5 AQ cQ => [Byt A n c bs, Byt A5 n c5 bs, Cel AQ (nb bs 3) cQ 1 (rowX (fun j => [.slice (cutA A5 c5 (8 + (4 * j))) ((8 + (4 * (j + 1))) - (8 + (4 * j))) (c5 - (8 + (4 * j)))]) (nb bs 3))]) (by decide) rfl ca_46 (fun _ h => h) rfl rfl rfl rfl (fun w h => vrrp_e6 w A n c bs (by omega) (by omega) (by omega) (by omega) (by omega) (by omega) h) (fun _ _ _ _ _ => rfl) (fun _ _ _ _ _ => rfl) (fun _ _ _ _ _ => rfl) (fun _ _ _ _ _ => rfl) fun b11 A5 c5 AQ cQ hf1 he2 => ?_)
  have hnc3 : n ≤ c5 := by obtain ⟨w, h⟩ := he2; exact (h _ List.mem_cons_self).2.1
  have hnc4 : nb bs 3 ≤ cQ := by obtain ⟨w, h⟩ := he2; exact (h _ (List.mem_cons_of_mem _ List.mem_cons_self)).2.1
  refine sq (St.closed _ _ _ _) (q_move rfl) rfl ?_
  refine sq (St.closed _ _ _ _) (q_extract (vs := [(.iface 165 (.pointer (some ⟨b11, 0, none⟩))), (.bool true)]) (i := 0) rfl rfl) rfl ?_
  refine sq (St.closed _ _ _ _) (q_extract (vs := [(.iface 165 (.pointer (some ⟨b11, 0, none⟩))), (.bool true)]) (i := 1) rfl rfl) rfl ?_
  refine sq (St.closed _ _ _ _) (q_assign rfl) rfl ?_
  refine sq (St.closed _ _ _ _) (q_assign rfl) rfl ?_
  refine send ?_
  refine eseq ?_
  refine HT.seq ?_
  refine HT.seq ?_
  refine HT.plain ?_
  refine sq (St.closed _ _ _ _) (q_move rfl) rfl ?_
  refine sq (St.closed _ _ _ _) (q_not rfl) rfl ?_
  refine send ?_
  refine eseq ?_
  refine HT.no rfl ?_
  refine HT.skip ?_
  refine eseq ?_
  refine HT.seq ?_
  refine HT.plain ?_
  refine sq (St.closed _ _ _ _) (q_move rfl) rfl ?_
  refine sq (St.closed _ _ _ _) (q_move rfl) rfl ?_
  refine sq (St.closed _ _ _ _) (q_invoke (vs := []) (v := (.slice none 0 0)) rfl (fun w => me_165_LayerPayload _ w) rfl ca_120 (fun w h => layPay0 w b11 170 _ _ _ (h.ro (j := 1) rfl))) rfl ?_
  refine sl_ (l_callLay (vs := [(.iface 165 (.pointer (some ⟨b11, 0, none⟩))), (.slice none 0 0)]) (tup := fun L => .tuple #[L.val, .bool true]) 1 (by decide) rfl ca_47 rfl (fun w h => vrrp_t6 w A5 n c5 bs b11 AQ cQ (by omega) (by omega) (by omega) (by omega) (by omega) (by omega) (h.ro2 (j := 1) rfl (bi := [1, 2]) rfl)) fun L20 hfr hda hoL => ?_)
  refine sq (St.closed _ _ _ _) (q_extract (vs := [(.agg #[(L20.nums.val), (.slice L20.dA L20.dn L20.dc), (.slice L20.pA L20.pn L20.pc), (L20.pay.val)]), (.bool true)]) (i := 0) rfl rfl) rfl ?_
  refine sq (St.closed _ _ _ _) (q_extract (vs := [(.agg #[(L20.nums.val), (.slice L20.dA L20.dn L20.dc), (.slice L20.pA L20.pn L20.pc), (L20.pay.val)]), (.bool true)]) (i := 1) rfl rfl) rfl ?_
  refine sl_ (l_storeAgg (b := b4) (off := 0) (j := 0) (vs := [(L20.nums.val), (.slice L20.dA L20.dn L20.dc), (.slice L20.pA L20.pn L20.pc), (L20.pay.val)]) rfl rfl aggs_29 (by simp [Value.one1]) rfl rfl rfl (Nat.le_of_ble_eq_true rfl) ?_)
  refine sq (St.closed _ _ _ _) (q_assign rfl) rfl ?_
  refine send ?_
  refine eseq ?_
  refine HT.ret ?_
  exact fun a ha w' hw => fin_ ha (resc2 ha Tryz.results27 rfl (ld_ aggs_29 hw (j := 0) rfl rfl (vs := [(L20.nums.val), (.slice L20.dA L20.dn L20.dc), (.slice L20.pA L20.pn L20.pc), (L20.pay.val)]) rfl) rfl) ⟨L20, rfl, hw.pres, ⟨hw.fact (j := 3) rfl, fun i hi => (hfr i hi).elim .inl (fun h => .inl ((hf1 _ List.mem_cons_self) i h))⟩, hda⟩
end Go.Proofs.YtfkaafbeeegenaaGreat.Zed
