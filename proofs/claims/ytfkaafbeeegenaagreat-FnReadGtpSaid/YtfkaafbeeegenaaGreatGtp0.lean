/- gtp: the reference -/
import Derived.Test.YtfkaafbeeegenaaGreatGtp0x
import Derived.KernelRfl
namespace Go.Proofs.YtfkaafbeeegenaaGreat.Zed
set_option linter.unusedVariables false
set_option linter.unusedSimpArgs false
set_option maxRecDepth 100000
set_option maxHeartbeats 4000000


abbrev gtp_s13_k0 (b48 : Nat) (bs : List UInt8) : Kb := ⟨b48, 39, [some (.int .u64 (((nb bs 0) / 32 : Nat) : Int)), some (.int .u64 ((((nb bs 0) / 16) &&& 1 : Nat) : Int)), some (.int .u64 ((((nb bs 0) / 8) &&& 1 : Nat) : Int)), some (.int .u64 ((((nb bs 0) / 4) &&& 1 : Nat) : Int)), some (.int .u64 ((((nb bs 0) / 2) &&& 1 : Nat) : Int)), some (.int .u64 (((nb bs 0) &&& 1 : Nat) : Int)), some (.int .u64 ((nb bs 1 : Nat) : Int)), some (.int .u64 ((bN bs 2 2 : Nat) : Int)), some (.int .u64 ((bN bs 4 4 : Nat) : Int)), some (.int .u64 ((bN bs 8 2 : Nat) : Int)), some (.int .u64 ((nb bs 10 : Nat) : Int))], true⟩
abbrev gtp_s13_k1 (b2 : Nat) : Kb := ⟨b2, 29, [some (.slice none 0 0), some (.slice none 0 0), some (.slice none 0 0), some (.slice none 0 0)], true⟩
abbrev gtp_s13_k2 (b146 : Nat) (b140 : Nat) (Ai : Option Addr) (ci : Nat) (bs : List UInt8) (i : Nat) : Kb := ⟨b146, 49, [some (.slice (some ⟨b140, 0, none⟩) 1 1), some (.slice (cutA Ai ci 1) (((4 * (nb bs (tof bs i))) - 1) - 1) (ci - 1))], true⟩
abbrev gtp_s13_k3 (b6 : Nat) (b48 : Nat) (v : Value) (A : Option Addr) (c : Nat) (n : Nat) : Kb := ⟨b6, 29, [some (.slice (some ⟨b48, 0, none⟩) 11 11), some (.slice none 0 0), some v, some (.slice (cutA A c 8) (n - 8) (c - 8))], true⟩
abbrev gtp_s13_k4 (b6 : Nat) (b48 : Nat) (v147 : Value) (A : Option Addr) (c : Nat) (n : Nat) : Kb := ⟨b6, 29, [some (.slice (some ⟨b48, 0, none⟩) 11 11), some (.slice none 0 0), some v147, some (.slice (cutA A c 8) (n - 8) (c - 8))], true⟩

theorem gtp_s13 (w : World) (A : Option Addr) (n : Nat) (c : Nat) (bs : List UInt8) (N : Nat) (hn : n ≤ 2147483647) (ha : 8 ≤ n) (hb : bN bs 2 2 ≤ n - 8) (hc : 12 ≤ n) (hd : 4 ≤ bN bs 2 2) (he : nb bs 0 % 8 = 7) (hf : nb bs 11 ≠ 0) (hg : ∀ i, i < N → nb bs (tof bs i - 1) ≠ 0 ∧ tof bs i < n ∧ nb bs (tof bs i) ≠ 0 ∧ tof bs i + 4 * nb bs (tof bs i) ≤ n) (hh : nb bs (tof bs N - 1) = 0) (hst : St w [] [] [Byt A n c bs] w) : Calls Tryz.prog 40 #[(.slice A n c)] w (SP w (Byt A n c bs) (some (some ⟨[(nb bs 0) / 32, ((nb bs 0) / 16) &&& 1, ((nb bs 0) / 8) &&& 1, ((nb bs 0) / 4) &&& 1, ((nb bs 0) / 2) &&& 1, (nb bs 0) &&& 1, nb bs 1, bN bs 2 2, bN bs 4 4, bN bs 8 2, nb bs 10], [], ((List.range N).map (fun j => ([nb bs (tof bs j - 1)], sl bs (tof bs j + 1) (tof bs j + (4 * (nb bs (tof bs j)) - 1))))), sl bs (tof bs N) n⟩))) := by
  have hnc00 : n ≤ c := (hst.fact (j := 0) rfl).2.1
  have halN := tof_all (by omega) hg N (Nat.le_refl N)
  refine enter (vs := [(.slice A n c)]) Tryz.func40 rfl rfl rfl hst ?_
  refine HT.seq ?_
  refine HT.plain ?_
  refine sl_ (l_alloc (by decide) zero_29 fun b2 => ?_)
  refine sAs rfl rfl ?_
  refine sAs rfl rfl ?_
  refine send ?_
  refine eseq ?_
  refine HT.seq ?_
  refine HT.plain ?_
  refine sMv rfl rfl ?_
  refine sqS (q_index (i := 0) (j := 0) rfl rfl Tryz.underlying22 nagg_5 (fun _ h => h) rfl (by omega)) rfl ?_
  refine sqS (q_byte (i := 0) (j := 0) rfl nagg_5 (fun _ h => h) rfl (by omega)) rfl ?_
  refine sAs rfl rfl ?_
  refine send ?_
  refine eseq ?_
  refine HT.seq ?_
  refine HT.drawnS mixed (St.closed _ _ _ _) ?_
  refine dtake (f := 4) [0, 1, 2, 3, 4, 5, 6, 7, 8, 9, 10, 11, 12, 13, 14, 15, 16, 17, 18, 19, 20, 21, 22, 23, 24, 25, 26, 27, 28, 29, 30, 31, 32, 33] (by kernel_rfl) (St.closed _ _ _ _) (fun _ h => h) (by kernel_rfl) ?_
  refine dq rfl (q_move rfl) ?_
  refine dq rfl (q_slice (lo := 8) (hi := n) rfl Tryz.underlying22 nagg_5 (.inr ⟨_, _, rfl, rfl⟩) (.inl ⟨rfl, rfl⟩) (by omega) (by omega)) ?_
  refine dq rfl (q_move rfl) ?_
  refine dq rfl (q_shr (p := nb bs 0) (e := 5) (N := 32) rfl rfl (by decide) rfl) ?_
  refine dq rfl (q_convn (p := (nb bs 0) / 32) rfl Tryz.underlying5 Tryz.underlying39 (show (nb bs 0) / 32 < 18446744073709551616 by have := nb_lt bs 0; omega)) ?_
  refine dq rfl (q_move rfl) ?_
  refine dq rfl (q_shr (p := nb bs 0) (e := 4) (N := 16) rfl rfl (by decide) rfl) ?_
  refine dq rfl (q_and (p := (nb bs 0) / 16) (q := 1) rfl rfl rfl (show (nb bs 0) / 16 < 256 by have := nb_lt bs 0; omega) (by decide)) ?_
  refine dq rfl (q_convn (p := ((nb bs 0) / 16) &&& 1) rfl Tryz.underlying5 Tryz.underlying39 (show ((nb bs 0) / 16) &&& 1 < 18446744073709551616 by have := nb_lt bs 0; have := zm1 ((nb bs 0) / 16); have := Nat.and_le_left (n := (nb bs 0) / 16) (m := 1); have := Nat.and_le_right (n := (nb bs 0) / 16) (m := 1); omega)) ?_
  refine dq rfl (q_move rfl) ?_
  refine dq rfl (q_shr (p := nb bs 0) (e := 3) (N := 8) rfl rfl (by decide) rfl) ?_
  refine dq rfl (q_and (p := (nb bs 0) / 8) (q := 1) rfl rfl rfl (show (nb bs 0) / 8 < 256 by have := nb_lt bs 0; omega) (by decide)) ?_
  refine dq rfl (q_convn (p := ((nb bs 0) / 8) &&& 1) rfl Tryz.underlying5 Tryz.underlying39 (show ((nb bs 0) / 8) &&& 1 < 18446744073709551616 by have := nb_lt bs 0; have := zm1 ((nb bs 0) / 8); have := Nat.and_le_left (n := (nb bs 0) / 8) (m := 1); have := Nat.and_le_right (n := (nb bs 0) / 8) (m := 1); omega)) ?_
  refine dq rfl (q_move rfl) ?_
  refine dq rfl (q_shr (p := nb bs 0) (e := 2) (N := 4) rfl rfl (by decide) rfl) ?_
  refine dq rfl (q_and (p := (nb bs 0) / 4) (q := 1) rfl rfl rfl (show (nb bs 0) / 4 < 256 by have := nb_lt bs 0; omega) (by decide)) ?_
  refine dq rfl (q_convn (p := ((nb bs 0) / 4) &&& 1) rfl Tryz.underlying5 Tryz.underlying39 (show ((nb bs 0) / 4) &&& 1 < 18446744073709551616 by have := nb_lt bs 0; have := zm1 ((nb bs 0) / 4); have := Nat.and_le_left (n := (nb bs 0) / 4) (m := 1); have := Nat.and_le_right (n := (nb bs 0) / 4) (m := 1); omega)) ?_
  refine dq rfl (q_move rfl) ?_
  refine dq rfl (q_shr (p := nb bs 0) (e := 1) (N := 2) rfl rfl (by decide) rfl) ?_
  refine dq rfl (q_and (p := (nb bs 0) / 2) (q := 1) rfl rfl rfl (show (nb bs 0) / 2 < 256 by have := nb_lt bs 0; omega) (by decide)) ?_
  refine dq rfl (q_convn (p := ((nb bs 0) / 2) &&& 1) rfl Tryz.underlying5 Tryz.underlying39 (show ((nb bs 0) / 2) &&& 1 < 18446744073709551616 by have := nb_lt bs 0; have := zm1 ((nb bs 0) / 2); have := Nat.and_le_left (n := (nb bs 0) / 2) (m := 1); have := Nat.and_le_right (n := (nb bs 0) / 2) (m := 1); omega)) ?_
  refine dq rfl (q_move rfl) ?_
  refine dq rfl (q_and (p := nb bs 0) (q := 1) rfl rfl rfl (show nb bs 0 < 256 by have := nb_lt bs 0; omega) (by decide)) ?_
  refine dq rfl (q_convn (p := (nb bs 0) &&& 1) rfl Tryz.underlying5 Tryz.underlying39 (show (nb bs 0) &&& 1 < 18446744073709551616 by have := nb_lt bs 0; have := zm1 (nb bs 0); have := Nat.and_le_left (n := nb bs 0) (m := 1); have := Nat.and_le_right (n := nb bs 0) (m := 1); omega)) ?_
  refine dq rfl (q_move rfl) ?_
  refine dq rfl (q_index (i := 1) (j := 0) rfl rfl Tryz.underlying22 nagg_5 (fun _ h => h) rfl (by omega)) ?_
  refine dq rfl (q_byte (i := 1) (j := 0) rfl nagg_5 (fun _ h => h) rfl (by omega)) ?_
  refine dq rfl (q_convn (p := nb bs 1) rfl Tryz.underlying5 Tryz.underlying39 (show nb bs 1 < 18446744073709551616 by have := nb_lt bs 1; omega)) ?_
  refine dq rfl (q_move rfl) ?_
  refine dq rfl (q_slice (lo := 2) (hi := 4) rfl Tryz.underlying22 nagg_5 (.inr ⟨_, _, rfl, rfl⟩) (.inr ⟨_, _, rfl, rfl⟩) (by omega) (by omega)) ?_
  refine dq rfl (q_call (vs := [(.slice (cutA A c 2) (4 - 2) (c - 2))]) (v := (.int .u64 ((bN bs 2 2 : Nat) : Int))) rfl ca_34 (fun w h => NumberC w A n c bs (lo := 2) (hi := 4) (h.fact (j := 0) rfl) (k := 2) rfl (by decide) (by omega) (by omega))) ?_
  refine dq rfl (q_move rfl) ?_
  refine dq rfl (q_slice (lo := 4) (hi := 8) rfl Tryz.underlying22 nagg_5 (.inr ⟨_, _, rfl, rfl⟩) (.inr ⟨_, _, rfl, rfl⟩) (by omega) (by omega)) ?_
  refine dq rfl (q_call (vs := [(.slice (cutA A c 4) (8 - 4) (c - 4))]) (v := (.int .u64 ((bN bs 4 4 : Nat) : Int))) rfl ca_34 (fun w h => NumberC w A n c bs (lo := 4) (hi := 8) (h.fact (j := 0) rfl) (k := 4) rfl (by decide) (by omega) (by omega))) ?_
  refine QL.nil ?_
  refine RG.step2 34 36 (by kernel_rfl) ?_ ?_
  · refine dop rfl (l_buildSlice (e := 39) (vs := [(0, (.int .u64 (((nb bs 0) / 32 : Nat) : Int))), (1, (.int .u64 ((((nb bs 0) / 16) &&& 1 : Nat) : Int))), (2, (.int .u64 ((((nb bs 0) / 8) &&& 1 : Nat) : Int))), (3, (.int .u64 ((((nb bs 0) / 4) &&& 1 : Nat) : Int))), (4, (.int .u64 ((((nb bs 0) / 2) &&& 1 : Nat) : Int))), (5, (.int .u64 (((nb bs 0) &&& 1 : Nat) : Int))), (6, (.int .u64 ((nb bs 1 : Nat) : Int))), (7, (.int .u64 ((bN bs 2 2 : Nat) : Int))), (8, (.int .u64 ((bN bs 4 4 : Nat) : Int))), (9, (.int .u64 ((0 : Nat) : Int))), (10, (.int .u64 ((0 : Nat) : Int)))]) (cs := [(.int .u64 (((nb bs 0) / 32 : Nat) : Int)), (.int .u64 ((((nb bs 0) / 16) &&& 1 : Nat) : Int)), (.int .u64 ((((nb bs 0) / 8) &&& 1 : Nat) : Int)), (.int .u64 ((((nb bs 0) / 4) &&& 1 : Nat) : Int)), (.int .u64 ((((nb bs 0) / 2) &&& 1 : Nat) : Int)), (.int .u64 (((nb bs 0) &&& 1 : Nat) : Int)), (.int .u64 ((nb bs 1 : Nat) : Int)), (.int .u64 ((bN bs 2 2 : Nat) : Int)), (.int .u64 ((bN bs 4 4 : Nat) : Int)), (.int .u64 ((0 : Nat) : Int)), (.int .u64 ((0 : Nat) : Int))]) (by decide) rfl (fun _ => by kernel_rfl) fun b48 => ⟨(fun _ h => (h.wk [(0, [])] rfl)), ?_⟩)
    refine dtake (f := 2) [35] (by kernel_rfl) (St.closed _ _ _ _) (fun _ h => (h.wk [(0, [])] rfl)) (by kernel_rfl) ?_
    refine dq rfl (q_call (vs := [(.slice (cutA A c 8) (n - 8) (c - 8)), (.slice (some ⟨b48, 0, none⟩) 11 11)]) (v := (.agg #[(.slice (some ⟨b48, 0, none⟩) 11 11), (.slice none 0 0), (.slice none 0 0), (.slice (cutA A c 8) (n - 8) (c - 8))])) rfl ca_33 (fun w h => layerC w (cutA A c 8) (n - 8) (c - 8) (some ⟨b48, 0, none⟩) 11 11  (St.enter (sp := []) (Kc := []) (bi := []) h rfl rfl rfl))) ?_
    refine QL.nil ?_
    refine RG.step1 36 (by kernel_rfl) ?_
    refine dop rfl (l_alloc (by decide) zero_29 fun b6 => ⟨(fun _ h => (h.wk [(0, [])] rfl)), ?_⟩)
    refine RG.step1 37 (by kernel_rfl) ?_
    refine dop rfl (l_storeAgg (b := b6) (off := 0) (j := 2) (vs := [(.slice (some ⟨b48, 0, none⟩) 11 11), (.slice none 0 0), (.slice none 0 0), (.slice (cutA A c 8) (n - 8) (c - 8))]) rfl rfl aggs_29 (by simp [Value.one1]) rfl rfl rfl (Nat.le_of_ble_eq_true rfl) ⟨(fun _ h => (h.wk [(0, [])] rfl)), ?_⟩)
    refine dend (by kernel_rfl) ?_
    refine eseq ?_
    refine HT.seq ?_
    refine HT.seq ?_
    refine HT.plain ?_
    refine sMv rfl rfl ?_
    refine sqS (q_slice (lo := 2) (hi := 4) rfl Tryz.underlying22 nagg_5 (.inr ⟨_, _, rfl, rfl⟩) (.inr ⟨_, _, rfl, rfl⟩) (by omega) (by omega)) rfl ?_
    refine sqS (q_call (vs := [(.slice (cutA A c 2) (4 - 2) (c - 2))]) (v := (.int .u64 ((bN bs 2 2 : Nat) : Int))) rfl ca_34 (fun w h => NumberC w A n c bs (lo := 2) (hi := 4) (h.fact (j := 0) rfl) (k := 2) rfl (by decide) (by omega) (by omega))) rfl ?_
    refine sqS (q_convn (p := bN bs 2 2) rfl Tryz.underlying39 Tryz.underlying3 (show bN bs 2 2 < 9223372036854775808 by have := bN_lt bs 2 2 65536 rfl; omega)) rfl ?_
    refine sAs rfl rfl ?_
    refine send ?_
    refine eseq ?_
    refine HT.seq ?_
    refine HT.plain ?_
    refine sMv rfl rfl ?_
    refine sMv rfl rfl ?_
    refine sqS (q_len (len := n) rfl Tryz.underlying22) rfl ?_
    refine sqS (q_sub (p := n) (q := 8) rfl rfl (by omega) (show n < 9223372036854775808 by omega)) rfl ?_
    refine sqS (q_F (q_gt (p := bN bs 2 2) (q := n - 8) rfl rfl) (by have := bN_lt bs 2 2 65536 rfl; omega)) rfl ?_
    refine send ?_
    refine eseq ?_
    refine HT.no rfl ?_
    refine HT.skip ?_
    refine eseq ?_
    refine HT.seq ?_
    refine HT.seq ?_
    refine HT.plain ?_
    refine sMv rfl rfl ?_
    refine sqS (q_and (p := nb bs 0) (q := 7) rfl rfl rfl (show nb bs 0 < 256 by have := nb_lt bs 0; omega) (by decide)) rfl ?_
    refine sqS (q_F (q_eq (p := (nb bs 0) &&& 7) (q := 0) rfl rfl) (by have := nb_lt bs 0; have := zm7 (nb bs 0); have := Nat.and_le_left (n := nb bs 0) (m := 7); have := Nat.and_le_right (n := nb bs 0) (m := 7); omega)) rfl ?_
    refine send ?_
    refine eseq ?_
    refine HT.no rfl ?_
    refine HT.skip ?_
    refine eseq ?_
    refine HT.seq ?_
    refine HT.seq ?_
    refine HT.plain ?_
    refine sMv rfl rfl ?_
    refine sqS (q_len (len := n) rfl Tryz.underlying22) rfl ?_
    refine sqS (q_F (q_lt (p := n) (q := 12) rfl rfl) (by omega)) rfl ?_
    refine sMv rfl rfl ?_
    refine sgqS rfl (q_move rfl) rfl ?_
    refine sgqS rfl (q_slice (lo := 2) (hi := 4) rfl Tryz.underlying22 nagg_5 (.inr ⟨_, _, rfl, rfl⟩) (.inr ⟨_, _, rfl, rfl⟩) (by omega) (by omega)) rfl ?_
    refine sgqS rfl (q_call (vs := [(.slice (cutA A c 2) (4 - 2) (c - 2))]) (v := (.int .u64 ((bN bs 2 2 : Nat) : Int))) rfl ca_34 (fun w h => NumberC w A n c bs (lo := 2) (hi := 4) (h.fact (j := 0) rfl) (k := 2) rfl (by decide) (by omega) (by omega))) rfl ?_
    refine sgqS rfl (q_F (q_lt (p := bN bs 2 2) (q := 4) rfl rfl) (by have := bN_lt bs 2 2 65536 rfl; omega)) rfl ?_
    refine sqS (q_pick rfl (fun h => nomatch h) (fun _ => rfl)) rfl ?_
    refine send ?_
    refine eseq ?_
    refine HT.no rfl ?_
    refine HT.skip ?_
    refine eseq ?_
    refine HT.seq ?_
    refine HT.drawn mixed (St.closed _ _ _ _) (St w [] [(gtp_s13_k1 b2), ⟨b48, 39, [some (.int .u64 (((nb bs 0) / 32 : Nat) : Int)), some (.int .u64 ((((nb bs 0) / 16) &&& 1 : Nat) : Int)), some (.int .u64 ((((nb bs 0) / 8) &&& 1 : Nat) : Int)), some (.int .u64 ((((nb bs 0) / 4) &&& 1 : Nat) : Int)), some (.int .u64 ((((nb bs 0) / 2) &&& 1 : Nat) : Int)), some (.int .u64 (((nb bs 0) &&& 1 : Nat) : Int)), some (.int .u64 ((nb bs 1 : Nat) : Int)), some (.int .u64 ((bN bs 2 2 : Nat) : Int)), some (.int .u64 ((bN bs 4 4 : Nat) : Int)), none, none], true⟩, ⟨b6, 29, [some (.slice (some ⟨b48, 0, none⟩) 11 11), some (.slice none 0 0), some (.slice none 0 0), some (.slice (cutA A c 8) (n - 8) (c - 8))], true⟩] [Byt A n c bs]) ?_
    refine dtake (f := 3) [0, 1, 2, 3, 4, 5, 6, 7, 8, 9, 10, 11] (by kernel_rfl) (St.closed _ _ _ _) (fun _ h => (h.wk [(0, []), (1, [9, 10]), (2, [])] rfl)) (by kernel_rfl) ?_
    refine dq rfl (q_field (b := b6) (off := 0) rfl fo_29_0) ?_
    refine dq rfl (q_load (b := b6) (off := 0) (j := 2) rfl nagg_25 (fun _ h => h) rfl rfl rfl) ?_
    refine dq rfl (q_field (b := b6) (off := 0) rfl fo_29_0) ?_
    refine dq rfl (q_load (b := b6) (off := 0) (j := 2) rfl nagg_25 (fun _ h => h) rfl rfl rfl) ?_
    refine dq rfl (q_move rfl) ?_
    refine dq rfl (q_slice (lo := 8) (hi := 10) rfl Tryz.underlying22 nagg_5 (.inr ⟨_, _, rfl, rfl⟩) (.inr ⟨_, _, rfl, rfl⟩) (by omega) (by omega)) ?_
    refine dq rfl (q_call (vs := [(.slice (cutA A c 8) (10 - 8) (c - 8))]) (v := (.int .u64 ((bN bs 8 2 : Nat) : Int))) rfl ca_34 (fun w h => NumberC w A n c bs (lo := 8) (hi := 10) (h.fact (j := 0) rfl) (k := 2) rfl (by decide) (by omega) (by omega))) ?_
    refine dq rfl (q_move rfl) ?_
    refine dq rfl (q_index (i := 10) (j := 0) rfl rfl Tryz.underlying22 nagg_5 (fun _ h => h) rfl (by omega)) ?_
    refine dq rfl (q_byte (i := 10) (j := 0) rfl nagg_5 (fun _ h => h) rfl (by omega)) ?_
    refine dq rfl (q_convn (p := nb bs 10) rfl Tryz.underlying5 Tryz.underlying39 (show nb bs 10 < 18446744073709551616 by have := nb_lt bs 10; omega)) ?_
    refine dq rfl (q_indexK (b := b48) (i := 9) (sz := 1) rfl rfl Tryz.underlying25 size_39 (by decide)) ?_
    refine QL.nil ?_
    refine RG.step1 12 (by kernel_rfl) ?_
    refine dop rfl (l_store (b := b48) (off := 9) (j := 1) rfl rfl nagg_39 rfl rfl rfl rfl (dlt rfl) ⟨(fun _ h => (h.wk [(0, []), (1, [9, 10]), (2, [])] rfl)), ?_⟩)
    refine dtake (f := 1) [13] (by kernel_rfl) (St.closed _ _ _ _) (fun _ h => (h.wk [(0, []), (1, [9, 10]), (2, [])] rfl)) (by kernel_rfl) ?_
    refine dq rfl (q_indexK (b := b48) (i := 10) (sz := 1) rfl rfl Tryz.underlying25 size_39 (by decide)) ?_
    refine QL.nil ?_
    refine RG.step1 14 (by kernel_rfl) ?_
    refine dop rfl (l_store (b := b48) (off := 10) (j := 1) rfl rfl nagg_39 rfl rfl rfl rfl (dlt rfl) ⟨(fun _ h => (h.wk [(0, []), (1, [9, 10]), (2, [])] rfl)), ?_⟩)
    refine dend (by kernel_rfl) ?_
    refine eseq ?_
    refine HT.seq ?_
    refine HT.seq ?_
    refine HT.plain ?_
    refine sMv rfl rfl ?_
    refine sqS (q_and (p := nb bs 0) (q := 2) rfl rfl rfl (show nb bs 0 < 256 by have := nb_lt bs 0; omega) (by decide)) rfl ?_
    refine sqS (q_F (q_eq (p := (nb bs 0) &&& 2) (q := 0) rfl rfl) (by have := nb_lt bs 0; have := zb2 (nb bs 0); have := Nat.and_le_left (n := nb bs 0) (m := 2); have := Nat.and_le_right (n := nb bs 0) (m := 2); omega)) rfl ?_
    refine sMv rfl rfl ?_
    refine sgqS rfl (q_move rfl) rfl ?_
    refine sgqS rfl (q_and (p := nb bs 0) (q := 1) rfl rfl rfl (show nb bs 0 < 256 by have := nb_lt bs 0; omega) (by decide)) rfl ?_
    refine sgqS rfl (q_F (q_eq (p := (nb bs 0) &&& 1) (q := 0) rfl rfl) (by have := nb_lt bs 0; have := zm1 (nb bs 0); have := Nat.and_le_left (n := nb bs 0) (m := 1); have := Nat.and_le_right (n := nb bs 0) (m := 1); omega)) rfl ?_
    refine sqS (q_pick rfl (fun h => nomatch h) (fun _ => rfl)) rfl ?_
    refine send ?_
    refine eseq ?_
    refine HT.no rfl ?_
    refine HT.skip ?_
    refine eseq ?_
    refine HT.seq ?_
    refine HT.drawnS mixed (St.closed _ _ _ _) ?_
    refine dtake (f := 0) [0, 1, 2, 3, 4, 5, 6] (by kernel_rfl) (St.closed _ _ _ _) (fun _ h => h) (by kernel_rfl) ?_
    refine dq rfl (q_move rfl) ?_
    refine dq rfl (q_index (i := 11) (j := 0) rfl rfl Tryz.underlying22 nagg_5 (fun _ h => h) rfl (by omega)) ?_
    refine dq rfl (q_byte (i := 11) (j := 0) rfl nagg_5 (fun _ h => h) rfl (by omega)) ?_
    refine dq rfl (q_move rfl) ?_
    refine dq rfl (q_slice (lo := 12) (hi := n) rfl Tryz.underlying22 nagg_5 (.inr ⟨_, _, rfl, rfl⟩) (.inl ⟨rfl, rfl⟩) (by omega) (by omega)) ?_
    refine dq rfl (q_assign rfl) ?_
    refine dq rfl (q_assign rfl) ?_
    refine QL.nil ?_
    refine dend (by kernel_rfl) ?_
    refine eseq ?_
    refine HT.seq ?_
    refine HT.seq ?_
    refine HT.plain ?_
    refine sMv rfl rfl ?_
    refine sqS (q_and (p := nb bs 0) (q := 4) rfl rfl rfl (show nb bs 0 < 256 by have := nb_lt bs 0; omega) (by decide)) rfl ?_
    refine sqS (q_F (q_eq (p := (nb bs 0) &&& 4) (q := 0) rfl rfl) (by have := nb_lt bs 0; have := zb4 (nb bs 0); have := Nat.and_le_left (n := nb bs 0) (m := 4); have := Nat.and_le_right (n := nb bs 0) (m := 4); omega)) rfl ?_
    refine send ?_
    refine eseq ?_
    refine HT.no rfl ?_
    refine HT.seq ?_
    refine HT.plain ?_
    refine sMv rfl rfl ?_
    refine sqS (q_F (q_eq (p := nb bs 11) (q := 0) rfl rfl) (by have := nb_lt bs 11; omega)) rfl ?_
    refine send ?_
    refine eseq ?_
    refine HT.no rfl ?_
    refine HT.skip ?_
    refine eseq ?_
    refine HT.seq ?_
    refine HT.block ?_
    refine HT.loop (ι := {p : Nat × Option Addr × Nat × Value × List Kb × List (NI × BI) // PSt w.heap.size (Byt A n c bs) (fun j => ([nb bs (tof bs j - 1)], sl bs (tof bs j + 1) (tof bs j + (4 * (nb bs (tof bs j)) - 1)))) (fun j => tof bs j) n bs N p.1 p.2.1 p.2.2.1 p.2.2.2.1 p.2.2.2.2.1 p.2.2.2.2.2}) (fun p => [(2, (.pointer (some ⟨b2, 0, none⟩))), (6, (.pointer (some ⟨b6, 0, none⟩))), (9, (.slice p.1.2.1 (n - (tof bs p.1.1)) p.1.2.2.1)), (8, (.int .u8 ((nb bs (tof bs p.1.1 - 1) : Nat) : Int)))]) (fun p => St w [] ([(gtp_s13_k1 b2), (gtp_s13_k0 b48 bs), ⟨b6, 29, [some (.slice (some ⟨b48, 0, none⟩) 11 11), some (.slice none 0 0), some p.1.2.2.2.1, some (.slice (cutA A c 8) (n - 8) (c - 8))], true⟩] ++ p.1.2.2.2.2.1) [Byt A n c bs, Byt p.1.2.1 (n - (tof bs p.1.1)) p.1.2.2.1 (sl bs (tof bs p.1.1) n), psF p.1.2.2.2.2.2]) (fun p => N - p.1.1) ⟨(0, cutA A c 12, c - 12, .slice none 0 0, [], []), PSt.nil (fun x hx => Byt.cut_fp (lo := 12) (hi := n) hx.1 hx) (show n - 12 ≤ c - 12 by omega)⟩ ⟨rfl, rfl, rfl, rfl, trivial⟩ (fun _ h => psF_nil (B := [Byt A n c bs, Byt (cutA A c 12) (n - 12) (c - 12) (sl bs 12 n)]) (h.cut (j := 0) (lo := 12) (hi := n) rfl (by omega) (by omega))) fun ⟨⟨i, Ai, ci, v, Kr, ps⟩, hp⟩ => ?_
    replace hp : PSt w.heap.size (Byt A n c bs) (fun j => ([nb bs (tof bs j - 1)], sl bs (tof bs j + 1) (tof bs j + (4 * (nb bs (tof bs j)) - 1)))) (fun j => tof bs j) n bs N i Ai ci v Kr ps := hp
    have hil : i ≤ N := hp.le
    have hr : RowS 49 2 i (psV ps) v Kr := hp.row
    have hcp : n - tof bs i ≤ ci := hp.cap
    have ho := tof_succ bs i
    have hge := tof_ge bs i
    have hal := tof_all (by omega) hg i (by omega)
    have hc := hg i
    have hz : i = N → nb bs (tof bs i - 1) = 0 := fun e => by rw [e]; exact hh
    show HT _ _ _ [(2, (.pointer (some ⟨b2, 0, none⟩))), (6, (.pointer (some ⟨b6, 0, none⟩))), (9, (.slice Ai (n - (tof bs i)) ci)), (8, (.int .u8 ((nb bs (tof bs i - 1) : Nat) : Int)))] (St w [] ([(gtp_s13_k1 b2), (gtp_s13_k0 b48 bs), (gtp_s13_k3 b6 b48 v A c n)] ++ Kr) [Byt A n c bs, Byt Ai (n - (tof bs i)) ci (sl bs (tof bs i) n), psF ps]) _
    refine HT.seq ?_
    refine HT.seq ?_
    refine HT.plain ?_
    refine sMv rfl rfl ?_
    by_cases h1 : nb bs (tof bs i - 1) ≠ 0
    · refine sqS (q_T (q_ne (p := nb bs (tof bs i - 1)) (q := 0) rfl rfl) h1) rfl ?_
      refine send ?_
      refine eseq ?_
      refine HT.yes rfl ?_
      refine HT.skip ?_
      refine eseq ?_
      refine HT.block ?_
      refine HT.seq ?_
      refine HT.seq ?_
      refine HT.plain ?_
      refine sMv rfl rfl ?_
      refine sqS (q_len (len := n - (tof bs i)) rfl Tryz.underlying22) rfl ?_
      refine sqS (q_F (q_eq (p := n - (tof bs i)) (q := 0) rfl rfl) (by omega)) rfl ?_
      refine sMv rfl rfl ?_
      refine sgqS rfl (q_move rfl) rfl ?_
      refine sgqS rfl (q_index (i := 0) (j := 1) rfl rfl Tryz.underlying22 nagg_5 (fun _ h => h) rfl (by omega)) rfl ?_
      refine sgqS rfl (q_N (q_byte (i := 0) (j := 1) rfl nagg_5 (fun _ h => h) rfl (by omega)) (a := nb (sl bs (tof bs i) n) 0) (b := nb bs (tof bs i)) (nb_sl (by omega))) rfl ?_
      refine sgqS rfl (q_F (q_eq (p := nb bs (tof bs i)) (q := 0) rfl rfl) (by have := nb_lt bs (tof bs i); omega)) rfl ?_
      refine sqS (q_pick rfl (fun h => nomatch h) (fun _ => rfl)) rfl ?_
      refine sMv rfl rfl ?_
      refine sgqS rfl (q_move rfl) rfl ?_
      refine sgqS rfl (q_index (i := 0) (j := 1) rfl rfl Tryz.underlying22 nagg_5 (fun _ h => h) rfl (by omega)) rfl ?_
      refine sgqS rfl (q_N (q_byte (i := 0) (j := 1) rfl nagg_5 (fun _ h => h) rfl (by omega)) (a := nb (sl bs (tof bs i) n) 0) (b := nb bs (tof bs i)) (nb_sl (by omega))) rfl ?_
      refine sgqS rfl (q_convn (p := nb bs (tof bs i)) rfl Tryz.underlying5 Tryz.underlying3 (show nb bs (tof bs i) < 9223372036854775808 by have := nb_lt bs (tof bs i); omega)) rfl ?_
      refine sgqS rfl (q_mul (p := 4) (q := nb bs (tof bs i)) rfl rfl (show 4 * (nb bs (tof bs i)) < 9223372036854775808 by have := nb_lt bs (tof bs i); omega)) rfl ?_
      refine sgqS rfl (q_move rfl) rfl ?_
      refine sgqS rfl (q_len (len := n - (tof bs i)) rfl Tryz.underlying22) rfl ?_
      refine sgqS rfl (q_F (q_gt (p := 4 * (nb bs (tof bs i))) (q := n - (tof bs i)) rfl rfl) (by have := nb_lt bs (tof bs i); omega)) rfl ?_
      refine sqS (q_pick rfl (fun h => nomatch h) (fun _ => rfl)) rfl ?_
      refine send ?_
      refine eseq ?_
      refine HT.no rfl ?_
      refine HT.skip ?_
      refine eseq ?_
      refine HT.seq ?_
      refine HT.plain ?_
      refine sMv rfl rfl ?_
      refine sqS (q_index (i := 0) (j := 1) rfl rfl Tryz.underlying22 nagg_5 (fun _ h => h) rfl (by omega)) rfl ?_
      refine sqS (q_N (q_byte (i := 0) (j := 1) rfl nagg_5 (fun _ h => h) rfl (by omega)) (a := nb (sl bs (tof bs i) n) 0) (b := nb bs (tof bs i)) (nb_sl (by omega))) rfl ?_
      refine sqS (q_convn (p := nb bs (tof bs i)) rfl Tryz.underlying5 Tryz.underlying3 (show nb bs (tof bs i) < 9223372036854775808 by have := nb_lt bs (tof bs i); omega)) rfl ?_
      refine sqS (q_mul (p := 4) (q := nb bs (tof bs i)) rfl rfl (show 4 * (nb bs (tof bs i)) < 9223372036854775808 by have := nb_lt bs (tof bs i); omega)) rfl ?_
      refine sAs rfl rfl ?_
      refine send ?_
      refine eseq ?_
      refine HT.seq ?_
      refine HT.drawn mixed (St.closed _ _ _ _) (St w [] [(gtp_s13_k1 b2), (gtp_s13_k0 b48 bs), ⟨b6, 29, [some (.slice (some ⟨b48, 0, none⟩) 11 11), some (.slice none 0 0), none, some (.slice (cutA A c 8) (n - 8) (c - 8))], true⟩] [Byt A n c bs, Byt Ai (n - (tof bs i)) ci (sl bs (tof bs i) n), psF ps]) ?_
      refine dtake (f := 7) [0, 2, 3, 5, 6, 7, 8] (by kernel_rfl) (St.closed _ _ _ _) (fun _ h => (St.wk (St.untail (K := [(gtp_s13_k1 b2), (gtp_s13_k0 b48 bs), (gtp_s13_k3 b6 b48 v A c n)]) (Kr := Kr) h) [(0, []), (1, []), (2, [2])] rfl)) (by kernel_rfl) ?_
      refine dq rfl (q_field (b := b6) (off := 0) rfl fo_29_2) ?_
      refine dq rfl (q_move rfl) ?_
      refine dq rfl (q_convn (p := nb bs (tof bs i - 1)) rfl Tryz.underlying5 Tryz.underlying39 (show nb bs (tof bs i - 1) < 18446744073709551616 by have := nb_lt bs (tof bs i - 1); omega)) ?_
      refine dq rfl (q_move rfl) ?_
      refine dq rfl (q_move rfl) ?_
      refine dq rfl (q_sub (p := 4 * (nb bs (tof bs i))) (q := 1) rfl rfl (by have := nb_lt bs (tof bs i); omega) (show 4 * (nb bs (tof bs i)) < 9223372036854775808 by have := nb_lt bs (tof bs i); omega)) ?_
      refine dq rfl (q_slice (lo := 1) (hi := (4 * (nb bs (tof bs i))) - 1) rfl Tryz.underlying22 nagg_5 (.inr ⟨_, _, rfl, rfl⟩) (.inr ⟨_, _, rfl, rfl⟩) (by have := nb_lt bs (tof bs i); omega) (by have := nb_lt bs (tof bs i); omega)) ?_
      refine QL.nil ?_
      refine RG.step2 1 4 (by kernel_rfl) ?_ ?_
      · refine dop rfl (l_q _ (by simp) (St.closed _ _ _ _) (q_load (b := b6) (off := 2) (j := 2) rfl nagg_27 (fun _ h => h) rfl rfl rfl) ⟨(fun _ h => (St.wk (St.untail (K := [(gtp_s13_k1 b2), (gtp_s13_k0 b48 bs), (gtp_s13_k3 b6 b48 v A c n)]) (Kr := Kr) h) [(0, []), (1, []), (2, [2])] rfl)), ?_⟩)
        refine RG.step1 4 (by kernel_rfl) ?_
        refine dop rfl (l_buildSliceT (K := [(gtp_s13_k1 b2), (gtp_s13_k0 b48 bs), (gtp_s13_k3 b6 b48 v A c n)]) (Kr := Kr) (e := 39) (vs := [(0, (.int .u64 ((nb bs (tof bs i - 1) : Nat) : Int)))]) (cs := [(.int .u64 ((nb bs (tof bs i - 1) : Nat) : Int))]) (by decide) rfl (fun _ => by kernel_rfl) fun b140 => ⟨(fun _ h => (St.wk (St.untail (K := [(gtp_s13_k1 b2), (gtp_s13_k0 b48 bs), (gtp_s13_k3 b6 b48 v A c n), ⟨b140, 39, [some (.int .u64 ((nb bs (tof bs i - 1) : Nat) : Int))], true⟩]) (Kr := Kr) h) [(0, []), (1, []), (2, [2])] rfl)), ?_⟩)
        refine dtake (f := 4) [9] (by kernel_rfl) (St.closed _ _ _ _) (fun _ h => (St.wk (St.untail (K := [(gtp_s13_k1 b2), (gtp_s13_k0 b48 bs), (gtp_s13_k3 b6 b48 v A c n), ⟨b140, 39, [some (.int .u64 ((nb bs (tof bs i - 1) : Nat) : Int))], true⟩]) (Kr := Kr) h) [(0, []), (1, []), (2, [2])] rfl)) (by kernel_rfl) ?_
        refine dq rfl (q_build (vs := [(0, (.slice (some ⟨b140, 0, none⟩) 1 1)), (1, (.slice (cutA Ai ci 1) (((4 * (nb bs (tof bs i))) - 1) - 1) (ci - 1)))]) (v := (.agg #[(.slice (some ⟨b140, 0, none⟩) 1 1), (.slice (cutA Ai ci 1) (((4 * (nb bs (tof bs i))) - 1) - 1) (ci - 1))])) rfl (fun _ => by kernel_rfl)) ?_
        refine QL.nil ?_
        refine RG.step1 10 (by kernel_rfl) ?_
        refine dop rfl (l_buildSliceT (K := [(gtp_s13_k1 b2), (gtp_s13_k0 b48 bs), (gtp_s13_k3 b6 b48 v A c n), ⟨b140, 39, [some (.int .u64 ((nb bs (tof bs i - 1) : Nat) : Int))], true⟩]) (Kr := Kr) (e := 49) (vs := [(0, (.agg #[(.slice (some ⟨b140, 0, none⟩) 1 1), (.slice (cutA Ai ci 1) (((4 * (nb bs (tof bs i))) - 1) - 1) (ci - 1))]))]) (cs := [(.slice (some ⟨b140, 0, none⟩) 1 1), (.slice (cutA Ai ci 1) (((4 * (nb bs (tof bs i))) - 1) - 1) (ci - 1))]) (by decide) rfl (fun _ => by kernel_rfl) fun b146 => ⟨(fun _ h => (St.wk (St.untail (K := [(gtp_s13_k1 b2), (gtp_s13_k0 b48 bs), (gtp_s13_k3 b6 b48 v A c n), ⟨b140, 39, [some (.int .u64 ((nb bs (tof bs i - 1) : Nat) : Int))], true⟩, (gtp_s13_k2 b146 b140 Ai ci bs i)]) (Kr := Kr) h) [(0, []), (1, []), (2, [2])] rfl)), ?_⟩)
        refine RG.step1 11 (by kernel_rfl) ?_
        refine dop rfl (l_appendR2 (K0 := [(gtp_s13_k1 b2), (gtp_s13_k0 b48 bs), (gtp_s13_k3 b6 b48 v A c n), ⟨b140, 39, [some (.int .u64 ((nb bs (tof bs i - 1) : Nat) : Int))], true⟩, (gtp_s13_k2 b146 b140 Ai ci bs i)]) (Kr := Kr) (k := i) (xs := (psV ps)) (jq := 4) (news := [(.slice (some ⟨b140, 0, none⟩) 1 1), (.slice (cutA Ai ci 1) (((4 * (nb bs (tof bs i))) - 1) - 1) (ci - 1))]) (by decide) rfl rfl Tryz.underlying27 rowT_49 (by decide) hr (by have := hil; omega) rfl rfl (by simp [Value.one1]) fun v147 Kr147 hr147 => ⟨(fun _ h => (St.wk (St.untail (K := [(gtp_s13_k1 b2), (gtp_s13_k0 b48 bs), (gtp_s13_k3 b6 b48 v A c n), ⟨b140, 39, [some (.int .u64 ((nb bs (tof bs i - 1) : Nat) : Int))], true⟩, (gtp_s13_k2 b146 b140 Ai ci bs i)]) (Kr := Kr147) h) [(0, []), (1, []), (2, [2])] rfl)), ?_⟩)
        refine dtake (f := 1) [12] (by kernel_rfl) (St.closed _ _ _ _) (fun _ h => (St.wk (St.untail (K := [(gtp_s13_k1 b2), (gtp_s13_k0 b48 bs), (gtp_s13_k3 b6 b48 v A c n), ⟨b140, 39, [some (.int .u64 ((nb bs (tof bs i - 1) : Nat) : Int))], true⟩, (gtp_s13_k2 b146 b140 Ai ci bs i)]) (Kr := Kr147) h) [(0, []), (1, []), (2, [2])] rfl)) (by kernel_rfl) ?_
        refine dq rfl (q_field (b := b6) (off := 0) rfl fo_29_2) ?_
        refine QL.nil ?_
        refine RG.step1 13 (by kernel_rfl) ?_
        refine dop rfl (l_store (b := b6) (off := 2) (j := 2) rfl rfl nagg_27 hr147.one rfl rfl rfl (dlt rfl) ⟨(fun _ h => (St.wk (St.untail (K := [(gtp_s13_k1 b2), (gtp_s13_k0 b48 bs), (gtp_s13_k4 b6 b48 v147 A c n), ⟨b140, 39, [some (.int .u64 ((nb bs (tof bs i - 1) : Nat) : Int))], true⟩, (gtp_s13_k2 b146 b140 Ai ci bs i)]) (Kr := Kr147) h) [(0, []), (1, []), (2, [2])] rfl)), ?_⟩)
        refine dend (by kernel_rfl) ?_
        refine eseq ?_
        refine HT.norm ([(gtp_s13_k1 b2), (gtp_s13_k0 b48 bs), (gtp_s13_k4 b6 b48 v147 A c n), ⟨b140, 39, [some (.int .u64 ((nb bs (tof bs i - 1) : Nat) : Int))], true⟩, (gtp_s13_k2 b146 b140 Ai ci bs i)] ++ Kr147) [Byt A n c bs, Byt Ai (n - (tof bs i)) ci (sl bs (tof bs i) n), psF ps] rfl rfl ?_
        refine HT.drawn mixed (St.closed _ _ _ _) (St w [] [(gtp_s13_k1 b2), (gtp_s13_k0 b48 bs), (gtp_s13_k4 b6 b48 v147 A c n), ⟨b140, 39, [some (.int .u64 ((nb bs (tof bs i - 1) : Nat) : Int))], true⟩, (gtp_s13_k2 b146 b140 Ai ci bs i)] [Byt A n c bs, Byt Ai (n - (tof bs i)) ci (sl bs (tof bs i) n), psF ps]) ?_
        refine dtake (f := 0) [0, 1, 2, 3, 4, 5, 6, 7, 8, 9] (by kernel_rfl) (St.closed _ _ _ _) (fun _ h => (St.untail (K := [(gtp_s13_k1 b2), (gtp_s13_k0 b48 bs), (gtp_s13_k4 b6 b48 v147 A c n), ⟨b140, 39, [some (.int .u64 ((nb bs (tof bs i - 1) : Nat) : Int))], true⟩, (gtp_s13_k2 b146 b140 Ai ci bs i)]) (Kr := Kr147) h)) (by kernel_rfl) ?_
        refine dq rfl (q_move rfl) ?_
        refine dq rfl (q_move rfl) ?_
        refine dq rfl (q_sub (p := 4 * (nb bs (tof bs i))) (q := 1) rfl rfl (by have := nb_lt bs (tof bs i); omega) (show 4 * (nb bs (tof bs i)) < 9223372036854775808 by have := nb_lt bs (tof bs i); omega)) ?_
        refine dq rfl (q_index (i := (4 * (nb bs (tof bs i))) - 1) (j := 1) rfl rfl Tryz.underlying22 nagg_5 (fun _ h => h) rfl (by have := nb_lt bs (tof bs i); omega)) ?_
        refine dq rfl (q_N (q_byte (i := (4 * (nb bs (tof bs i))) - 1) (j := 1) rfl nagg_5 (fun _ h => h) rfl (by have := nb_lt bs (tof bs i); omega)) (a := nb (sl bs (tof bs i) n) ((4 * (nb bs (tof bs i))) - 1)) (b := nb bs ((tof bs i) + ((4 * (nb bs (tof bs i))) - 1))) (nb_sl (by omega))) ?_
        refine dq rfl (q_move rfl) ?_
        refine dq rfl (q_move rfl) ?_
        refine dq rfl (q_slice (lo := 4 * (nb bs (tof bs i))) (hi := n - (tof bs i)) rfl Tryz.underlying22 nagg_5 (.inr ⟨_, _, rfl, rfl⟩) (.inl ⟨rfl, rfl⟩) (by have := nb_lt bs (tof bs i); omega) (by omega)) ?_
        refine dq rfl (q_assign rfl) ?_
        refine dq rfl (q_assign rfl) ?_
        refine QL.nil ?_
        refine dend (by kernel_rfl) ?_
        refine ein ?_
        exact fun a ha w' hw => by
          obtain ⟨hp2, hs2⟩ := PSt.step hp (X := [(gtp_s13_k1 b2), (gtp_s13_k0 b48 bs), (gtp_s13_k4 b6 b48 v147 A c n)]) (Y := [(gtp_s13_k2 b146 b140 Ai ci bs i)]) (k := ⟨b140, 39, [some (.int .u64 ((nb bs (tof bs i - 1) : Nat) : Int))], true⟩) (B := [Byt A n c bs]) (r := []) (cnt := 1) (cap := 1) (xs := [nb bs (tof bs i - 1)]) (lo := 1) (hi := (4 * (nb bs (tof bs i))) - 1) (sz := 4 * (nb bs (tof bs i))) hw (by omega) rfl rfl (Nat.le_refl _) rfl hr147 (by omega) (by omega) (by omega) (by omega) (pdt (lc rfl rfl) (by omega) (by omega))
          exact eround2 ⟨(i + 1, _, _, _, _, _), hp2⟩ (show N - (i + 1) < N - i by omega) (ha.sub ⟨rfl, rfl, slc (n' := n - tof bs (i + 1)) (by omega), nbc (n' := tof bs (i + 1) - 1) (by omega), trivial⟩) hs2
      · refine dop rfl (l_buildSliceT (K := [(gtp_s13_k1 b2), (gtp_s13_k0 b48 bs), (gtp_s13_k3 b6 b48 v A c n)]) (Kr := Kr) (e := 39) (vs := [(0, (.int .u64 ((nb bs (tof bs i - 1) : Nat) : Int)))]) (cs := [(.int .u64 ((nb bs (tof bs i - 1) : Nat) : Int))]) (by decide) rfl (fun _ => by kernel_rfl) fun b140 => ⟨(fun _ h => (St.wk (St.untail (K := [(gtp_s13_k1 b2), (gtp_s13_k0 b48 bs), (gtp_s13_k3 b6 b48 v A c n), ⟨b140, 39, [some (.int .u64 ((nb bs (tof bs i - 1) : Nat) : Int))], true⟩]) (Kr := Kr) h) [(0, []), (1, []), (2, [2])] rfl)), ?_⟩)
        refine dtake (f := 5) [9] (by kernel_rfl) (St.closed _ _ _ _) (fun _ h => (St.wk (St.untail (K := [(gtp_s13_k1 b2), (gtp_s13_k0 b48 bs), (gtp_s13_k3 b6 b48 v A c n), ⟨b140, 39, [some (.int .u64 ((nb bs (tof bs i - 1) : Nat) : Int))], true⟩]) (Kr := Kr) h) [(0, []), (1, []), (2, [2])] rfl)) (by kernel_rfl) ?_
        refine dq rfl (q_build (vs := [(0, (.slice (some ⟨b140, 0, none⟩) 1 1)), (1, (.slice (cutA Ai ci 1) (((4 * (nb bs (tof bs i))) - 1) - 1) (ci - 1)))]) (v := (.agg #[(.slice (some ⟨b140, 0, none⟩) 1 1), (.slice (cutA Ai ci 1) (((4 * (nb bs (tof bs i))) - 1) - 1) (ci - 1))])) rfl (fun _ => by kernel_rfl)) ?_
        refine QL.nil ?_
        refine RG.step2 1 10 (by kernel_rfl) ?_ ?_
        · refine dop rfl (l_q _ (by simp) (St.closed _ _ _ _) (q_load (b := b6) (off := 2) (j := 2) rfl nagg_27 (fun _ h => h) rfl rfl rfl) ⟨(fun _ h => (St.wk (St.untail (K := [(gtp_s13_k1 b2), (gtp_s13_k0 b48 bs), (gtp_s13_k3 b6 b48 v A c n), ⟨b140, 39, [some (.int .u64 ((nb bs (tof bs i - 1) : Nat) : Int))], true⟩]) (Kr := Kr) h) [(0, []), (1, []), (2, [2])] rfl)), ?_⟩)
          refine RG.step1 10 (by kernel_rfl) ?_
          refine dop rfl (l_buildSliceT (K := [(gtp_s13_k1 b2), (gtp_s13_k0 b48 bs), (gtp_s13_k3 b6 b48 v A c n), ⟨b140, 39, [some (.int .u64 ((nb bs (tof bs i - 1) : Nat) : Int))], true⟩]) (Kr := Kr) (e := 49) (vs := [(0, (.agg #[(.slice (some ⟨b140, 0, none⟩) 1 1), (.slice (cutA Ai ci 1) (((4 * (nb bs (tof bs i))) - 1) - 1) (ci - 1))]))]) (cs := [(.slice (some ⟨b140, 0, none⟩) 1 1), (.slice (cutA Ai ci 1) (((4 * (nb bs (tof bs i))) - 1) - 1) (ci - 1))]) (by decide) rfl (fun _ => by kernel_rfl) fun b146 => ⟨(fun _ h => (St.wk (St.untail (K := [(gtp_s13_k1 b2), (gtp_s13_k0 b48 bs), (gtp_s13_k3 b6 b48 v A c n), ⟨b140, 39, [some (.int .u64 ((nb bs (tof bs i - 1) : Nat) : Int))], true⟩, (gtp_s13_k2 b146 b140 Ai ci bs i)]) (Kr := Kr) h) [(0, []), (1, []), (2, [2])] rfl)), ?_⟩)
          refine RG.step1 11 (by kernel_rfl) ?_
          refine dop rfl (l_appendR2 (K0 := [(gtp_s13_k1 b2), (gtp_s13_k0 b48 bs), (gtp_s13_k3 b6 b48 v A c n), ⟨b140, 39, [some (.int .u64 ((nb bs (tof bs i - 1) : Nat) : Int))], true⟩, (gtp_s13_k2 b146 b140 Ai ci bs i)]) (Kr := Kr) (k := i) (xs := (psV ps)) (jq := 4) (news := [(.slice (some ⟨b140, 0, none⟩) 1 1), (.slice (cutA Ai ci 1) (((4 * (nb bs (tof bs i))) - 1) - 1) (ci - 1))]) (by decide) rfl rfl Tryz.underlying27 rowT_49 (by decide) hr (by have := hil; omega) rfl rfl (by simp [Value.one1]) fun v147 Kr147 hr147 => ⟨(fun _ h => (St.wk (St.untail (K := [(gtp_s13_k1 b2), (gtp_s13_k0 b48 bs), (gtp_s13_k3 b6 b48 v A c n), ⟨b140, 39, [some (.int .u64 ((nb bs (tof bs i - 1) : Nat) : Int))], true⟩, (gtp_s13_k2 b146 b140 Ai ci bs i)]) (Kr := Kr147) h) [(0, []), (1, []), (2, [2])] rfl)), ?_⟩)
          refine dtake (f := 1) [12] (by kernel_rfl) (St.closed _ _ _ _) (fun _ h => (St.wk (St.untail (K := [(gtp_s13_k1 b2), (gtp_s13_k0 b48 bs), (gtp_s13_k3 b6 b48 v A c n), ⟨b140, 39, [some (.int .u64 ((nb bs (tof bs i - 1) : Nat) : Int))], true⟩, (gtp_s13_k2 b146 b140 Ai ci bs i)]) (Kr := Kr147) h) [(0, []), (1, []), (2, [2])] rfl)) (by kernel_rfl) ?_
          refine dq rfl (q_field (b := b6) (off := 0) rfl fo_29_2) ?_
          refine QL.nil ?_
          refine RG.step1 13 (by kernel_rfl) ?_
          refine dop rfl (l_store (b := b6) (off := 2) (j := 2) rfl rfl nagg_27 hr147.one rfl rfl rfl (dlt rfl) ⟨(fun _ h => (St.wk (St.untail (K := [(gtp_s13_k1 b2), (gtp_s13_k0 b48 bs), (gtp_s13_k4 b6 b48 v147 A c n), ⟨b140, 39, [some (.int .u64 ((nb bs (tof bs i - 1) : Nat) : Int))], true⟩, (gtp_s13_k2 b146 b140 Ai ci bs i)]) (Kr := Kr147) h) [(0, []), (1, []), (2, [2])] rfl)), ?_⟩)
          refine dend (by kernel_rfl) ?_
          refine eseq ?_
          refine HT.norm ([(gtp_s13_k1 b2), (gtp_s13_k0 b48 bs), (gtp_s13_k4 b6 b48 v147 A c n), ⟨b140, 39, [some (.int .u64 ((nb bs (tof bs i - 1) : Nat) : Int))], true⟩, (gtp_s13_k2 b146 b140 Ai ci bs i)] ++ Kr147) [Byt A n c bs, Byt Ai (n - (tof bs i)) ci (sl bs (tof bs i) n), psF ps] rfl rfl ?_
          refine HT.drawn mixed (St.closed _ _ _ _) (St w [] [(gtp_s13_k1 b2), (gtp_s13_k0 b48 bs), (gtp_s13_k4 b6 b48 v147 A c n), ⟨b140, 39, [some (.int .u64 ((nb bs (tof bs i - 1) : Nat) : Int))], true⟩, (gtp_s13_k2 b146 b140 Ai ci bs i)] [Byt A n c bs, Byt Ai (n - (tof bs i)) ci (sl bs (tof bs i) n), psF ps]) ?_
          refine dtake (f := 0) [0, 1, 2, 3, 4, 5, 6, 7, 8, 9] (by kernel_rfl) (St.closed _ _ _ _) (fun _ h => (St.untail (K := [(gtp_s13_k1 b2), (gtp_s13_k0 b48 bs), (gtp_s13_k4 b6 b48 v147 A c n), ⟨b140, 39, [some (.int .u64 ((nb bs (tof bs i - 1) : Nat) : Int))], true⟩, (gtp_s13_k2 b146 b140 Ai ci bs i)]) (Kr := Kr147) h)) (by kernel_rfl) ?_
          refine dq rfl (q_move rfl) ?_
          refine dq rfl (q_move rfl) ?_
          refine dq rfl (q_sub (p := 4 * (nb bs (tof bs i))) (q := 1) rfl rfl (by have := nb_lt bs (tof bs i); omega) (show 4 * (nb bs (tof bs i)) < 9223372036854775808 by have := nb_lt bs (tof bs i); omega)) ?_
          refine dq rfl (q_index (i := (4 * (nb bs (tof bs i))) - 1) (j := 1) rfl rfl Tryz.underlying22 nagg_5 (fun _ h => h) rfl (by have := nb_lt bs (tof bs i); omega)) ?_
          refine dq rfl (q_N (q_byte (i := (4 * (nb bs (tof bs i))) - 1) (j := 1) rfl nagg_5 (fun _ h => h) rfl (by have := nb_lt bs (tof bs i); omega)) (a := nb (sl bs (tof bs i) n) ((4 * (nb bs (tof bs i))) - 1)) (b := nb bs ((tof bs i) + ((4 * (nb bs (tof bs i))) - 1))) (nb_sl (by omega))) ?_
          refine dq rfl (q_move rfl) ?_
          refine dq rfl (q_move rfl) ?_
          refine dq rfl (q_slice (lo := 4 * (nb bs (tof bs i))) (hi := n - (tof bs i)) rfl Tryz.underlying22 nagg_5 (.inr ⟨_, _, rfl, rfl⟩) (.inl ⟨rfl, rfl⟩) (by have := nb_lt bs (tof bs i); omega) (by omega)) ?_
          refine dq rfl (q_assign rfl) ?_
          refine dq rfl (q_assign rfl) ?_
          refine QL.nil ?_
          refine dend (by kernel_rfl) ?_
          refine ein ?_
          exact fun a ha w' hw => by
            obtain ⟨hp2, hs2⟩ := PSt.step hp (X := [(gtp_s13_k1 b2), (gtp_s13_k0 b48 bs), (gtp_s13_k4 b6 b48 v147 A c n)]) (Y := [(gtp_s13_k2 b146 b140 Ai ci bs i)]) (k := ⟨b140, 39, [some (.int .u64 ((nb bs (tof bs i - 1) : Nat) : Int))], true⟩) (B := [Byt A n c bs]) (r := []) (cnt := 1) (cap := 1) (xs := [nb bs (tof bs i - 1)]) (lo := 1) (hi := (4 * (nb bs (tof bs i))) - 1) (sz := 4 * (nb bs (tof bs i))) hw (by omega) rfl rfl (Nat.le_refl _) rfl hr147 (by omega) (by omega) (by omega) (by omega) (pdt (lc rfl rfl) (by omega) (by omega))
            exact eround2 ⟨(i + 1, _, _, _, _, _), hp2⟩ (show N - (i + 1) < N - i by omega) (ha.sub ⟨rfl, rfl, slc (n' := n - tof bs (i + 1)) (by omega), nbc (n' := tof bs (i + 1) - 1) (by omega), trivial⟩) hs2
        · refine dop rfl (l_buildSliceT (K := [(gtp_s13_k1 b2), (gtp_s13_k0 b48 bs), (gtp_s13_k3 b6 b48 v A c n), ⟨b140, 39, [some (.int .u64 ((nb bs (tof bs i - 1) : Nat) : Int))], true⟩]) (Kr := Kr) (e := 49) (vs := [(0, (.agg #[(.slice (some ⟨b140, 0, none⟩) 1 1), (.slice (cutA Ai ci 1) (((4 * (nb bs (tof bs i))) - 1) - 1) (ci - 1))]))]) (cs := [(.slice (some ⟨b140, 0, none⟩) 1 1), (.slice (cutA Ai ci 1) (((4 * (nb bs (tof bs i))) - 1) - 1) (ci - 1))]) (by decide) rfl (fun _ => by kernel_rfl) fun b146 => ⟨(fun _ h => (St.wk (St.untail (K := [(gtp_s13_k1 b2), (gtp_s13_k0 b48 bs), (gtp_s13_k3 b6 b48 v A c n), ⟨b140, 39, [some (.int .u64 ((nb bs (tof bs i - 1) : Nat) : Int))], true⟩, (gtp_s13_k2 b146 b140 Ai ci bs i)]) (Kr := Kr) h) [(0, []), (1, []), (2, [2])] rfl)), ?_⟩)
          refine RG.step1 1 (by kernel_rfl) ?_
          refine dop rfl (l_q _ (by simp) (St.closed _ _ _ _) (q_load (b := b6) (off := 2) (j := 2) rfl nagg_27 (fun _ h => h) rfl rfl rfl) ⟨(fun _ h => (St.wk (St.untail (K := [(gtp_s13_k1 b2), (gtp_s13_k0 b48 bs), (gtp_s13_k3 b6 b48 v A c n), ⟨b140, 39, [some (.int .u64 ((nb bs (tof bs i - 1) : Nat) : Int))], true⟩, (gtp_s13_k2 b146 b140 Ai ci bs i)]) (Kr := Kr) h) [(0, []), (1, []), (2, [2])] rfl)), ?_⟩)
          refine RG.step1 11 (by kernel_rfl) ?_
          refine dop rfl (l_appendR2 (K0 := [(gtp_s13_k1 b2), (gtp_s13_k0 b48 bs), (gtp_s13_k3 b6 b48 v A c n), ⟨b140, 39, [some (.int .u64 ((nb bs (tof bs i - 1) : Nat) : Int))], true⟩, (gtp_s13_k2 b146 b140 Ai ci bs i)]) (Kr := Kr) (k := i) (xs := (psV ps)) (jq := 4) (news := [(.slice (some ⟨b140, 0, none⟩) 1 1), (.slice (cutA Ai ci 1) (((4 * (nb bs (tof bs i))) - 1) - 1) (ci - 1))]) (by decide) rfl rfl Tryz.underlying27 rowT_49 (by decide) hr (by have := hil; omega) rfl rfl (by simp [Value.one1]) fun v147 Kr147 hr147 => ⟨(fun _ h => (St.wk (St.untail (K := [(gtp_s13_k1 b2), (gtp_s13_k0 b48 bs), (gtp_s13_k3 b6 b48 v A c n), ⟨b140, 39, [some (.int .u64 ((nb bs (tof bs i - 1) : Nat) : Int))], true⟩, (gtp_s13_k2 b146 b140 Ai ci bs i)]) (Kr := Kr147) h) [(0, []), (1, []), (2, [2])] rfl)), ?_⟩)
          refine dtake (f := 1) [12] (by kernel_rfl) (St.closed _ _ _ _) (fun _ h => (St.wk (St.untail (K := [(gtp_s13_k1 b2), (gtp_s13_k0 b48 bs), (gtp_s13_k3 b6 b48 v A c n), ⟨b140, 39, [some (.int .u64 ((nb bs (tof bs i - 1) : Nat) : Int))], true⟩, (gtp_s13_k2 b146 b140 Ai ci bs i)]) (Kr := Kr147) h) [(0, []), (1, []), (2, [2])] rfl)) (by kernel_rfl) ?_
          refine dq rfl (q_field (b := b6) (off := 0) rfl fo_29_2) ?_
          refine QL.nil ?_
          refine RG.step1 13 (by kernel_rfl) ?_
          refine dop rfl (l_store (b := b6) (off := 2) (j := 2) rfl rfl nagg_27 hr147.one rfl rfl rfl (dlt rfl) ⟨(fun _ h => (St.wk (St.untail (K := [(gtp_s13_k1 b2), (gtp_s13_k0 b48 bs), (gtp_s13_k4 b6 b48 v147 A c n), ⟨b140, 39, [some (.int .u64 ((nb bs (tof bs i - 1) : Nat) : Int))], true⟩, (gtp_s13_k2 b146 b140 Ai ci bs i)]) (Kr := Kr147) h) [(0, []), (1, []), (2, [2])] rfl)), ?_⟩)
          refine dend (by kernel_rfl) ?_
          refine eseq ?_
          refine HT.norm ([(gtp_s13_k1 b2), (gtp_s13_k0 b48 bs), (gtp_s13_k4 b6 b48 v147 A c n), ⟨b140, 39, [some (.int .u64 ((nb bs (tof bs i - 1) : Nat) : Int))], true⟩, (gtp_s13_k2 b146 b140 Ai ci bs i)] ++ Kr147) [Byt A n c bs, Byt Ai (n - (tof bs i)) ci (sl bs (tof bs i) n), psF ps] rfl rfl ?_
          refine HT.drawn mixed (St.closed _ _ _ _) (St w [] [(gtp_s13_k1 b2), (gtp_s13_k0 b48 bs), (gtp_s13_k4 b6 b48 v147 A c n), ⟨b140, 39, [some (.int .u64 ((nb bs (tof bs i - 1) : Nat) : Int))], true⟩, (gtp_s13_k2 b146 b140 Ai ci bs i)] [Byt A n c bs, Byt Ai (n - (tof bs i)) ci (sl bs (tof bs i) n), psF ps]) ?_
          refine dtake (f := 0) [0, 1, 2, 3, 4, 5, 6, 7, 8, 9] (by kernel_rfl) (St.closed _ _ _ _) (fun _ h => (St.untail (K := [(gtp_s13_k1 b2), (gtp_s13_k0 b48 bs), (gtp_s13_k4 b6 b48 v147 A c n), ⟨b140, 39, [some (.int .u64 ((nb bs (tof bs i - 1) : Nat) : Int))], true⟩, (gtp_s13_k2 b146 b140 Ai ci bs i)]) (Kr := Kr147) h)) (by kernel_rfl) ?_
          refine dq rfl (q_move rfl) ?_
          refine dq rfl (q_move rfl) ?_
          refine dq rfl (q_sub (p := 4 * (nb bs (tof bs i))) (q := 1) rfl rfl (by have := nb_lt bs (tof bs i); omega) (show 4 * (nb bs (tof bs i)) < 9223372036854775808 by have := nb_lt bs (tof bs i); omega)) ?_
          refine dq rfl (q_index (i := (4 * (nb bs (tof bs i))) - 1) (j := 1) rfl rfl Tryz.underlying22 nagg_5 (fun _ h => h) rfl (by have := nb_lt bs (tof bs i); omega)) ?_
          refine dq rfl (q_N (q_byte (i := (4 * (nb bs (tof bs i))) - 1) (j := 1) rfl nagg_5 (fun _ h => h) rfl (by have := nb_lt bs (tof bs i); omega)) (a := nb (sl bs (tof bs i) n) ((4 * (nb bs (tof bs i))) - 1)) (b := nb bs ((tof bs i) + ((4 * (nb bs (tof bs i))) - 1))) (nb_sl (by omega))) ?_
          refine dq rfl (q_move rfl) ?_
          refine dq rfl (q_move rfl) ?_
          refine dq rfl (q_slice (lo := 4 * (nb bs (tof bs i))) (hi := n - (tof bs i)) rfl Tryz.underlying22 nagg_5 (.inr ⟨_, _, rfl, rfl⟩) (.inl ⟨rfl, rfl⟩) (by have := nb_lt bs (tof bs i); omega) (by omega)) ?_
          refine dq rfl (q_assign rfl) ?_
          refine dq rfl (q_assign rfl) ?_
          refine QL.nil ?_
          refine dend (by kernel_rfl) ?_
          refine ein ?_
          exact fun a ha w' hw => by
            obtain ⟨hp2, hs2⟩ := PSt.step hp (X := [(gtp_s13_k1 b2), (gtp_s13_k0 b48 bs), (gtp_s13_k4 b6 b48 v147 A c n)]) (Y := [(gtp_s13_k2 b146 b140 Ai ci bs i)]) (k := ⟨b140, 39, [some (.int .u64 ((nb bs (tof bs i - 1) : Nat) : Int))], true⟩) (B := [Byt A n c bs]) (r := []) (cnt := 1) (cap := 1) (xs := [nb bs (tof bs i - 1)]) (lo := 1) (hi := (4 * (nb bs (tof bs i))) - 1) (sz := 4 * (nb bs (tof bs i))) hw (by omega) rfl rfl (Nat.le_refl _) rfl hr147 (by omega) (by omega) (by omega) (by omega) (pdt (lc rfl rfl) (by omega) (by omega))
            exact eround2 ⟨(i + 1, _, _, _, _, _), hp2⟩ (show N - (i + 1) < N - i by omega) (ha.sub ⟨rfl, rfl, slc (n' := n - tof bs (i + 1)) (by omega), nbc (n' := tof bs (i + 1) - 1) (by omega), trivial⟩) hs2
    · refine sqS (q_F (q_ne (p := nb bs (tof bs i - 1)) (q := 0) rfl rfl) h1) rfl ?_
      refine send ?_
      refine eseq ?_
      refine HT.no rfl ?_
      refine HT.exit ?_
      refine ex_then ?_
      refine ex_then ?_
      refine ex_in ?_
      refine eseq ?_
      have hiN : N = i := by omega
      subst hiN
      refine HT.rowFact (K := [(gtp_s13_k1 b2), (gtp_s13_k0 b48 bs), (gtp_s13_k3 b6 b48 v A c n)]) (Kr := Kr) hr (fun _ h => nomatch h) fun AQ cQ hvQ hncQ hfQ => ?_
      subst hvQ
      refine HT.seq ?_
      refine HT.plain ?_
      refine sMv rfl rfl ?_
      refine sqS (q_field (b := b6) (off := 0) rfl fo_29_3) rfl ?_
      refine sl_ (l_store (b := b6) (off := 3) (j := 2) rfl rfl nagg_22 rfl rfl rfl rfl (dlt rfl) ?_)
      refine send ?_
      refine eseq ?_
      refine HT.seq ?_
      refine HT.plain ?_
      refine sqS (q_loadAgg (b := b6) (off := 0) (j := 2) (vs := [(.slice (some ⟨b48, 0, none⟩) 11 11), (.slice none 0 0), (.slice AQ N cQ), (.slice Ai (n - (tof bs N)) ci)]) rfl aggs_29 (fun _ h => h) rfl rfl rfl) rfl ?_
      refine sl_ (l_storeAgg (b := b2) (off := 0) (j := 0) (vs := [(.slice (some ⟨b48, 0, none⟩) 11 11), (.slice none 0 0), (.slice AQ N cQ), (.slice Ai (n - (tof bs N)) ci)]) rfl rfl aggs_29 (by simp [Value.one1]) rfl rfl rfl (Nat.le_of_ble_eq_true rfl) ?_)
      refine sAs rfl rfl ?_
      refine sAs rfl rfl ?_
      refine send ?_
      refine eseq ?_
      refine HT.ret ?_
      exact fun a ha w' hw => fin_ ha (resc3 ha Tryz.results40 rfl (ld_ aggs_29 hw (j := 0) rfl rfl (vs := [(.slice (some ⟨b48, 0, none⟩) 11 11), (.slice none 0 0), (.slice AQ N cQ), (.slice Ai (n - (tof bs N)) ci)]) rfl) rfl rfl) ⟨⟨⟨some ⟨b48, 0, none⟩, 11, 11, [(nb bs 0) / 32, ((nb bs 0) / 16) &&& 1, ((nb bs 0) / 8) &&& 1, ((nb bs 0) / 4) &&& 1, ((nb bs 0) / 2) &&& 1, (nb bs 0) &&& 1, nb bs 1, bN bs 2 2, bN bs 4 4, bN bs 8 2, nb bs 10]⟩, none, 0, 0, [], AQ, N, cQ, ps, ⟨Ai, n - (tof bs N), ci, sl bs (tof bs N) n⟩⟩, rfl, hw.pres, Own.lay6 (Own.cel hw (j := 1) (sz := 1) (r := []) rfl rfl rfl rfl (Nat.le_refl _)) (Own.nilCel 1) (Own.byt hw (j := 3) rfl (fun i h => .inl (hfQ i h))) (Own.byt hw (j := 1) rfl (fun x h => .inr (hp.sub x h))) (fun _ h => nomatch h) (psOwnQ hw (j := 2) rfl hp.tol.own), LD_eq rfl rfl hp.tol.data rfl⟩
  · refine dop rfl (l_alloc (by decide) zero_29 fun b6 => ⟨(fun _ h => (h.wk [(0, [])] rfl)), ?_⟩)
    refine RG.step1 34 (by kernel_rfl) ?_
    refine dop rfl (l_buildSlice (e := 39) (vs := [(0, (.int .u64 (((nb bs 0) / 32 : Nat) : Int))), (1, (.int .u64 ((((nb bs 0) / 16) &&& 1 : Nat) : Int))), (2, (.int .u64 ((((nb bs 0) / 8) &&& 1 : Nat) : Int))), (3, (.int .u64 ((((nb bs 0) / 4) &&& 1 : Nat) : Int))), (4, (.int .u64 ((((nb bs 0) / 2) &&& 1 : Nat) : Int))), (5, (.int .u64 (((nb bs 0) &&& 1 : Nat) : Int))), (6, (.int .u64 ((nb bs 1 : Nat) : Int))), (7, (.int .u64 ((bN bs 2 2 : Nat) : Int))), (8, (.int .u64 ((bN bs 4 4 : Nat) : Int))), (9, (.int .u64 ((0 : Nat) : Int))), (10, (.int .u64 ((0 : Nat) : Int)))]) (cs := [(.int .u64 (((nb bs 0) / 32 : Nat) : Int)), (.int .u64 ((((nb bs 0) / 16) &&& 1 : Nat) : Int)), (.int .u64 ((((nb bs 0) / 8) &&& 1 : Nat) : Int)), (.int .u64 ((((nb bs 0) / 4) &&& 1 : Nat) : Int)), (.int .u64 ((((nb bs 0) / 2) &&& 1 : Nat) : Int)), (.int .u64 (((nb bs 0) &&& 1 : Nat) : Int)), (.int .u64 ((nb bs 1 : Nat) : Int)), (.int .u64 ((bN bs 2 2 : Nat) : Int)), (.int .u64 ((bN bs 4 4 : Nat) : Int)), (.int .u64 ((0 : Nat) : Int)), (.int .u64 ((0 : Nat) : Int))]) (by decide) rfl (fun _ => by kernel_rfl) fun b48 => ⟨(fun _ h => (h.wk [(0, [])] rfl)), ?_⟩)
    refine dtake (f := 1) [35] (by kernel_rfl) (St.closed _ _ _ _) (fun _ h => (h.wk [(0, [])] rfl)) (by kernel_rfl) ?_
    refine dq rfl (q_call (vs := [(.slice (cutA A c 8) (n - 8) (c - 8)), (.slice (some ⟨b48, 0, none⟩) 11 11)]) (v := (.agg #[(.slice (some ⟨b48, 0, none⟩) 11 11), (.slice none 0 0), (.slice none 0 0), (.slice (cutA A c 8) (n - 8) (c - 8))])) rfl ca_33 (fun w h => layerC w (cutA A c 8) (n - 8) (c - 8) (some ⟨b48, 0, none⟩) 11 11  (St.enter (sp := []) (Kc := []) (bi := []) h rfl rfl rfl))) ?_
    refine QL.nil ?_
    refine RG.step1 37 (by kernel_rfl) ?_
    refine dop rfl (l_storeAgg (b := b6) (off := 0) (j := 1) (vs := [(.slice (some ⟨b48, 0, none⟩) 11 11), (.slice none 0 0), (.slice none 0 0), (.slice (cutA A c 8) (n - 8) (c - 8))]) rfl rfl aggs_29 (by simp [Value.one1]) rfl rfl rfl (Nat.le_of_ble_eq_true rfl) ⟨(fun _ h => (h.wk [(0, [])] rfl)), ?_⟩)
    refine dend (by kernel_rfl) ?_
    refine eseq ?_
    refine HT.seq ?_
    refine HT.seq ?_
    refine HT.plain ?_
    refine sMv rfl rfl ?_
    refine sqS (q_slice (lo := 2) (hi := 4) rfl Tryz.underlying22 nagg_5 (.inr ⟨_, _, rfl, rfl⟩) (.inr ⟨_, _, rfl, rfl⟩) (by omega) (by omega)) rfl ?_
    refine sqS (q_call (vs := [(.slice (cutA A c 2) (4 - 2) (c - 2))]) (v := (.int .u64 ((bN bs 2 2 : Nat) : Int))) rfl ca_34 (fun w h => NumberC w A n c bs (lo := 2) (hi := 4) (h.fact (j := 0) rfl) (k := 2) rfl (by decide) (by omega) (by omega))) rfl ?_
    refine sqS (q_convn (p := bN bs 2 2) rfl Tryz.underlying39 Tryz.underlying3 (show bN bs 2 2 < 9223372036854775808 by have := bN_lt bs 2 2 65536 rfl; omega)) rfl ?_
    refine sAs rfl rfl ?_
    refine send ?_
    refine eseq ?_
    refine HT.seq ?_
    refine HT.plain ?_
    refine sMv rfl rfl ?_
    refine sMv rfl rfl ?_
    refine sqS (q_len (len := n) rfl Tryz.underlying22) rfl ?_
    refine sqS (q_sub (p := n) (q := 8) rfl rfl (by omega) (show n < 9223372036854775808 by omega)) rfl ?_
    refine sqS (q_F (q_gt (p := bN bs 2 2) (q := n - 8) rfl rfl) (by have := bN_lt bs 2 2 65536 rfl; omega)) rfl ?_
    refine send ?_
    refine eseq ?_
    refine HT.no rfl ?_
    refine HT.skip ?_
    refine eseq ?_
    refine HT.seq ?_
    refine HT.seq ?_
    refine HT.plain ?_
    refine sMv rfl rfl ?_
    refine sqS (q_and (p := nb bs 0) (q := 7) rfl rfl rfl (show nb bs 0 < 256 by have := nb_lt bs 0; omega) (by decide)) rfl ?_
    refine sqS (q_F (q_eq (p := (nb bs 0) &&& 7) (q := 0) rfl rfl) (by have := nb_lt bs 0; have := zm7 (nb bs 0); have := Nat.and_le_left (n := nb bs 0) (m := 7); have := Nat.and_le_right (n := nb bs 0) (m := 7); omega)) rfl ?_
    refine send ?_
    refine eseq ?_
    refine HT.no rfl ?_
    refine HT.skip ?_
    refine eseq ?_
    refine HT.seq ?_
    refine HT.seq ?_
    refine HT.plain ?_
    refine sMv rfl rfl ?_
    refine sqS (q_len (len := n) rfl Tryz.underlying22) rfl ?_
    refine sqS (q_F (q_lt (p := n) (q := 12) rfl rfl) (by omega)) rfl ?_
    refine sMv rfl rfl ?_
    refine sgqS rfl (q_move rfl) rfl ?_
    refine sgqS rfl (q_slice (lo := 2) (hi := 4) rfl Tryz.underlying22 nagg_5 (.inr ⟨_, _, rfl, rfl⟩) (.inr ⟨_, _, rfl, rfl⟩) (by omega) (by omega)) rfl ?_
    refine sgqS rfl (q_call (vs := [(.slice (cutA A c 2) (4 - 2) (c - 2))]) (v := (.int .u64 ((bN bs 2 2 : Nat) : Int))) rfl ca_34 (fun w h => NumberC w A n c bs (lo := 2) (hi := 4) (h.fact (j := 0) rfl) (k := 2) rfl (by decide) (by omega) (by omega))) rfl ?_
    refine sgqS rfl (q_F (q_lt (p := bN bs 2 2) (q := 4) rfl rfl) (by have := bN_lt bs 2 2 65536 rfl; omega)) rfl ?_
    refine sqS (q_pick rfl (fun h => nomatch h) (fun _ => rfl)) rfl ?_
    refine send ?_
    refine eseq ?_
    refine HT.no rfl ?_
    refine HT.skip ?_
    refine eseq ?_
    refine HT.seq ?_
    refine HT.drawn mixed (St.closed _ _ _ _) (St w [] [(gtp_s13_k1 b2), ⟨b6, 29, [some (.slice (some ⟨b48, 0, none⟩) 11 11), some (.slice none 0 0), some (.slice none 0 0), some (.slice (cutA A c 8) (n - 8) (c - 8))], true⟩, ⟨b48, 39, [some (.int .u64 (((nb bs 0) / 32 : Nat) : Int)), some (.int .u64 ((((nb bs 0) / 16) &&& 1 : Nat) : Int)), some (.int .u64 ((((nb bs 0) / 8) &&& 1 : Nat) : Int)), some (.int .u64 ((((nb bs 0) / 4) &&& 1 : Nat) : Int)), some (.int .u64 ((((nb bs 0) / 2) &&& 1 : Nat) : Int)), some (.int .u64 (((nb bs 0) &&& 1 : Nat) : Int)), some (.int .u64 ((nb bs 1 : Nat) : Int)), some (.int .u64 ((bN bs 2 2 : Nat) : Int)), some (.int .u64 ((bN bs 4 4 : Nat) : Int)), none, none], true⟩] [Byt A n c bs]) ?_
    refine dtake (f := 3) [0, 1, 2, 3, 4, 5, 6, 7, 8, 9, 10, 11] (by kernel_rfl) (St.closed _ _ _ _) (fun _ h => (h.wk [(0, []), (1, []), (2, [9, 10])] rfl)) (by kernel_rfl) ?_
    refine dq rfl (q_field (b := b6) (off := 0) rfl fo_29_0) ?_
    refine dq rfl (q_load (b := b6) (off := 0) (j := 1) rfl nagg_25 (fun _ h => h) rfl rfl rfl) ?_
    refine dq rfl (q_field (b := b6) (off := 0) rfl fo_29_0) ?_
    refine dq rfl (q_load (b := b6) (off := 0) (j := 1) rfl nagg_25 (fun _ h => h) rfl rfl rfl) ?_
    refine dq rfl (q_move rfl) ?_
    refine dq rfl (q_slice (lo := 8) (hi := 10) rfl Tryz.underlying22 nagg_5 (.inr ⟨_, _, rfl, rfl⟩) (.inr ⟨_, _, rfl, rfl⟩) (by omega) (by omega)) ?_
    refine dq rfl (q_call (vs := [(.slice (cutA A c 8) (10 - 8) (c - 8))]) (v := (.int .u64 ((bN bs 8 2 : Nat) : Int))) rfl ca_34 (fun w h => NumberC w A n c bs (lo := 8) (hi := 10) (h.fact (j := 0) rfl) (k := 2) rfl (by decide) (by omega) (by omega))) ?_
    refine dq rfl (q_move rfl) ?_
    refine dq rfl (q_index (i := 10) (j := 0) rfl rfl Tryz.underlying22 nagg_5 (fun _ h => h) rfl (by omega)) ?_
    refine dq rfl (q_byte (i := 10) (j := 0) rfl nagg_5 (fun _ h => h) rfl (by omega)) ?_
    refine dq rfl (q_convn (p := nb bs 10) rfl Tryz.underlying5 Tryz.underlying39 (show nb bs 10 < 18446744073709551616 by have := nb_lt bs 10; omega)) ?_
    refine dq rfl (q_indexK (b := b48) (i := 9) (sz := 1) rfl rfl Tryz.underlying25 size_39 (by decide)) ?_
    refine QL.nil ?_
    refine RG.step1 12 (by kernel_rfl) ?_
    refine dop rfl (l_store (b := b48) (off := 9) (j := 2) rfl rfl nagg_39 rfl rfl rfl rfl (dlt rfl) ⟨(fun _ h => (h.wk [(0, []), (1, []), (2, [9, 10])] rfl)), ?_⟩)
    refine dtake (f := 1) [13] (by kernel_rfl) (St.closed _ _ _ _) (fun _ h => (h.wk [(0, []), (1, []), (2, [9, 10])] rfl)) (by kernel_rfl) ?_
    refine dq rfl (q_indexK (b := b48) (i := 10) (sz := 1) rfl rfl Tryz.underlying25 size_39 (by decide)) ?_
    refine QL.nil ?_
    refine RG.step1 14 (by kernel_rfl) ?_
    refine dop rfl (l_store (b := b48) (off := 10) (j := 2) rfl rfl nagg_39 rfl rfl rfl rfl (dlt rfl) ⟨(fun _ h => (h.wk [(0, []), (1, []), (2, [9, 10])] rfl)), ?_⟩)
    refine dend (by kernel_rfl) ?_
    refine eseq ?_
    refine HT.seq ?_
    refine HT.seq ?_
    refine HT.plain ?_
    refine sMv rfl rfl ?_
    refine sqS (q_and (p := nb bs 0) (q := 2) rfl rfl rfl (show nb bs 0 < 256 by have := nb_lt bs 0; omega) (by decide)) rfl ?_
    refine sqS (q_F (q_eq (p := (nb bs 0) &&& 2) (q := 0) rfl rfl) (by have := nb_lt bs 0; have := zb2 (nb bs 0); have := Nat.and_le_left (n := nb bs 0) (m := 2); have := Nat.and_le_right (n := nb bs 0) (m := 2); omega)) rfl ?_
    refine sMv rfl rfl ?_
    refine sgqS rfl (q_move rfl) rfl ?_
    refine sgqS rfl (q_and (p := nb bs 0) (q := 1) rfl rfl rfl (show nb bs 0 < 256 by have := nb_lt bs 0; omega) (by decide)) rfl ?_
    refine sgqS rfl (q_F (q_eq (p := (nb bs 0) &&& 1) (q := 0) rfl rfl) (by have := nb_lt bs 0; have := zm1 (nb bs 0); have := Nat.and_le_left (n := nb bs 0) (m := 1); have := Nat.and_le_right (n := nb bs 0) (m := 1); omega)) rfl ?_
    refine sqS (q_pick rfl (fun h => nomatch h) (fun _ => rfl)) rfl ?_
    refine send ?_
    refine eseq ?_
    refine HT.no rfl ?_
    refine HT.skip ?_
    refine eseq ?_
    refine HT.seq ?_
    refine HT.drawnS mixed (St.closed _ _ _ _) ?_
    refine dtake (f := 0) [0, 1, 2, 3, 4, 5, 6] (by kernel_rfl) (St.closed _ _ _ _) (fun _ h => h) (by kernel_rfl) ?_
    refine dq rfl (q_move rfl) ?_
    refine dq rfl (q_index (i := 11) (j := 0) rfl rfl Tryz.underlying22 nagg_5 (fun _ h => h) rfl (by omega)) ?_
    refine dq rfl (q_byte (i := 11) (j := 0) rfl nagg_5 (fun _ h => h) rfl (by omega)) ?_
    refine dq rfl (q_move rfl) ?_
    refine dq rfl (q_slice (lo := 12) (hi := n) rfl Tryz.underlying22 nagg_5 (.inr ⟨_, _, rfl, rfl⟩) (.inl ⟨rfl, rfl⟩) (by omega) (by omega)) ?_
    refine dq rfl (q_assign rfl) ?_
    refine dq rfl (q_assign rfl) ?_
    refine QL.nil ?_
    refine dend (by kernel_rfl) ?_
    refine eseq ?_
    refine HT.seq ?_
    refine HT.seq ?_
    refine HT.plain ?_
    refine sMv rfl rfl ?_
    refine sqS (q_and (p := nb bs 0) (q := 4) rfl rfl rfl (show nb bs 0 < 256 by have := nb_lt bs 0; omega) (by decide)) rfl ?_
    refine sqS (q_F (q_eq (p := (nb bs 0) &&& 4) (q := 0) rfl rfl) (by have := nb_lt bs 0; have := zb4 (nb bs 0); have := Nat.and_le_left (n := nb bs 0) (m := 4); have := Nat.and_le_right (n := nb bs 0) (m := 4); omega)) rfl ?_
    refine send ?_
    refine eseq ?_
    refine HT.no rfl ?_
    refine HT.seq ?_
    refine HT.plain ?_
    refine sMv rfl rfl ?_
    refine sqS (q_F (q_eq (p := nb bs 11) (q := 0) rfl rfl) (by have := nb_lt bs 11; omega)) rfl ?_
    refine send ?_
    refine eseq ?_
    refine HT.no rfl ?_
    refine HT.skip ?_
    refine eseq ?_
    refine HT.seq ?_
    refine HT.block ?_
    refine HT.loop (ι := {p : Nat × Option Addr × Nat × Value × List Kb × List (NI × BI) // PSt w.heap.size (Byt A n c bs) (fun j => ([nb bs (tof bs j - 1)], sl bs (tof bs j + 1) (tof bs j + (4 * (nb bs (tof bs j)) - 1)))) (fun j => tof bs j) n bs N p.1 p.2.1 p.2.2.1 p.2.2.2.1 p.2.2.2.2.1 p.2.2.2.2.2}) (fun p => [(2, (.pointer (some ⟨b2, 0, none⟩))), (6, (.pointer (some ⟨b6, 0, none⟩))), (9, (.slice p.1.2.1 (n - (tof bs p.1.1)) p.1.2.2.1)), (8, (.int .u8 ((nb bs (tof bs p.1.1 - 1) : Nat) : Int)))]) (fun p => St w [] ([(gtp_s13_k1 b2), ⟨b6, 29, [some (.slice (some ⟨b48, 0, none⟩) 11 11), some (.slice none 0 0), some p.1.2.2.2.1, some (.slice (cutA A c 8) (n - 8) (c - 8))], true⟩, (gtp_s13_k0 b48 bs)] ++ p.1.2.2.2.2.1) [Byt A n c bs, Byt p.1.2.1 (n - (tof bs p.1.1)) p.1.2.2.1 (sl bs (tof bs p.1.1) n), psF p.1.2.2.2.2.2]) (fun p => N - p.1.1) ⟨(0, cutA A c 12, c - 12, .slice none 0 0, [], []), PSt.nil (fun x hx => Byt.cut_fp (lo := 12) (hi := n) hx.1 hx) (show n - 12 ≤ c - 12 by omega)⟩ ⟨rfl, rfl, rfl, rfl, trivial⟩ (fun _ h => psF_nil (B := [Byt A n c bs, Byt (cutA A c 12) (n - 12) (c - 12) (sl bs 12 n)]) (h.cut (j := 0) (lo := 12) (hi := n) rfl (by omega) (by omega))) fun ⟨⟨i, Ai, ci, v, Kr, ps⟩, hp⟩ => ?_
    replace hp : PSt w.heap.size (Byt A n c bs) (fun j => ([nb bs (tof bs j - 1)], sl bs (tof bs j + 1) (tof bs j + (4 * (nb bs (tof bs j)) - 1)))) (fun j => tof bs j) n bs N i Ai ci v Kr ps := hp
    have hil : i ≤ N := hp.le
    have hr : RowS 49 2 i (psV ps) v Kr := hp.row
    have hcp : n - tof bs i ≤ ci := hp.cap
    have ho := tof_succ bs i
    have hge := tof_ge bs i
    have hal := tof_all (by omega) hg i (by omega)
    have hc := hg i
    have hz : i = N → nb bs (tof bs i - 1) = 0 := fun e => by rw [e]; exact hh
    show HT _ _ _ [(2, (.pointer (some ⟨b2, 0, none⟩))), (6, (.pointer (some ⟨b6, 0, none⟩))), (9, (.slice Ai (n - (tof bs i)) ci)), (8, (.int .u8 ((nb bs (tof bs i - 1) : Nat) : Int)))] (St w [] ([(gtp_s13_k1 b2), (gtp_s13_k3 b6 b48 v A c n), (gtp_s13_k0 b48 bs)] ++ Kr) [Byt A n c bs, Byt Ai (n - (tof bs i)) ci (sl bs (tof bs i) n), psF ps]) _
    refine HT.seq ?_
    refine HT.seq ?_
    refine HT.plain ?_
    refine sMv rfl rfl ?_
    by_cases h2 : nb bs (tof bs i - 1) ≠ 0
    · refine sqS (q_T (q_ne (p := nb bs (tof bs i - 1)) (q := 0) rfl rfl) h2) rfl ?_
      refine send ?_
      refine eseq ?_
      refine HT.yes rfl ?_
      refine HT.skip ?_
      refine eseq ?_
      refine HT.block ?_
      refine HT.seq ?_
      refine HT.seq ?_
      refine HT.plain ?_
      refine sMv rfl rfl ?_
      refine sqS (q_len (len := n - (tof bs i)) rfl Tryz.underlying22) rfl ?_
      refine sqS (q_F (q_eq (p := n - (tof bs i)) (q := 0) rfl rfl) (by omega)) rfl ?_
      refine sMv rfl rfl ?_
      refine sgqS rfl (q_move rfl) rfl ?_
      refine sgqS rfl (q_index (i := 0) (j := 1) rfl rfl Tryz.underlying22 nagg_5 (fun _ h => h) rfl (by omega)) rfl ?_
      refine sgqS rfl (q_N (q_byte (i := 0) (j := 1) rfl nagg_5 (fun _ h => h) rfl (by omega)) (a := nb (sl bs (tof bs i) n) 0) (b := nb bs (tof bs i)) (nb_sl (by omega))) rfl ?_
      refine sgqS rfl (q_F (q_eq (p := nb bs (tof bs i)) (q := 0) rfl rfl) (by have := nb_lt bs (tof bs i); omega)) rfl ?_
      refine sqS (q_pick rfl (fun h => nomatch h) (fun _ => rfl)) rfl ?_
      refine sMv rfl rfl ?_
      refine sgqS rfl (q_move rfl) rfl ?_
      refine sgqS rfl (q_index (i := 0) (j := 1) rfl rfl Tryz.underlying22 nagg_5 (fun _ h => h) rfl (by omega)) rfl ?_
      refine sgqS rfl (q_N (q_byte (i := 0) (j := 1) rfl nagg_5 (fun _ h => h) rfl (by omega)) (a := nb (sl bs (tof bs i) n) 0) (b := nb bs (tof bs i)) (nb_sl (by omega))) rfl ?_
      refine sgqS rfl (q_convn (p := nb bs (tof bs i)) rfl Tryz.underlying5 Tryz.underlying3 (show nb bs (tof bs i) < 9223372036854775808 by have := nb_lt bs (tof bs i); omega)) rfl ?_
      refine sgqS rfl (q_mul (p := 4) (q := nb bs (tof bs i)) rfl rfl (show 4 * (nb bs (tof bs i)) < 9223372036854775808 by have := nb_lt bs (tof bs i); omega)) rfl ?_
      refine sgqS rfl (q_move rfl) rfl ?_
      refine sgqS rfl (q_len (len := n - (tof bs i)) rfl Tryz.underlying22) rfl ?_
      refine sgqS rfl (q_F (q_gt (p := 4 * (nb bs (tof bs i))) (q := n - (tof bs i)) rfl rfl) (by have := nb_lt bs (tof bs i); omega)) rfl ?_
      refine sqS (q_pick rfl (fun h => nomatch h) (fun _ => rfl)) rfl ?_
      refine send ?_
      refine eseq ?_
      refine HT.no rfl ?_
      refine HT.skip ?_
      refine eseq ?_
      refine HT.seq ?_
      refine HT.plain ?_
      refine sMv rfl rfl ?_
      refine sqS (q_index (i := 0) (j := 1) rfl rfl Tryz.underlying22 nagg_5 (fun _ h => h) rfl (by omega)) rfl ?_
      refine sqS (q_N (q_byte (i := 0) (j := 1) rfl nagg_5 (fun _ h => h) rfl (by omega)) (a := nb (sl bs (tof bs i) n) 0) (b := nb bs (tof bs i)) (nb_sl (by omega))) rfl ?_
      refine sqS (q_convn (p := nb bs (tof bs i)) rfl Tryz.underlying5 Tryz.underlying3 (show nb bs (tof bs i) < 9223372036854775808 by have := nb_lt bs (tof bs i); omega)) rfl ?_
      refine sqS (q_mul (p := 4) (q := nb bs (tof bs i)) rfl rfl (show 4 * (nb bs (tof bs i)) < 9223372036854775808 by have := nb_lt bs (tof bs i); omega)) rfl ?_
      refine sAs rfl rfl ?_
      refine send ?_
      refine eseq ?_
      refine HT.seq ?_
      refine HT.drawn mixed (St.closed _ _ _ _) (St w [] [(gtp_s13_k1 b2), ⟨b6, 29, [some (.slice (some ⟨b48, 0, none⟩) 11 11), some (.slice none 0 0), none, some (.slice (cutA A c 8) (n - 8) (c - 8))], true⟩, (gtp_s13_k0 b48 bs)] [Byt A n c bs, Byt Ai (n - (tof bs i)) ci (sl bs (tof bs i) n), psF ps]) ?_
      refine dtake (f := 7) [0, 2, 3, 5, 6, 7, 8] (by kernel_rfl) (St.closed _ _ _ _) (fun _ h => (St.wk (St.untail (K := [(gtp_s13_k1 b2), (gtp_s13_k3 b6 b48 v A c n), (gtp_s13_k0 b48 bs)]) (Kr := Kr) h) [(0, []), (1, [2]), (2, [])] rfl)) (by kernel_rfl) ?_
      refine dq rfl (q_field (b := b6) (off := 0) rfl fo_29_2) ?_
      refine dq rfl (q_move rfl) ?_
      refine dq rfl (q_convn (p := nb bs (tof bs i - 1)) rfl Tryz.underlying5 Tryz.underlying39 (show nb bs (tof bs i - 1) < 18446744073709551616 by have := nb_lt bs (tof bs i - 1); omega)) ?_
      refine dq rfl (q_move rfl) ?_
      refine dq rfl (q_move rfl) ?_
      refine dq rfl (q_sub (p := 4 * (nb bs (tof bs i))) (q := 1) rfl rfl (by have := nb_lt bs (tof bs i); omega) (show 4 * (nb bs (tof bs i)) < 9223372036854775808 by have := nb_lt bs (tof bs i); omega)) ?_
      refine dq rfl (q_slice (lo := 1) (hi := (4 * (nb bs (tof bs i))) - 1) rfl Tryz.underlying22 nagg_5 (.inr ⟨_, _, rfl, rfl⟩) (.inr ⟨_, _, rfl, rfl⟩) (by have := nb_lt bs (tof bs i); omega) (by have := nb_lt bs (tof bs i); omega)) ?_
      refine QL.nil ?_
      refine RG.step2 1 4 (by kernel_rfl) ?_ ?_
      · refine dop rfl (l_q _ (by simp) (St.closed _ _ _ _) (q_load (b := b6) (off := 2) (j := 1) rfl nagg_27 (fun _ h => h) rfl rfl rfl) ⟨(fun _ h => (St.wk (St.untail (K := [(gtp_s13_k1 b2), (gtp_s13_k3 b6 b48 v A c n), (gtp_s13_k0 b48 bs)]) (Kr := Kr) h) [(0, []), (1, [2]), (2, [])] rfl)), ?_⟩)
        refine RG.step1 4 (by kernel_rfl) ?_
        refine dop rfl (l_buildSliceT (K := [(gtp_s13_k1 b2), (gtp_s13_k3 b6 b48 v A c n), (gtp_s13_k0 b48 bs)]) (Kr := Kr) (e := 39) (vs := [(0, (.int .u64 ((nb bs (tof bs i - 1) : Nat) : Int)))]) (cs := [(.int .u64 ((nb bs (tof bs i - 1) : Nat) : Int))]) (by decide) rfl (fun _ => by kernel_rfl) fun b140 => ⟨(fun _ h => (St.wk (St.untail (K := [(gtp_s13_k1 b2), (gtp_s13_k3 b6 b48 v A c n), (gtp_s13_k0 b48 bs), ⟨b140, 39, [some (.int .u64 ((nb bs (tof bs i - 1) : Nat) : Int))], true⟩]) (Kr := Kr) h) [(0, []), (1, [2]), (2, [])] rfl)), ?_⟩)
        refine dtake (f := 4) [9] (by kernel_rfl) (St.closed _ _ _ _) (fun _ h => (St.wk (St.untail (K := [(gtp_s13_k1 b2), (gtp_s13_k3 b6 b48 v A c n), (gtp_s13_k0 b48 bs), ⟨b140, 39, [some (.int .u64 ((nb bs (tof bs i - 1) : Nat) : Int))], true⟩]) (Kr := Kr) h) [(0, []), (1, [2]), (2, [])] rfl)) (by kernel_rfl) ?_
        refine dq rfl (q_build (vs := [(0, (.slice (some ⟨b140, 0, none⟩) 1 1)), (1, (.slice (cutA Ai ci 1) (((4 * (nb bs (tof bs i))) - 1) - 1) (ci - 1)))]) (v := (.agg #[(.slice (some ⟨b140, 0, none⟩) 1 1), (.slice (cutA Ai ci 1) (((4 * (nb bs (tof bs i))) - 1) - 1) (ci - 1))])) rfl (fun _ => by kernel_rfl)) ?_
        refine QL.nil ?_
        refine RG.step1 10 (by kernel_rfl) ?_
        refine dop rfl (l_buildSliceT (K := [(gtp_s13_k1 b2), (gtp_s13_k3 b6 b48 v A c n), (gtp_s13_k0 b48 bs), ⟨b140, 39, [some (.int .u64 ((nb bs (tof bs i - 1) : Nat) : Int))], true⟩]) (Kr := Kr) (e := 49) (vs := [(0, (.agg #[(.slice (some ⟨b140, 0, none⟩) 1 1), (.slice (cutA Ai ci 1) (((4 * (nb bs (tof bs i))) - 1) - 1) (ci - 1))]))]) (cs := [(.slice (some ⟨b140, 0, none⟩) 1 1), (.slice (cutA Ai ci 1) (((4 * (nb bs (tof bs i))) - 1) - 1) (ci - 1))]) (by decide) rfl (fun _ => by kernel_rfl) fun b146 => ⟨(fun _ h => (St.wk (St.untail (K := [(gtp_s13_k1 b2), (gtp_s13_k3 b6 b48 v A c n), (gtp_s13_k0 b48 bs), ⟨b140, 39, [some (.int .u64 ((nb bs (tof bs i - 1) : Nat) : Int))], true⟩, (gtp_s13_k2 b146 b140 Ai ci bs i)]) (Kr := Kr) h) [(0, []), (1, [2]), (2, [])] rfl)), ?_⟩)
        refine RG.step1 11 (by kernel_rfl) ?_
        refine dop rfl (l_appendR2 (K0 := [(gtp_s13_k1 b2), (gtp_s13_k3 b6 b48 v A c n), (gtp_s13_k0 b48 bs), ⟨b140, 39, [some (.int .u64 ((nb bs (tof bs i - 1) : Nat) : Int))], true⟩, (gtp_s13_k2 b146 b140 Ai ci bs i)]) (Kr := Kr) (k := i) (xs := (psV ps)) (jq := 4) (news := [(.slice (some ⟨b140, 0, none⟩) 1 1), (.slice (cutA Ai ci 1) (((4 * (nb bs (tof bs i))) - 1) - 1) (ci - 1))]) (by decide) rfl rfl Tryz.underlying27 rowT_49 (by decide) hr (by have := hil; omega) rfl rfl (by simp [Value.one1]) fun v147 Kr147 hr147 => ⟨(fun _ h => (St.wk (St.untail (K := [(gtp_s13_k1 b2), (gtp_s13_k3 b6 b48 v A c n), (gtp_s13_k0 b48 bs), ⟨b140, 39, [some (.int .u64 ((nb bs (tof bs i - 1) : Nat) : Int))], true⟩, (gtp_s13_k2 b146 b140 Ai ci bs i)]) (Kr := Kr147) h) [(0, []), (1, [2]), (2, [])] rfl)), ?_⟩)
        refine dtake (f := 1) [12] (by kernel_rfl) (St.closed _ _ _ _) (fun _ h => (St.wk (St.untail (K := [(gtp_s13_k1 b2), (gtp_s13_k3 b6 b48 v A c n), (gtp_s13_k0 b48 bs), ⟨b140, 39, [some (.int .u64 ((nb bs (tof bs i - 1) : Nat) : Int))], true⟩, (gtp_s13_k2 b146 b140 Ai ci bs i)]) (Kr := Kr147) h) [(0, []), (1, [2]), (2, [])] rfl)) (by kernel_rfl) ?_
        refine dq rfl (q_field (b := b6) (off := 0) rfl fo_29_2) ?_
        refine QL.nil ?_
        refine RG.step1 13 (by kernel_rfl) ?_
        refine dop rfl (l_store (b := b6) (off := 2) (j := 1) rfl rfl nagg_27 hr147.one rfl rfl rfl (dlt rfl) ⟨(fun _ h => (St.wk (St.untail (K := [(gtp_s13_k1 b2), (gtp_s13_k4 b6 b48 v147 A c n), (gtp_s13_k0 b48 bs), ⟨b140, 39, [some (.int .u64 ((nb bs (tof bs i - 1) : Nat) : Int))], true⟩, (gtp_s13_k2 b146 b140 Ai ci bs i)]) (Kr := Kr147) h) [(0, []), (1, [2]), (2, [])] rfl)), ?_⟩)
        refine dend (by kernel_rfl) ?_
        refine eseq ?_
        refine HT.norm ([(gtp_s13_k1 b2), (gtp_s13_k4 b6 b48 v147 A c n), (gtp_s13_k0 b48 bs), ⟨b140, 39, [some (.int .u64 ((nb bs (tof bs i - 1) : Nat) : Int))], true⟩, (gtp_s13_k2 b146 b140 Ai ci bs i)] ++ Kr147) [Byt A n c bs, Byt Ai (n - (tof bs i)) ci (sl bs (tof bs i) n), psF ps] rfl rfl ?_
        refine HT.drawn mixed (St.closed _ _ _ _) (St w [] [(gtp_s13_k1 b2), (gtp_s13_k4 b6 b48 v147 A c n), (gtp_s13_k0 b48 bs), ⟨b140, 39, [some (.int .u64 ((nb bs (tof bs i - 1) : Nat) : Int))], true⟩, (gtp_s13_k2 b146 b140 Ai ci bs i)] [Byt A n c bs, Byt Ai (n - (tof bs i)) ci (sl bs (tof bs i) n), psF ps]) ?_
        refine dtake (f := 0) [0, 1, 2, 3, 4, 5, 6, 7, 8, 9] (by kernel_rfl) (St.closed _ _ _ _) (fun _ h => (St.untail (K := [(gtp_s13_k1 b2), (gtp_s13_k4 b6 b48 v147 A c n), (gtp_s13_k0 b48 bs), ⟨b140, 39, [some (.int .u64 ((nb bs (tof bs i - 1) : Nat) : Int))], true⟩, (gtp_s13_k2 b146 b140 Ai ci bs i)]) (Kr := Kr147) h)) (by kernel_rfl) ?_
        refine dq rfl (q_move rfl) ?_
        refine dq rfl (q_move rfl) ?_
        refine dq rfl (q_sub (p := 4 * (nb bs (tof bs i))) (q := 1) rfl rfl (by have := nb_lt bs (tof bs i); omega) (show 4 * (nb bs (tof bs i)) < 9223372036854775808 by have := nb_lt bs (tof bs i); omega)) ?_
        refine dq rfl (q_index (i := (4 * (nb bs (tof bs i))) - 1) (j := 1) rfl rfl Tryz.underlying22 nagg_5 (fun _ h => h) rfl (by have := nb_lt bs (tof bs i); omega)) ?_
        refine dq rfl (q_N (q_byte (i := (4 * (nb bs (tof bs i))) - 1) (j := 1) rfl nagg_5 (fun _ h => h) rfl (by have := nb_lt bs (tof bs i); omega)) (a := nb (sl bs (tof bs i) n) ((4 * (nb bs (tof bs i))) - 1)) (b := nb bs ((tof bs i) + ((4 * (nb bs (tof bs i))) - 1))) (nb_sl (by omega))) ?_
        refine dq rfl (q_move rfl) ?_
        refine dq rfl (q_move rfl) ?_
        refine dq rfl (q_slice (lo := 4 * (nb bs (tof bs i))) (hi := n - (tof bs i)) rfl Tryz.underlying22 nagg_5 (.inr ⟨_, _, rfl, rfl⟩) (.inl ⟨rfl, rfl⟩) (by have := nb_lt bs (tof bs i); omega) (by omega)) ?_
        refine dq rfl (q_assign rfl) ?_
        refine dq rfl (q_assign rfl) ?_
        refine QL.nil ?_
        refine dend (by kernel_rfl) ?_
        refine ein ?_
        exact fun a ha w' hw => by
          obtain ⟨hp2, hs2⟩ := PSt.step hp (X := [(gtp_s13_k1 b2), (gtp_s13_k4 b6 b48 v147 A c n), (gtp_s13_k0 b48 bs)]) (Y := [(gtp_s13_k2 b146 b140 Ai ci bs i)]) (k := ⟨b140, 39, [some (.int .u64 ((nb bs (tof bs i - 1) : Nat) : Int))], true⟩) (B := [Byt A n c bs]) (r := []) (cnt := 1) (cap := 1) (xs := [nb bs (tof bs i - 1)]) (lo := 1) (hi := (4 * (nb bs (tof bs i))) - 1) (sz := 4 * (nb bs (tof bs i))) hw (by omega) rfl rfl (Nat.le_refl _) rfl hr147 (by omega) (by omega) (by omega) (by omega) (pdt (lc rfl rfl) (by omega) (by omega))
          exact eround2 ⟨(i + 1, _, _, _, _, _), hp2⟩ (show N - (i + 1) < N - i by omega) (ha.sub ⟨rfl, rfl, slc (n' := n - tof bs (i + 1)) (by omega), nbc (n' := tof bs (i + 1) - 1) (by omega), trivial⟩) hs2
      · refine dop rfl (l_buildSliceT (K := [(gtp_s13_k1 b2), (gtp_s13_k3 b6 b48 v A c n), (gtp_s13_k0 b48 bs)]) (Kr := Kr) (e := 39) (vs := [(0, (.int .u64 ((nb bs (tof bs i - 1) : Nat) : Int)))]) (cs := [(.int .u64 ((nb bs (tof bs i - 1) : Nat) : Int))]) (by decide) rfl (fun _ => by kernel_rfl) fun b140 => ⟨(fun _ h => (St.wk (St.untail (K := [(gtp_s13_k1 b2), (gtp_s13_k3 b6 b48 v A c n), (gtp_s13_k0 b48 bs), ⟨b140, 39, [some (.int .u64 ((nb bs (tof bs i - 1) : Nat) : Int))], true⟩]) (Kr := Kr) h) [(0, []), (1, [2]), (2, [])] rfl)), ?_⟩)
        refine dtake (f := 5) [9] (by kernel_rfl) (St.closed _ _ _ _) (fun _ h => (St.wk (St.untail (K := [(gtp_s13_k1 b2), (gtp_s13_k3 b6 b48 v A c n), (gtp_s13_k0 b48 bs), ⟨b140, 39, [some (.int .u64 ((nb bs (tof bs i - 1) : Nat) : Int))], true⟩]) (Kr := Kr) h) [(0, []), (1, [2]), (2, [])] rfl)) (by kernel_rfl) ?_
        refine dq rfl (q_build (vs := [(0, (.slice (some ⟨b140, 0, none⟩) 1 1)), (1, (.slice (cutA Ai ci 1) (((4 * (nb bs (tof bs i))) - 1) - 1) (ci - 1)))]) (v := (.agg #[(.slice (some ⟨b140, 0, none⟩) 1 1), (.slice (cutA Ai ci 1) (((4 * (nb bs (tof bs i))) - 1) - 1) (ci - 1))])) rfl (fun _ => by kernel_rfl)) ?_
        refine QL.nil ?_
        refine RG.step2 1 10 (by kernel_rfl) ?_ ?_
        · refine dop rfl (l_q _ (by simp) (St.closed _ _ _ _) (q_load (b := b6) (off := 2) (j := 1) rfl nagg_27 (fun _ h => h) rfl rfl rfl) ⟨(fun _ h => (St.wk (St.untail (K := [(gtp_s13_k1 b2), (gtp_s13_k3 b6 b48 v A c n), (gtp_s13_k0 b48 bs), ⟨b140, 39, [some (.int .u64 ((nb bs (tof bs i - 1) : Nat) : Int))], true⟩]) (Kr := Kr) h) [(0, []), (1, [2]), (2, [])] rfl)), ?_⟩)
          refine RG.step1 10 (by kernel_rfl) ?_
          refine dop rfl (l_buildSliceT (K := [(gtp_s13_k1 b2), (gtp_s13_k3 b6 b48 v A c n), (gtp_s13_k0 b48 bs), ⟨b140, 39, [some (.int .u64 ((nb bs (tof bs i - 1) : Nat) : Int))], true⟩]) (Kr := Kr) (e := 49) (vs := [(0, (.agg #[(.slice (some ⟨b140, 0, none⟩) 1 1), (.slice (cutA Ai ci 1) (((4 * (nb bs (tof bs i))) - 1) - 1) (ci - 1))]))]) (cs := [(.slice (some ⟨b140, 0, none⟩) 1 1), (.slice (cutA Ai ci 1) (((4 * (nb bs (tof bs i))) - 1) - 1) (ci - 1))]) (by decide) rfl (fun _ => by kernel_rfl) fun b146 => ⟨(fun _ h => (St.wk (St.untail (K := [(gtp_s13_k1 b2), (gtp_s13_k3 b6 b48 v A c n), (gtp_s13_k0 b48 bs), ⟨b140, 39, [some (.int .u64 ((nb bs (tof bs i - 1) : Nat) : Int))], true⟩, (gtp_s13_k2 b146 b140 Ai ci bs i)]) (Kr := Kr) h) [(0, []), (1, [2]), (2, [])] rfl)), ?_⟩)
          refine RG.step1 11 (by kernel_rfl) ?_
          refine dop rfl (l_appendR2 (K0 := [(gtp_s13_k1 b2), (gtp_s13_k3 b6 b48 v A c n), (gtp_s13_k0 b48 bs), ⟨b140, 39, [some (.int .u64 ((nb bs (tof bs i - 1) : Nat) : Int))], true⟩, (gtp_s13_k2 b146 b140 Ai ci bs i)]) (Kr := Kr) (k := i) (xs := (psV ps)) (jq := 4) (news := [(.slice (some ⟨b140, 0, none⟩) 1 1), (.slice (cutA Ai ci 1) (((4 * (nb bs (tof bs i))) - 1) - 1) (ci - 1))]) (by decide) rfl rfl Tryz.underlying27 rowT_49 (by decide) hr (by have := hil; omega) rfl rfl (by simp [Value.one1]) fun v147 Kr147 hr147 => ⟨(fun _ h => (St.wk (St.untail (K := [(gtp_s13_k1 b2), (gtp_s13_k3 b6 b48 v A c n), (gtp_s13_k0 b48 bs), ⟨b140, 39, [some (.int .u64 ((nb bs (tof bs i - 1) : Nat) : Int))], true⟩, (gtp_s13_k2 b146 b140 Ai ci bs i)]) (Kr := Kr147) h) [(0, []), (1, [2]), (2, [])] rfl)), ?_⟩)
          refine dtake (f := 1) [12] (by kernel_rfl) (St.closed _ _ _ _) (fun _ h => (St.wk (St.untail (K := [(gtp_s13_k1 b2), (gtp_s13_k3 b6 b48 v A c n), (gtp_s13_k0 b48 bs), ⟨b140, 39, [some (.int .u64 ((nb bs (tof bs i - 1) : Nat) : Int))], true⟩, (gtp_s13_k2 b146 b140 Ai ci bs i)]) (Kr := Kr147) h) [(0, []), (1, [2]), (2, [])] rfl)) (by kernel_rfl) ?_
          refine dq rfl (q_field (b := b6) (off := 0) rfl fo_29_2) ?_
          refine QL.nil ?_
          refine RG.step1 13 (by kernel_rfl) ?_
          refine dop rfl (l_store (b := b6) (off := 2) (j := 1) rfl rfl nagg_27 hr147.one rfl rfl rfl (dlt rfl) ⟨(fun _ h => (St.wk (St.untail (K := [(gtp_s13_k1 b2), (gtp_s13_k4 b6 b48 v147 A c n), (gtp_s13_k0 b48 bs), ⟨b140, 39, [some (.int .u64 ((nb bs (tof bs i - 1) : Nat) : Int))], true⟩, (gtp_s13_k2 b146 b140 Ai ci bs i)]) (Kr := Kr147) h) [(0, []), (1, [2]), (2, [])] rfl)), ?_⟩)
          refine dend (by kernel_rfl) ?_
          refine eseq ?_
          refine HT.norm ([(gtp_s13_k1 b2), (gtp_s13_k4 b6 b48 v147 A c n), (gtp_s13_k0 b48 bs), ⟨b140, 39, [some (.int .u64 ((nb bs (tof bs i - 1) : Nat) : Int))], true⟩, (gtp_s13_k2 b146 b140 Ai ci bs i)] ++ Kr147) [Byt A n c bs, Byt Ai (n - (tof bs i)) ci (sl bs (tof bs i) n), psF ps] rfl rfl ?_
          refine HT.drawn mixed (St.closed _ _ _ _) (St w [] [(gtp_s13_k1 b2), (gtp_s13_k4 b6 b48 v147 A c n), (gtp_s13_k0 b48 bs), ⟨b140, 39, [some (.int .u64 ((nb bs (tof bs i - 1) : Nat) : Int))], true⟩, (gtp_s13_k2 b146 b140 Ai ci bs i)] [Byt A n c bs, Byt Ai (n - (tof bs i)) ci (sl bs (tof bs i) n), psF ps]) ?_
          refine dtake (f := 0) [0, 1, 2, 3, 4, 5, 6, 7, 8, 9] (by kernel_rfl) (St.closed _ _ _ _) (fun _ h => (St.untail (K := [(gtp_s13_k1 b2), (gtp_s13_k4 b6 b48 v147 A c n), (gtp_s13_k0 b48 bs), ⟨b140, 39, [some (.int .u64 ((nb bs (tof bs i - 1) : Nat) : Int))], true⟩, (gtp_s13_k2 b146 b140 Ai ci bs i)]) (Kr := Kr147) h)) (by kernel_rfl) ?_
          refine dq rfl (q_move rfl) ?_
          refine dq rfl (q_move rfl) ?_
          refine dq rfl (q_sub (p := 4 * (nb bs (tof bs i))) (q := 1) rfl rfl (by have := nb_lt bs (tof bs i); omega) (show 4 * (nb bs (tof bs i)) < 9223372036854775808 by have := nb_lt bs (tof bs i); omega)) ?_
          refine dq rfl (q_index (i := (4 * (nb bs (tof bs i))) - 1) (j := 1) rfl rfl Tryz.underlying22 nagg_5 (fun _ h => h) rfl (by have := nb_lt bs (tof bs i); omega)) ?_
          refine dq rfl (q_N (q_byte (i := (4 * (nb bs (tof bs i))) - 1) (j := 1) rfl nagg_5 (fun _ h => h) rfl (by have := nb_lt bs (tof bs i); omega)) (a := nb (sl bs (tof bs i) n) ((4 * (nb bs (tof bs i))) - 1)) (b := nb bs ((tof bs i) + ((4 * (nb bs (tof bs i))) - 1))) (nb_sl (by omega))) ?_
          refine dq rfl (q_move rfl) ?_
          refine dq rfl (q_move rfl) ?_
          refine dq rfl (q_slice (lo := 4 * (nb bs (tof bs i))) (hi := n - (tof bs i)) rfl Tryz.underlying22 nagg_5 (.inr ⟨_, _, rfl, rfl⟩) (.inl ⟨rfl, rfl⟩) (by have := nb_lt bs (tof bs i); omega) (by omega)) ?_
          refine dq rfl (q_assign rfl) ?_
          refine dq rfl (q_assign rfl) ?_
          refine QL.nil ?_
          refine dend (by kernel_rfl) ?_
          refine ein ?_
          exact fun a ha w' hw => by
            obtain ⟨hp2, hs2⟩ := PSt.step hp (X := [(gtp_s13_k1 b2), (gtp_s13_k4 b6 b48 v147 A c n), (gtp_s13_k0 b48 bs)]) (Y := [(gtp_s13_k2 b146 b140 Ai ci bs i)]) (k := ⟨b140, 39, [some (.int .u64 ((nb bs (tof bs i - 1) : Nat) : Int))], true⟩) (B := [Byt A n c bs]) (r := []) (cnt := 1) (cap := 1) (xs := [nb bs (tof bs i - 1)]) (lo := 1) (hi := (4 * (nb bs (tof bs i))) - 1) (sz := 4 * (nb bs (tof bs i))) hw (by omega) rfl rfl (Nat.le_refl _) rfl hr147 (by omega) (by omega) (by omega) (by omega) (pdt (lc rfl rfl) (by omega) (by omega))
            exact eround2 ⟨(i + 1, _, _, _, _, _), hp2⟩ (show N - (i + 1) < N - i by omega) (ha.sub ⟨rfl, rfl, slc (n' := n - tof bs (i + 1)) (by omega), nbc (n' := tof bs (i + 1) - 1) (by omega), trivial⟩) hs2
        · refine dop rfl (l_buildSliceT (K := [(gtp_s13_k1 b2), (gtp_s13_k3 b6 b48 v A c n), (gtp_s13_k0 b48 bs), ⟨b140, 39, [some (.int .u64 ((nb bs (tof bs i - 1) : Nat) : Int))], true⟩]) (Kr := Kr) (e := 49) (vs := [(0, (.agg #[(.slice (some ⟨b140, 0, none⟩) 1 1), (.slice (cutA Ai ci 1) (((4 * (nb bs (tof bs i))) - 1) - 1) (ci - 1))]))]) (cs := [(.slice (some ⟨b140, 0, none⟩) 1 1), (.slice (cutA Ai ci 1) (((4 * (nb bs (tof bs i))) - 1) - 1) (ci - 1))]) (by decide) rfl (fun _ => by kernel_rfl) fun b146 => ⟨(fun _ h => (St.wk (St.untail (K := [(gtp_s13_k1 b2), (gtp_s13_k3 b6 b48 v A c n), (gtp_s13_k0 b48 bs), ⟨b140, 39, [some (.int .u64 ((nb bs (tof bs i - 1) : Nat) : Int))], true⟩, (gtp_s13_k2 b146 b140 Ai ci bs i)]) (Kr := Kr) h) [(0, []), (1, [2]), (2, [])] rfl)), ?_⟩)
          refine RG.step1 1 (by kernel_rfl) ?_
          refine dop rfl (l_q _ (by simp) (St.closed _ _ _ _) (q_load (b := b6) (off := 2) (j := 1) rfl nagg_27 (fun _ h => h) rfl rfl rfl) ⟨(fun _ h => (St.wk (St.untail (K := [(gtp_s13_k1 b2), (gtp_s13_k3 b6 b48 v A c n), (gtp_s13_k0 b48 bs), ⟨b140, 39, [some (.int .u64 ((nb bs (tof bs i - 1) : Nat) : Int))], true⟩, (gtp_s13_k2 b146 b140 Ai ci bs i)]) (Kr := Kr) h) [(0, []), (1, [2]), (2, [])] rfl)), ?_⟩)
          refine RG.step1 11 (by kernel_rfl) ?_
          refine dop rfl (l_appendR2 (K0 := [(gtp_s13_k1 b2), (gtp_s13_k3 b6 b48 v A c n), (gtp_s13_k0 b48 bs), ⟨b140, 39, [some (.int .u64 ((nb bs (tof bs i - 1) : Nat) : Int))], true⟩, (gtp_s13_k2 b146 b140 Ai ci bs i)]) (Kr := Kr) (k := i) (xs := (psV ps)) (jq := 4) (news := [(.slice (some ⟨b140, 0, none⟩) 1 1), (.slice (cutA Ai ci 1) (((4 * (nb bs (tof bs i))) - 1) - 1) (ci - 1))]) (by decide) rfl rfl Tryz.underlying27 rowT_49 (by decide) hr (by have := hil; omega) rfl rfl (by simp [Value.one1]) fun v147 Kr147 hr147 => ⟨(fun _ h => (St.wk (St.untail (K := [(gtp_s13_k1 b2), (gtp_s13_k3 b6 b48 v A c n), (gtp_s13_k0 b48 bs), ⟨b140, 39, [some (.int .u64 ((nb bs (tof bs i - 1) : Nat) : Int))], true⟩, (gtp_s13_k2 b146 b140 Ai ci bs i)]) (Kr := Kr147) h) [(0, []), (1, [2]), (2, [])] rfl)), ?_⟩)
          refine dtake (f := 1) [12] (by kernel_rfl) (St.closed _ _ _ _) (fun _ h => (St.wk (St.untail (K := [(gtp_s13_k1 b2), (gtp_s13_k3 b6 b48 v A c n), (gtp_s13_k0 b48 bs), ⟨b140, 39, [some (.int .u64 ((nb bs (tof bs i - 1) : Nat) : Int))], true⟩, (gtp_s13_k2 b146 b140 Ai ci bs i)]) (Kr := Kr147) h) [(0, []), (1, [2]), (2, [])] rfl)) (by kernel_rfl) ?_
          refine dq rfl (q_field (b := b6) (off := 0) rfl fo_29_2) ?_
          refine QL.nil ?_
          refine RG.step1 13 (by kernel_rfl) ?_
          refine dop rfl (l_store (b := b6) (off := 2) (j := 1) rfl rfl nagg_27 hr147.one rfl rfl rfl (dlt rfl) ⟨(fun _ h => (St.wk (St.untail (K := [(gtp_s13_k1 b2), (gtp_s13_k4 b6 b48 v147 A c n), (gtp_s13_k0 b48 bs), ⟨b140, 39, [some (.int .u64 ((nb bs (tof bs i - 1) : Nat) : Int))], true⟩, (gtp_s13_k2 b146 b140 Ai ci bs i)]) (Kr := Kr147) h) [(0, []), (1, [2]), (2, [])] rfl)), ?_⟩)
          refine dend (by kernel_rfl) ?_
          refine eseq ?_
          refine HT.norm ([(gtp_s13_k1 b2), (gtp_s13_k4 b6 b48 v147 A c n), (gtp_s13_k0 b48 bs), ⟨b140, 39, [some (.int .u64 ((nb bs (tof bs i - 1) : Nat) : Int))], true⟩, (gtp_s13_k2 b146 b140 Ai ci bs i)] ++ Kr147) [Byt A n c bs, Byt Ai (n - (tof bs i)) ci (sl bs (tof bs i) n), psF ps] rfl rfl ?_
          refine HT.drawn mixed (St.closed _ _ _ _) (St w [] [(gtp_s13_k1 b2), (gtp_s13_k4 b6 b48 v147 A c n), (gtp_s13_k0 b48 bs), ⟨b140, 39, [some (.int .u64 ((nb bs (tof bs i - 1) : Nat) : Int))], true⟩, (gtp_s13_k2 b146 b140 Ai ci bs i)] [Byt A n c bs, Byt Ai (n - (tof bs i)) ci (sl bs (tof bs i) n), psF ps]) ?_
          refine dtake (f := 0) [0, 1, 2, 3, 4, 5, 6, 7, 8, 9] (by kernel_rfl) (St.closed _ _ _ _) (fun _ h => (St.untail (K := [(gtp_s13_k1 b2), (gtp_s13_k4 b6 b48 v147 A c n), (gtp_s13_k0 b48 bs), ⟨b140, 39, [some (.int .u64 ((nb bs (tof bs i - 1) : Nat) : Int))], true⟩, (gtp_s13_k2 b146 b140 Ai ci bs i)]) (Kr := Kr147) h)) (by kernel_rfl) ?_
          refine dq rfl (q_move rfl) ?_
          refine dq rfl (q_move rfl) ?_
          refine dq rfl (q_sub (p := 4 * (nb bs (tof bs i))) (q := 1) rfl rfl (by have := nb_lt bs (tof bs i); omega) (show 4 * (nb bs (tof bs i)) < 9223372036854775808 by have := nb_lt bs (tof bs i); omega)) ?_
          refine dq rfl (q_index (i := (4 * (nb bs (tof bs i))) - 1) (j := 1) rfl rfl Tryz.underlying22 nagg_5 (fun _ h => h) rfl (by have := nb_lt bs (tof bs i); omega)) ?_
          refine dq rfl (q_N (q_byte (i := (4 * (nb bs (tof bs i))) - 1) (j := 1) rfl nagg_5 (fun _ h => h) rfl (by have := nb_lt bs (tof bs i); omega)) (a := nb (sl bs (tof bs i) n) ((4 * (nb bs (tof bs i))) - 1)) (b := nb bs ((tof bs i) + ((4 * (nb bs (tof bs i))) - 1))) (nb_sl (by omega))) ?_
          refine dq rfl (q_move rfl) ?_
          refine dq rfl (q_move rfl) ?_
          refine dq rfl (q_slice (lo := 4 * (nb bs (tof bs i))) (hi := n - (tof bs i)) rfl Tryz.underlying22 nagg_5 (.inr ⟨_, _, rfl, rfl⟩) (.inl ⟨rfl, rfl⟩) (by have := nb_lt bs (tof bs i); omega) (by omega)) ?_
          refine dq rfl (q_assign rfl) ?_
          refine dq rfl (q_assign rfl) ?_
          refine QL.nil ?_
          refine dend (by kernel_rfl) ?_
          refine ein ?_
          exact fun a ha w' hw => by
            obtain ⟨hp2, hs2⟩ := PSt.step hp (X := [(gtp_s13_k1 b2), (gtp_s13_k4 b6 b48 v147 A c n), (gtp_s13_k0 b48 bs)]) (Y := [(gtp_s13_k2 b146 b140 Ai ci bs i)]) (k := ⟨b140, 39, [some (.int .u64 ((nb bs (tof bs i - 1) : Nat) : Int))], true⟩) (B := [Byt A n c bs]) (r := []) (cnt := 1) (cap := 1) (xs := [nb bs (tof bs i - 1)]) (lo := 1) (hi := (4 * (nb bs (tof bs i))) - 1) (sz := 4 * (nb bs (tof bs i))) hw (by omega) rfl rfl (Nat.le_refl _) rfl hr147 (by omega) (by omega) (by omega) (by omega) (pdt (lc rfl rfl) (by omega) (by omega))
            exact eround2 ⟨(i + 1, _, _, _, _, _), hp2⟩ (show N - (i + 1) < N - i by omega) (ha.sub ⟨rfl, rfl, slc (n' := n - tof bs (i + 1)) (by omega), nbc (n' := tof bs (i + 1) - 1) (by omega), trivial⟩) hs2
    · refine sqS (q_F (q_ne (p := nb bs (tof bs i - 1)) (q := 0) rfl rfl) h2) rfl ?_
      refine send ?_
      refine eseq ?_
      refine HT.no rfl ?_
      refine HT.exit ?_
      refine ex_then ?_
      refine ex_then ?_
      refine ex_in ?_
      refine eseq ?_
      have hiN : N = i := by omega
      subst hiN
      refine HT.rowFact (K := [(gtp_s13_k1 b2), (gtp_s13_k3 b6 b48 v A c n), (gtp_s13_k0 b48 bs)]) (Kr := Kr) hr (fun _ h => nomatch h) fun AQ cQ hvQ hncQ hfQ => ?_
      subst hvQ
      refine HT.seq ?_
      refine HT.plain ?_
      refine sMv rfl rfl ?_
      refine sqS (q_field (b := b6) (off := 0) rfl fo_29_3) rfl ?_
      refine sl_ (l_store (b := b6) (off := 3) (j := 1) rfl rfl nagg_22 rfl rfl rfl rfl (dlt rfl) ?_)
      refine send ?_
      refine eseq ?_
      refine HT.seq ?_
      refine HT.plain ?_
      refine sqS (q_loadAgg (b := b6) (off := 0) (j := 1) (vs := [(.slice (some ⟨b48, 0, none⟩) 11 11), (.slice none 0 0), (.slice AQ N cQ), (.slice Ai (n - (tof bs N)) ci)]) rfl aggs_29 (fun _ h => h) rfl rfl rfl) rfl ?_
      refine sl_ (l_storeAgg (b := b2) (off := 0) (j := 0) (vs := [(.slice (some ⟨b48, 0, none⟩) 11 11), (.slice none 0 0), (.slice AQ N cQ), (.slice Ai (n - (tof bs N)) ci)]) rfl rfl aggs_29 (by simp [Value.one1]) rfl rfl rfl (Nat.le_of_ble_eq_true rfl) ?_)
      refine sAs rfl rfl ?_
      refine sAs rfl rfl ?_
      refine send ?_
      refine eseq ?_
      refine HT.ret ?_
      exact fun a ha w' hw => fin_ ha (resc3 ha Tryz.results40 rfl (ld_ aggs_29 hw (j := 0) rfl rfl (vs := [(.slice (some ⟨b48, 0, none⟩) 11 11), (.slice none 0 0), (.slice AQ N cQ), (.slice Ai (n - (tof bs N)) ci)]) rfl) rfl rfl) ⟨⟨⟨some ⟨b48, 0, none⟩, 11, 11, [(nb bs 0) / 32, ((nb bs 0) / 16) &&& 1, ((nb bs 0) / 8) &&& 1, ((nb bs 0) / 4) &&& 1, ((nb bs 0) / 2) &&& 1, (nb bs 0) &&& 1, nb bs 1, bN bs 2 2, bN bs 4 4, bN bs 8 2, nb bs 10]⟩, none, 0, 0, [], AQ, N, cQ, ps, ⟨Ai, n - (tof bs N), ci, sl bs (tof bs N) n⟩⟩, rfl, hw.pres, Own.lay6 (Own.cel hw (j := 2) (sz := 1) (r := []) rfl rfl rfl rfl (Nat.le_refl _)) (Own.nilCel 1) (Own.byt hw (j := 3) rfl (fun i h => .inl (hfQ i h))) (Own.byt hw (j := 1) rfl (fun x h => .inr (hp.sub x h))) (fun _ h => nomatch h) (psOwnQ hw (j := 2) rfl hp.tol.own), LD_eq rfl rfl hp.tol.data rfl⟩

theorem gtp_S13 (w : World) (A : Option Addr) (n : Nat) (c : Nat) (bs : List UInt8) (N : Nat) (hn : n ≤ 2147483647) (ha : 8 ≤ n) (hb : bN bs 2 2 ≤ n - 8) (hc : 12 ≤ n) (hd : 4 ≤ bN bs 2 2) (he : nb bs 0 % 8 = 7) (hf : nb bs 11 ≠ 0) (hg : ∀ i, i < N → nb bs (tof bs i - 1) ≠ 0 ∧ tof bs i < n ∧ nb bs (tof bs i) ≠ 0 ∧ tof bs i + 4 * nb bs (tof bs i) ≤ n) (hh : nb bs (tof bs N - 1) = 0) (hst : St w [] [] [Byt A n c bs] w) : Calls Tryz.prog 26 #[(.string ⟨#[103, 116, 112]⟩), (.slice A n c)] w (SP w (Byt A n c bs) (some (some ⟨[(nb bs 0) / 32, ((nb bs 0) / 16) &&& 1, ((nb bs 0) / 8) &&& 1, ((nb bs 0) / 4) &&& 1, ((nb bs 0) / 2) &&& 1, (nb bs 0) &&& 1, nb bs 1, bN bs 2 2, bN bs 4 4, bN bs 8 2, nb bs 10], [], ((List.range N).map (fun j => ([nb bs (tof bs j - 1)], sl bs (tof bs j + 1) (tof bs j + (4 * (nb bs (tof bs j)) - 1))))), sl bs (tof bs N) n⟩))) := by
  have hnc00 : n ≤ c := (hst.fact (j := 0) rfl).2.1
  have halN := tof_all (by omega) hg N (Nat.le_refl N)
  refine enter (vs := [(.string ⟨#[103, 116, 112]⟩), (.slice A n c)]) Tryz.func26 rfl rfl rfl hst ?_
  refine HT.seq ?_
  refine HT.plain ?_
  refine sl_ (l_alloc (by decide) zero_29 fun b4 => ?_)
  refine sAs rfl rfl ?_
  refine sAs rfl rfl ?_
  refine send ?_
  refine eseq ?_
  refine HT.seq ?_
  refine HT.plain ?_
  refine sl_ (l_makeMap (by decide) fun b13 => ?_)
  refine sl_ (l_insert (es := es0) (ck := 0) rfl rfl rfl Tryz.underlying36 Tryz.underlying9 fi0 ?_)
  refine sl_ (l_insert (es := es1) (ck := 1) rfl rfl rfl Tryz.underlying36 Tryz.underlying9 fi1 ?_)
  refine sl_ (l_insert (es := es2) (ck := 2) rfl rfl rfl Tryz.underlying36 Tryz.underlying9 fi2 ?_)
  refine sl_ (l_insert (es := es3) (ck := 3) rfl rfl rfl Tryz.underlying36 Tryz.underlying9 fi3 ?_)
  refine sl_ (l_insert (es := es4) (ck := 4) rfl rfl rfl Tryz.underlying36 Tryz.underlying9 fi4 ?_)
  refine sl_ (l_insert (es := es5) (ck := 5) rfl rfl rfl Tryz.underlying36 Tryz.underlying9 fi5 ?_)
  refine sl_ (l_insert (es := es6) (ck := 6) rfl rfl rfl Tryz.underlying36 Tryz.underlying9 fi6 ?_)
  refine sl_ (l_insert (es := es7) (ck := 7) rfl rfl rfl Tryz.underlying36 Tryz.underlying9 fi7 ?_)
  refine sl_ (l_insert (es := es8) (ck := 8) rfl rfl rfl Tryz.underlying36 Tryz.underlying9 fi8 ?_)
  refine sl_ (l_insert (es := es9) (ck := 9) rfl rfl rfl Tryz.underlying36 Tryz.underlying9 fi9 ?_)
  refine sl_ (l_insert (es := es10) (ck := 10) rfl rfl rfl Tryz.underlying36 Tryz.underlying9 fi10 ?_)
  refine sl_ (l_insert (es := es11) (ck := 11) rfl rfl rfl Tryz.underlying36 Tryz.underlying9 fi11 ?_)
  refine sl_ (l_insert (es := es12) (ck := 12) rfl rfl rfl Tryz.underlying36 Tryz.underlying9 fi12 ?_)
  refine sl_ (l_insert (es := es13) (ck := 13) rfl rfl rfl Tryz.underlying36 Tryz.underlying9 fi13 ?_)
  refine sl_ (l_insert (es := es14) (ck := 14) rfl rfl rfl Tryz.underlying36 Tryz.underlying9 fi14 ?_)
  refine sl_ (l_insert (es := es15) (ck := 15) rfl rfl rfl Tryz.underlying36 Tryz.underlying9 fi15 ?_)
  refine sl_ (l_insert (es := es16) (ck := 16) rfl rfl rfl Tryz.underlying36 Tryz.underlying9 fi16 ?_)
  refine sl_ (l_insert (es := es17) (ck := 17) rfl rfl rfl Tryz.underlying36 Tryz.underlying9 fi17 ?_)
  refine sl_ (l_insert (es := es18) (ck := 18) rfl rfl rfl Tryz.underlying36 Tryz.underlying9 fi18 ?_)
  refine sl_ (l_insert (es := es19) (ck := 19) rfl rfl rfl Tryz.underlying36 Tryz.underlying9 fi19 ?_)
  refine sl_ (l_insert (es := es20) (ck := 20) rfl rfl rfl Tryz.underlying36 Tryz.underlying9 fi20 ?_)
  refine sq (SM.closed) (q_move rfl) rfl ?_
  refine sq (SM.closed) (q_move rfl) rfl ?_
  refine sq (SM.closed) (q_lookup (es := es21) (i := 11) (v := (.int .i64 ((8 : Nat) : Int))) (fun _ h => h) rfl rfl Tryz.underlying36 Tryz.underlying9 (by kernel_rfl)) rfl ?_
  refine sq (SM.closed) (q_assign rfl) rfl ?_
  refine send ?_
  refine eseq ?_
  refine HT.unmap ?_
  refine HT.seq ?_
  refine HT.seq ?_
  refine HT.plain ?_
  refine sMv rfl rfl ?_
  refine sqS (q_len (len := n) rfl Tryz.underlying22) rfl ?_
  refine sMv rfl rfl ?_
  refine sqS (q_F (q_lt (p := n) (q := 8) rfl rfl) (by omega)) rfl ?_
  refine send ?_
  refine eseq ?_
  refine HT.no rfl ?_
  refine HT.skip ?_
  refine eseq ?_
  refine HT.seq ?_
  refine HT.seq ?_
  refine HT.plain ?_
  refine sMv rfl rfl ?_
  refine send ?_
  refine eseq ?_
  refine HT.block ?_
  refine HT.seq ?_
  refine HT.plain ?_
  refine sqS (q_eqs rfl rfl (r := false) (by kernel_rfl)) rfl ?_
  refine sAs rfl rfl ?_
  refine send ?_
  refine eseq ?_
  refine HT.no rfl ?_
  refine HT.seq ?_
  refine HT.plain ?_
  refine sqS (q_eqs rfl rfl (r := false) (by kernel_rfl)) rfl ?_
  refine sAs rfl rfl ?_
  refine send ?_
  refine eseq ?_
  refine HT.no rfl ?_
  refine HT.seq ?_
  refine HT.plain ?_
  refine sqS (q_eqs rfl rfl (r := false) (by kernel_rfl)) rfl ?_
  refine sAs rfl rfl ?_
  refine send ?_
  refine eseq ?_
  refine HT.no rfl ?_
  refine HT.seq ?_
  refine HT.plain ?_
  refine sqS (q_eqs rfl rfl (r := false) (by kernel_rfl)) rfl ?_
  refine sAs rfl rfl ?_
  refine send ?_
  refine eseq ?_
  refine HT.no rfl ?_
  refine HT.seq ?_
  refine HT.plain ?_
  refine sqS (q_eqs rfl rfl (r := false) (by kernel_rfl)) rfl ?_
  refine sAs rfl rfl ?_
  refine send ?_
  refine eseq ?_
  refine HT.no rfl ?_
  refine HT.seq ?_
  refine HT.plain ?_
  refine sqS (q_eqs rfl rfl (r := false) (by kernel_rfl)) rfl ?_
  refine sAs rfl rfl ?_
  refine send ?_
  refine eseq ?_
  refine HT.no rfl ?_
  refine HT.seq ?_
  refine HT.plain ?_
  refine sqS (q_eqs rfl rfl (r := false) (by kernel_rfl)) rfl ?_
  refine sAs rfl rfl ?_
  refine send ?_
  refine eseq ?_
  refine HT.no rfl ?_
  refine HT.seq ?_
  refine HT.plain ?_
  refine sqS (q_eqs rfl rfl (r := false) (by kernel_rfl)) rfl ?_
  refine sAs rfl rfl ?_
  refine send ?_
  refine eseq ?_
  refine HT.no rfl ?_
  refine HT.seq ?_
  refine HT.plain ?_
  refine sqS (q_eqs rfl rfl (r := false) (by kernel_rfl)) rfl ?_
  refine sAs rfl rfl ?_
  refine send ?_
  refine eseq ?_
  refine HT.no rfl ?_
  refine HT.seq ?_
  refine HT.plain ?_
  refine sqS (q_eqs rfl rfl (r := false) (by kernel_rfl)) rfl ?_
  refine sAs rfl rfl ?_
  refine send ?_
  refine eseq ?_
  refine HT.no rfl ?_
  refine HT.seq ?_
  refine HT.plain ?_
  refine sqS (q_eqs rfl rfl (r := false) (by kernel_rfl)) rfl ?_
  refine sAs rfl rfl ?_
  refine send ?_
  refine eseq ?_
  refine HT.no rfl ?_
  refine HT.seq ?_
  refine HT.plain ?_
  refine sqS (q_eqs rfl rfl (r := true) (by kernel_rfl)) rfl ?_
  refine sAs rfl rfl ?_
  refine send ?_
  refine eseq ?_
  refine HT.yes rfl ?_
  refine HT.seq ?_
  refine HT.plain ?_
  refine sMv rfl rfl ?_
  refine sl_ (l_callLay (vs := [(.slice A n c)]) (tup := fun L => .tuple #[L.val, .bool true, .bool true]) 0 (by decide) rfl ca_40 rfl (fun w h => gtp_s13 w A n c bs N (by omega) (by omega) (by omega) (by omega) (by omega) (by omega) (by omega) hg (by omega) (St.enter (sp := []) (Kc := []) (bi := [0]) h rfl rfl rfl)) fun L hfL hdL hoL => ?_)
  refine sqS (q_extract (vs := [(.agg #[(.slice L.nums.A L.nums.n L.nums.c), (.slice L.dA L.dn L.dc), (.slice L.pA L.pn L.pc), (.slice L.pay.A L.pay.n L.pay.c)]), (.bool true), (.bool true)]) (i := 0) rfl rfl) rfl ?_
  refine sqS (q_extract (vs := [(.agg #[(.slice L.nums.A L.nums.n L.nums.c), (.slice L.dA L.dn L.dc), (.slice L.pA L.pn L.pc), (.slice L.pay.A L.pay.n L.pay.c)]), (.bool true), (.bool true)]) (i := 1) rfl rfl) rfl ?_
  refine sqS (q_extract (vs := [(.agg #[(.slice L.nums.A L.nums.n L.nums.c), (.slice L.dA L.dn L.dc), (.slice L.pA L.pn L.pc), (.slice L.pay.A L.pay.n L.pay.c)]), (.bool true), (.bool true)]) (i := 2) rfl rfl) rfl ?_
  refine sl_ (l_storeAgg (b := b4) (off := 0) (j := 0) (vs := [(.slice L.nums.A L.nums.n L.nums.c), (.slice L.dA L.dn L.dc), (.slice L.pA L.pn L.pc), (.slice L.pay.A L.pay.n L.pay.c)]) rfl rfl aggs_29 (by simp [Value.one1]) rfl rfl rfl (Nat.le_of_ble_eq_true rfl) ?_)
  refine sAs rfl rfl ?_
  refine sAs rfl rfl ?_
  refine send ?_
  refine eseq ?_
  refine HT.ret ?_
  refine rt_in ?_
  refine rt_then ?_
  exact fun a ha w' hw => fin_ ha (resc3 ha Tryz.results26 rfl (ld_ aggs_29 hw (j := 0) rfl rfl (vs := [(.slice L.nums.A L.nums.n L.nums.c), (.slice L.dA L.dn L.dc), (.slice L.pA L.pn L.pc), (.slice L.pay.A L.pay.n L.pay.c)]) rfl) rfl rfl) ⟨L, rfl, hw.pres, ⟨hw.fact (j := 1) rfl, hfL⟩, hdL⟩

abbrev gtp_s14_k0 (b48 : Nat) (bs : List UInt8) : Kb := ⟨b48, 39, [some (.int .u64 (((nb bs 0) / 32 : Nat) : Int)), some (.int .u64 ((((nb bs 0) / 16) &&& 1 : Nat) : Int)), some (.int .u64 ((((nb bs 0) / 8) &&& 1 : Nat) : Int)), some (.int .u64 ((((nb bs 0) / 4) &&& 1 : Nat) : Int)), some (.int .u64 ((((nb bs 0) / 2) &&& 1 : Nat) : Int)), some (.int .u64 (((nb bs 0) &&& 1 : Nat) : Int)), some (.int .u64 ((nb bs 1 : Nat) : Int)), some (.int .u64 ((bN bs 2 2 : Nat) : Int)), some (.int .u64 ((bN bs 4 4 : Nat) : Int)), some (.int .u64 ((bN bs 8 2 : Nat) : Int)), some (.int .u64 ((nb bs 10 : Nat) : Int))], true⟩
abbrev gtp_s14_k1 (b2 : Nat) : Kb := ⟨b2, 29, [some (.slice none 0 0), some (.slice none 0 0), some (.slice none 0 0), some (.slice none 0 0)], true⟩
abbrev gtp_s14_k2 (b6 : Nat) (b48 : Nat) (v : Value) (A : Option Addr) (c : Nat) (n : Nat) : Kb := ⟨b6, 29, [some (.slice (some ⟨b48, 0, none⟩) 11 11), some (.slice none 0 0), some v, some (.slice (cutA A c 8) (n - 8) (c - 8))], true⟩
abbrev gtp_s14_k3 (b146 : Nat) (b140 : Nat) (Ai : Option Addr) (ci : Nat) (bs : List UInt8) (i : Nat) : Kb := ⟨b146, 49, [some (.slice (some ⟨b140, 0, none⟩) 1 1), some (.slice (cutA Ai ci 1) (((4 * (nb bs (tof bs i))) - 1) - 1) (ci - 1))], true⟩
abbrev gtp_s14_k4 (b6 : Nat) (b48 : Nat) (v147 : Value) (A : Option Addr) (c : Nat) (n : Nat) : Kb := ⟨b6, 29, [some (.slice (some ⟨b48, 0, none⟩) 11 11), some (.slice none 0 0), some v147, some (.slice (cutA A c 8) (n - 8) (c - 8))], true⟩
abbrev gtp_s14_k5 (b2 : Nat) (b48 : Nat) (Av : Option Addr) (i : Nat) (cv : Nat) (A : Option Addr) (c : Nat) (n : Nat) : Kb := ⟨b2, 29, [some (.slice (some ⟨b48, 0, none⟩) 11 11), some (.slice none 0 0), some (.slice Av i cv), some (.slice (cutA A c 8) (n - 8) (c - 8))], true⟩
abbrev gtp_s14_k6 (b6 : Nat) (b48 : Nat) (Av : Option Addr) (i : Nat) (cv : Nat) (A : Option Addr) (c : Nat) (n : Nat) : Kb := ⟨b6, 29, [some (.slice (some ⟨b48, 0, none⟩) 11 11), some (.slice none 0 0), some (.slice Av i cv), some (.slice (cutA A c 8) (n - 8) (c - 8))], true⟩
abbrev gtp_s14_k7 (b2 : Nat) (b48 : Nat) (v : Value) (A : Option Addr) (c : Nat) (n : Nat) : Kb := ⟨b2, 29, [some (.slice (some ⟨b48, 0, none⟩) 11 11), some (.slice none 0 0), some v, some (.slice (cutA A c 8) (n - 8) (c - 8))], true⟩

theorem gtp_s14 (w : World) (A : Option Addr) (n : Nat) (c : Nat) (bs : List UInt8) (N : Nat) (hn : n ≤ 2147483647) (ha : 8 ≤ n) (hb : bN bs 2 2 ≤ n - 8) (hc : 12 ≤ n) (hd : 4 ≤ bN bs 2 2) (he : nb bs 0 % 8 = 7) (hf : nb bs 11 ≠ 0) (hg : ∀ i, i < N → nb bs (tof bs i - 1) ≠ 0 ∧ tof bs i < n ∧ nb bs (tof bs i) ≠ 0 ∧ tof bs i + 4 * nb bs (tof bs i) ≤ n) (hh : nb bs (tof bs N - 1) ≠ 0) (hi : n ≤ tof bs N ∨ nb bs (tof bs N) = 0 ∨ n < tof bs N + 4 * nb bs (tof bs N)) (hst : St w [] [] [Byt A n c bs] w) : Calls Tryz.prog 40 #[(.slice A n c)] w (CP w [] [Byt A n c bs] (ι := BI × BI × BI × BI) (fun u => .tuple #[.agg #[u.1.val, u.2.1.val, u.2.2.1.val, u.2.2.2.val], .bool false, .bool false]) (fun _ => []) (fun _ => [])) := by
  have hnc00 : n ≤ c := (hst.fact (j := 0) rfl).2.1
  refine enter (vs := [(.slice A n c)]) Tryz.func40 rfl rfl rfl hst ?_
  refine HT.seq ?_
  refine HT.plain ?_
  refine sl_ (l_alloc (by decide) zero_29 fun b2 => ?_)
  refine sAs rfl rfl ?_
  refine sAs rfl rfl ?_
  refine send ?_
  refine eseq ?_
  refine HT.seq ?_
  refine HT.plain ?_
  refine sMv rfl rfl ?_
  refine sqS (q_index (i := 0) (j := 0) rfl rfl Tryz.underlying22 nagg_5 (fun _ h => h) rfl (by omega)) rfl ?_
  refine sqS (q_byte (i := 0) (j := 0) rfl nagg_5 (fun _ h => h) rfl (by omega)) rfl ?_
  refine sAs rfl rfl ?_
  refine send ?_
  refine eseq ?_
  refine HT.seq ?_
  refine HT.drawnS mixed (St.closed _ _ _ _) ?_
  refine dtake (f := 4) [0, 1, 2, 3, 4, 5, 6, 7, 8, 9, 10, 11, 12, 13, 14, 15, 16, 17, 18, 19, 20, 21, 22, 23, 24, 25, 26, 27, 28, 29, 30, 31, 32, 33] (by kernel_rfl) (St.closed _ _ _ _) (fun _ h => h) (by kernel_rfl) ?_
  refine dq rfl (q_move rfl) ?_
  refine dq rfl (q_slice (lo := 8) (hi := n) rfl Tryz.underlying22 nagg_5 (.inr ⟨_, _, rfl, rfl⟩) (.inl ⟨rfl, rfl⟩) (by omega) (by omega)) ?_
  refine dq rfl (q_move rfl) ?_
  refine dq rfl (q_shr (p := nb bs 0) (e := 5) (N := 32) rfl rfl (by decide) rfl) ?_
  refine dq rfl (q_convn (p := (nb bs 0) / 32) rfl Tryz.underlying5 Tryz.underlying39 (show (nb bs 0) / 32 < 18446744073709551616 by have := nb_lt bs 0; omega)) ?_
  refine dq rfl (q_move rfl) ?_
  refine dq rfl (q_shr (p := nb bs 0) (e := 4) (N := 16) rfl rfl (by decide) rfl) ?_
  refine dq rfl (q_and (p := (nb bs 0) / 16) (q := 1) rfl rfl rfl (show (nb bs 0) / 16 < 256 by have := nb_lt bs 0; omega) (by decide)) ?_
  refine dq rfl (q_convn (p := ((nb bs 0) / 16) &&& 1) rfl Tryz.underlying5 Tryz.underlying39 (show ((nb bs 0) / 16) &&& 1 < 18446744073709551616 by have := nb_lt bs 0; have := zm1 ((nb bs 0) / 16); have := Nat.and_le_left (n := (nb bs 0) / 16) (m := 1); have := Nat.and_le_right (n := (nb bs 0) / 16) (m := 1); omega)) ?_
  refine dq rfl (q_move rfl) ?_
  refine dq rfl (q_shr (p := nb bs 0) (e := 3) (N := 8) rfl rfl (by decide) rfl) ?_
  refine dq rfl (q_and (p := (nb bs 0) / 8) (q := 1) rfl rfl rfl (show (nb bs 0) / 8 < 256 by have := nb_lt bs 0; omega) (by decide)) ?_
  refine dq rfl (q_convn (p := ((nb bs 0) / 8) &&& 1) rfl Tryz.underlying5 Tryz.underlying39 (show ((nb bs 0) / 8) &&& 1 < 18446744073709551616 by have := nb_lt bs 0; have := zm1 ((nb bs 0) / 8); have := Nat.and_le_left (n := (nb bs 0) / 8) (m := 1); have := Nat.and_le_right (n := (nb bs 0) / 8) (m := 1); omega)) ?_
  refine dq rfl (q_move rfl) ?_
  refine dq rfl (q_shr (p := nb bs 0) (e := 2) (N := 4) rfl rfl (by decide) rfl) ?_
  refine dq rfl (q_and (p := (nb bs 0) / 4) (q := 1) rfl rfl rfl (show (nb bs 0) / 4 < 256 by have := nb_lt bs 0; omega) (by decide)) ?_
  refine dq rfl (q_convn (p := ((nb bs 0) / 4) &&& 1) rfl Tryz.underlying5 Tryz.underlying39 (show ((nb bs 0) / 4) &&& 1 < 18446744073709551616 by have := nb_lt bs 0; have := zm1 ((nb bs 0) / 4); have := Nat.and_le_left (n := (nb bs 0) / 4) (m := 1); have := Nat.and_le_right (n := (nb bs 0) / 4) (m := 1); omega)) ?_
  refine dq rfl (q_move rfl) ?_
  refine dq rfl (q_shr (p := nb bs 0) (e := 1) (N := 2) rfl rfl (by decide) rfl) ?_
  refine dq rfl (q_and (p := (nb bs 0) / 2) (q := 1) rfl rfl rfl (show (nb bs 0) / 2 < 256 by have := nb_lt bs 0; omega) (by decide)) ?_
  refine dq rfl (q_convn (p := ((nb bs 0) / 2) &&& 1) rfl Tryz.underlying5 Tryz.underlying39 (show ((nb bs 0) / 2) &&& 1 < 18446744073709551616 by have := nb_lt bs 0; have := zm1 ((nb bs 0) / 2); have := Nat.and_le_left (n := (nb bs 0) / 2) (m := 1); have := Nat.and_le_right (n := (nb bs 0) / 2) (m := 1); omega)) ?_
  refine dq rfl (q_move rfl) ?_
  refine dq rfl (q_and (p := nb bs 0) (q := 1) rfl rfl rfl (show nb bs 0 < 256 by have := nb_lt bs 0; omega) (by decide)) ?_
  refine dq rfl (q_convn (p := (nb bs 0) &&& 1) rfl Tryz.underlying5 Tryz.underlying39 (show (nb bs 0) &&& 1 < 18446744073709551616 by have := nb_lt bs 0; have := zm1 (nb bs 0); have := Nat.and_le_left (n := nb bs 0) (m := 1); have := Nat.and_le_right (n := nb bs 0) (m := 1); omega)) ?_
  refine dq rfl (q_move rfl) ?_
  refine dq rfl (q_index (i := 1) (j := 0) rfl rfl Tryz.underlying22 nagg_5 (fun _ h => h) rfl (by omega)) ?_
  refine dq rfl (q_byte (i := 1) (j := 0) rfl nagg_5 (fun _ h => h) rfl (by omega)) ?_
  refine dq rfl (q_convn (p := nb bs 1) rfl Tryz.underlying5 Tryz.underlying39 (show nb bs 1 < 18446744073709551616 by have := nb_lt bs 1; omega)) ?_
  refine dq rfl (q_move rfl) ?_
  refine dq rfl (q_slice (lo := 2) (hi := 4) rfl Tryz.underlying22 nagg_5 (.inr ⟨_, _, rfl, rfl⟩) (.inr ⟨_, _, rfl, rfl⟩) (by omega) (by omega)) ?_
  refine dq rfl (q_call (vs := [(.slice (cutA A c 2) (4 - 2) (c - 2))]) (v := (.int .u64 ((bN bs 2 2 : Nat) : Int))) rfl ca_34 (fun w h => NumberC w A n c bs (lo := 2) (hi := 4) (h.fact (j := 0) rfl) (k := 2) rfl (by decide) (by omega) (by omega))) ?_
  refine dq rfl (q_move rfl) ?_
  refine dq rfl (q_slice (lo := 4) (hi := 8) rfl Tryz.underlying22 nagg_5 (.inr ⟨_, _, rfl, rfl⟩) (.inr ⟨_, _, rfl, rfl⟩) (by omega) (by omega)) ?_
  refine dq rfl (q_call (vs := [(.slice (cutA A c 4) (8 - 4) (c - 4))]) (v := (.int .u64 ((bN bs 4 4 : Nat) : Int))) rfl ca_34 (fun w h => NumberC w A n c bs (lo := 4) (hi := 8) (h.fact (j := 0) rfl) (k := 4) rfl (by decide) (by omega) (by omega))) ?_
  refine QL.nil ?_
  refine RG.step2 34 36 (by kernel_rfl) ?_ ?_
  · refine dop rfl (l_buildSlice (e := 39) (vs := [(0, (.int .u64 (((nb bs 0) / 32 : Nat) : Int))), (1, (.int .u64 ((((nb bs 0) / 16) &&& 1 : Nat) : Int))), (2, (.int .u64 ((((nb bs 0) / 8) &&& 1 : Nat) : Int))), (3, (.int .u64 ((((nb bs 0) / 4) &&& 1 : Nat) : Int))), (4, (.int .u64 ((((nb bs 0) / 2) &&& 1 : Nat) : Int))), (5, (.int .u64 (((nb bs 0) &&& 1 : Nat) : Int))), (6, (.int .u64 ((nb bs 1 : Nat) : Int))), (7, (.int .u64 ((bN bs 2 2 : Nat) : Int))), (8, (.int .u64 ((bN bs 4 4 : Nat) : Int))), (9, (.int .u64 ((0 : Nat) : Int))), (10, (.int .u64 ((0 : Nat) : Int)))]) (cs := [(.int .u64 (((nb bs 0) / 32 : Nat) : Int)), (.int .u64 ((((nb bs 0) / 16) &&& 1 : Nat) : Int)), (.int .u64 ((((nb bs 0) / 8) &&& 1 : Nat) : Int)), (.int .u64 ((((nb bs 0) / 4) &&& 1 : Nat) : Int)), (.int .u64 ((((nb bs 0) / 2) &&& 1 : Nat) : Int)), (.int .u64 (((nb bs 0) &&& 1 : Nat) : Int)), (.int .u64 ((nb bs 1 : Nat) : Int)), (.int .u64 ((bN bs 2 2 : Nat) : Int)), (.int .u64 ((bN bs 4 4 : Nat) : Int)), (.int .u64 ((0 : Nat) : Int)), (.int .u64 ((0 : Nat) : Int))]) (by decide) rfl (fun _ => by kernel_rfl) fun b48 => ⟨(fun _ h => (h.wk [(0, [])] rfl)), ?_⟩)
    refine dtake (f := 2) [35] (by kernel_rfl) (St.closed _ _ _ _) (fun _ h => (h.wk [(0, [])] rfl)) (by kernel_rfl) ?_
    refine dq rfl (q_call (vs := [(.slice (cutA A c 8) (n - 8) (c - 8)), (.slice (some ⟨b48, 0, none⟩) 11 11)]) (v := (.agg #[(.slice (some ⟨b48, 0, none⟩) 11 11), (.slice none 0 0), (.slice none 0 0), (.slice (cutA A c 8) (n - 8) (c - 8))])) rfl ca_33 (fun w h => layerC w (cutA A c 8) (n - 8) (c - 8) (some ⟨b48, 0, none⟩) 11 11  (St.enter (sp := []) (Kc := []) (bi := []) h rfl rfl rfl))) ?_
    refine QL.nil ?_
    refine RG.step1 36 (by kernel_rfl) ?_
    refine dop rfl (l_alloc (by decide) zero_29 fun b6 => ⟨(fun _ h => (h.wk [(0, [])] rfl)), ?_⟩)
    refine RG.step1 37 (by kernel_rfl) ?_
    refine dop rfl (l_storeAgg (b := b6) (off := 0) (j := 2) (vs := [(.slice (some ⟨b48, 0, none⟩) 11 11), (.slice none 0 0), (.slice none 0 0), (.slice (cutA A c 8) (n - 8) (c - 8))]) rfl rfl aggs_29 (by simp [Value.one1]) rfl rfl rfl (Nat.le_of_ble_eq_true rfl) ⟨(fun _ h => (h.wk [(0, [])] rfl)), ?_⟩)
    refine dend (by kernel_rfl) ?_
    refine eseq ?_
    refine HT.seq ?_
    refine HT.seq ?_
    refine HT.plain ?_
    refine sMv rfl rfl ?_
    refine sqS (q_slice (lo := 2) (hi := 4) rfl Tryz.underlying22 nagg_5 (.inr ⟨_, _, rfl, rfl⟩) (.inr ⟨_, _, rfl, rfl⟩) (by omega) (by omega)) rfl ?_
    refine sqS (q_call (vs := [(.slice (cutA A c 2) (4 - 2) (c - 2))]) (v := (.int .u64 ((bN bs 2 2 : Nat) : Int))) rfl ca_34 (fun w h => NumberC w A n c bs (lo := 2) (hi := 4) (h.fact (j := 0) rfl) (k := 2) rfl (by decide) (by omega) (by omega))) rfl ?_
    refine sqS (q_convn (p := bN bs 2 2) rfl Tryz.underlying39 Tryz.underlying3 (show bN bs 2 2 < 9223372036854775808 by have := bN_lt bs 2 2 65536 rfl; omega)) rfl ?_
    refine sAs rfl rfl ?_
    refine send ?_
    refine eseq ?_
    refine HT.seq ?_
    refine HT.plain ?_
    refine sMv rfl rfl ?_
    refine sMv rfl rfl ?_
    refine sqS (q_len (len := n) rfl Tryz.underlying22) rfl ?_
    refine sqS (q_sub (p := n) (q := 8) rfl rfl (by omega) (show n < 9223372036854775808 by omega)) rfl ?_
    refine sqS (q_F (q_gt (p := bN bs 2 2) (q := n - 8) rfl rfl) (by have := bN_lt bs 2 2 65536 rfl; omega)) rfl ?_
    refine send ?_
    refine eseq ?_
    refine HT.no rfl ?_
    refine HT.skip ?_
    refine eseq ?_
    refine HT.seq ?_
    refine HT.seq ?_
    refine HT.plain ?_
    refine sMv rfl rfl ?_
    refine sqS (q_and (p := nb bs 0) (q := 7) rfl rfl rfl (show nb bs 0 < 256 by have := nb_lt bs 0; omega) (by decide)) rfl ?_
    refine sqS (q_F (q_eq (p := (nb bs 0) &&& 7) (q := 0) rfl rfl) (by have := nb_lt bs 0; have := zm7 (nb bs 0); have := Nat.and_le_left (n := nb bs 0) (m := 7); have := Nat.and_le_right (n := nb bs 0) (m := 7); omega)) rfl ?_
    refine send ?_
    refine eseq ?_
    refine HT.no rfl ?_
    refine HT.skip ?_
    refine eseq ?_
    refine HT.seq ?_
    refine HT.seq ?_
    refine HT.plain ?_
    refine sMv rfl rfl ?_
    refine sqS (q_len (len := n) rfl Tryz.underlying22) rfl ?_
    refine sqS (q_F (q_lt (p := n) (q := 12) rfl rfl) (by omega)) rfl ?_
    refine sMv rfl rfl ?_
    refine sgqS rfl (q_move rfl) rfl ?_
    refine sgqS rfl (q_slice (lo := 2) (hi := 4) rfl Tryz.underlying22 nagg_5 (.inr ⟨_, _, rfl, rfl⟩) (.inr ⟨_, _, rfl, rfl⟩) (by omega) (by omega)) rfl ?_
    refine sgqS rfl (q_call (vs := [(.slice (cutA A c 2) (4 - 2) (c - 2))]) (v := (.int .u64 ((bN bs 2 2 : Nat) : Int))) rfl ca_34 (fun w h => NumberC w A n c bs (lo := 2) (hi := 4) (h.fact (j := 0) rfl) (k := 2) rfl (by decide) (by omega) (by omega))) rfl ?_
    refine sgqS rfl (q_F (q_lt (p := bN bs 2 2) (q := 4) rfl rfl) (by have := bN_lt bs 2 2 65536 rfl; omega)) rfl ?_
    refine sqS (q_pick rfl (fun h => nomatch h) (fun _ => rfl)) rfl ?_
    refine send ?_
    refine eseq ?_
    refine HT.no rfl ?_
    refine HT.skip ?_
    refine eseq ?_
    refine HT.seq ?_
    refine HT.drawn mixed (St.closed _ _ _ _) (St w [] [(gtp_s14_k1 b2), ⟨b48, 39, [some (.int .u64 (((nb bs 0) / 32 : Nat) : Int)), some (.int .u64 ((((nb bs 0) / 16) &&& 1 : Nat) : Int)), some (.int .u64 ((((nb bs 0) / 8) &&& 1 : Nat) : Int)), some (.int .u64 ((((nb bs 0) / 4) &&& 1 : Nat) : Int)), some (.int .u64 ((((nb bs 0) / 2) &&& 1 : Nat) : Int)), some (.int .u64 (((nb bs 0) &&& 1 : Nat) : Int)), some (.int .u64 ((nb bs 1 : Nat) : Int)), some (.int .u64 ((bN bs 2 2 : Nat) : Int)), some (.int .u64 ((bN bs 4 4 : Nat) : Int)), none, none], true⟩, ⟨b6, 29, [some (.slice (some ⟨b48, 0, none⟩) 11 11), some (.slice none 0 0), some (.slice none 0 0), some (.slice (cutA A c 8) (n - 8) (c - 8))], true⟩] [Byt A n c bs]) ?_
    refine dtake (f := 3) [0, 1, 2, 3, 4, 5, 6, 7, 8, 9, 10, 11] (by kernel_rfl) (St.closed _ _ _ _) (fun _ h => (h.wk [(0, []), (1, [9, 10]), (2, [])] rfl)) (by kernel_rfl) ?_
    refine dq rfl (q_field (b := b6) (off := 0) rfl fo_29_0) ?_
    refine dq rfl (q_load (b := b6) (off := 0) (j := 2) rfl nagg_25 (fun _ h => h) rfl rfl rfl) ?_
    refine dq rfl (q_field (b := b6) (off := 0) rfl fo_29_0) ?_
    refine dq rfl (q_load (b := b6) (off := 0) (j := 2) rfl nagg_25 (fun _ h => h) rfl rfl rfl) ?_
    refine dq rfl (q_move rfl) ?_
    refine dq rfl (q_slice (lo := 8) (hi := 10) rfl Tryz.underlying22 nagg_5 (.inr ⟨_, _, rfl, rfl⟩) (.inr ⟨_, _, rfl, rfl⟩) (by omega) (by omega)) ?_
    refine dq rfl (q_call (vs := [(.slice (cutA A c 8) (10 - 8) (c - 8))]) (v := (.int .u64 ((bN bs 8 2 : Nat) : Int))) rfl ca_34 (fun w h => NumberC w A n c bs (lo := 8) (hi := 10) (h.fact (j := 0) rfl) (k := 2) rfl (by decide) (by omega) (by omega))) ?_
    refine dq rfl (q_move rfl) ?_
    refine dq rfl (q_index (i := 10) (j := 0) rfl rfl Tryz.underlying22 nagg_5 (fun _ h => h) rfl (by omega)) ?_
    refine dq rfl (q_byte (i := 10) (j := 0) rfl nagg_5 (fun _ h => h) rfl (by omega)) ?_
    refine dq rfl (q_convn (p := nb bs 10) rfl Tryz.underlying5 Tryz.underlying39 (show nb bs 10 < 18446744073709551616 by have := nb_lt bs 10; omega)) ?_
    refine dq rfl (q_indexK (b := b48) (i := 9) (sz := 1) rfl rfl Tryz.underlying25 size_39 (by decide)) ?_
    refine QL.nil ?_
    refine RG.step1 12 (by kernel_rfl) ?_
    refine dop rfl (l_store (b := b48) (off := 9) (j := 1) rfl rfl nagg_39 rfl rfl rfl rfl (dlt rfl) ⟨(fun _ h => (h.wk [(0, []), (1, [9, 10]), (2, [])] rfl)), ?_⟩)
    refine dtake (f := 1) [13] (by kernel_rfl) (St.closed _ _ _ _) (fun _ h => (h.wk [(0, []), (1, [9, 10]), (2, [])] rfl)) (by kernel_rfl) ?_
    refine dq rfl (q_indexK (b := b48) (i := 10) (sz := 1) rfl rfl Tryz.underlying25 size_39 (by decide)) ?_
    refine QL.nil ?_
    refine RG.step1 14 (by kernel_rfl) ?_
    refine dop rfl (l_store (b := b48) (off := 10) (j := 1) rfl rfl nagg_39 rfl rfl rfl rfl (dlt rfl) ⟨(fun _ h => (h.wk [(0, []), (1, [9, 10]), (2, [])] rfl)), ?_⟩)
    refine dend (by kernel_rfl) ?_
    refine eseq ?_
    refine HT.seq ?_
    refine HT.seq ?_
    refine HT.plain ?_
    refine sMv rfl rfl ?_
    refine sqS (q_and (p := nb bs 0) (q := 2) rfl rfl rfl (show nb bs 0 < 256 by have := nb_lt bs 0; omega) (by decide)) rfl ?_
    refine sqS (q_F (q_eq (p := (nb bs 0) &&& 2) (q := 0) rfl rfl) (by have := nb_lt bs 0; have := zb2 (nb bs 0); have := Nat.and_le_left (n := nb bs 0) (m := 2); have := Nat.and_le_right (n := nb bs 0) (m := 2); omega)) rfl ?_
    refine sMv rfl rfl ?_
    refine sgqS rfl (q_move rfl) rfl ?_
    refine sgqS rfl (q_and (p := nb bs 0) (q := 1) rfl rfl rfl (show nb bs 0 < 256 by have := nb_lt bs 0; omega) (by decide)) rfl ?_
    refine sgqS rfl (q_F (q_eq (p := (nb bs 0) &&& 1) (q := 0) rfl rfl) (by have := nb_lt bs 0; have := zm1 (nb bs 0); have := Nat.and_le_left (n := nb bs 0) (m := 1); have := Nat.and_le_right (n := nb bs 0) (m := 1); omega)) rfl ?_
    refine sqS (q_pick rfl (fun h => nomatch h) (fun _ => rfl)) rfl ?_
    refine send ?_
    refine eseq ?_
    refine HT.no rfl ?_
    refine HT.skip ?_
    refine eseq ?_
    refine HT.seq ?_
    refine HT.drawnS mixed (St.closed _ _ _ _) ?_
    refine dtake (f := 0) [0, 1, 2, 3, 4, 5, 6] (by kernel_rfl) (St.closed _ _ _ _) (fun _ h => h) (by kernel_rfl) ?_
    refine dq rfl (q_move rfl) ?_
    refine dq rfl (q_index (i := 11) (j := 0) rfl rfl Tryz.underlying22 nagg_5 (fun _ h => h) rfl (by omega)) ?_
    refine dq rfl (q_byte (i := 11) (j := 0) rfl nagg_5 (fun _ h => h) rfl (by omega)) ?_
    refine dq rfl (q_move rfl) ?_
    refine dq rfl (q_slice (lo := 12) (hi := n) rfl Tryz.underlying22 nagg_5 (.inr ⟨_, _, rfl, rfl⟩) (.inl ⟨rfl, rfl⟩) (by omega) (by omega)) ?_
    refine dq rfl (q_assign rfl) ?_
    refine dq rfl (q_assign rfl) ?_
    refine QL.nil ?_
    refine dend (by kernel_rfl) ?_
    refine eseq ?_
    refine HT.seq ?_
    refine HT.seq ?_
    refine HT.plain ?_
    refine sMv rfl rfl ?_
    refine sqS (q_and (p := nb bs 0) (q := 4) rfl rfl rfl (show nb bs 0 < 256 by have := nb_lt bs 0; omega) (by decide)) rfl ?_
    refine sqS (q_F (q_eq (p := (nb bs 0) &&& 4) (q := 0) rfl rfl) (by have := nb_lt bs 0; have := zb4 (nb bs 0); have := Nat.and_le_left (n := nb bs 0) (m := 4); have := Nat.and_le_right (n := nb bs 0) (m := 4); omega)) rfl ?_
    refine send ?_
    refine eseq ?_
    refine HT.no rfl ?_
    refine HT.seq ?_
    refine HT.plain ?_
    refine sMv rfl rfl ?_
    refine sqS (q_F (q_eq (p := nb bs 11) (q := 0) rfl rfl) (by have := nb_lt bs 11; omega)) rfl ?_
    refine send ?_
    refine eseq ?_
    refine HT.no rfl ?_
    refine HT.skip ?_
    refine eseq ?_
    refine HT.seq ?_
    refine HT.block ?_
    refine HT.loop (ι := {p : Nat × Option Addr × Nat × Value × List Kb × List (NI × BI) // PSt w.heap.size (Byt A n c bs) (fun j => ([nb bs (tof bs j - 1)], sl bs (tof bs j + 1) (tof bs j + (4 * (nb bs (tof bs j)) - 1)))) (fun j => tof bs j) n bs N p.1 p.2.1 p.2.2.1 p.2.2.2.1 p.2.2.2.2.1 p.2.2.2.2.2}) (fun p => [(2, (.pointer (some ⟨b2, 0, none⟩))), (6, (.pointer (some ⟨b6, 0, none⟩))), (9, (.slice p.1.2.1 (n - (tof bs p.1.1)) p.1.2.2.1)), (8, (.int .u8 ((nb bs (tof bs p.1.1 - 1) : Nat) : Int)))]) (fun p => St w [] ([(gtp_s14_k1 b2), (gtp_s14_k0 b48 bs), ⟨b6, 29, [some (.slice (some ⟨b48, 0, none⟩) 11 11), some (.slice none 0 0), some p.1.2.2.2.1, some (.slice (cutA A c 8) (n - 8) (c - 8))], true⟩] ++ p.1.2.2.2.2.1) [Byt A n c bs, Byt p.1.2.1 (n - (tof bs p.1.1)) p.1.2.2.1 (sl bs (tof bs p.1.1) n), psF p.1.2.2.2.2.2]) (fun p => N - p.1.1) ⟨(0, cutA A c 12, c - 12, .slice none 0 0, [], []), PSt.nil (fun x hx => Byt.cut_fp (lo := 12) (hi := n) hx.1 hx) (show n - 12 ≤ c - 12 by omega)⟩ ⟨rfl, rfl, rfl, rfl, trivial⟩ (fun _ h => psF_nil (B := [Byt A n c bs, Byt (cutA A c 12) (n - 12) (c - 12) (sl bs 12 n)]) (h.cut (j := 0) (lo := 12) (hi := n) rfl (by omega) (by omega))) fun ⟨⟨i, Ai, ci, v, Kr, ps⟩, hp⟩ => ?_
    replace hp : PSt w.heap.size (Byt A n c bs) (fun j => ([nb bs (tof bs j - 1)], sl bs (tof bs j + 1) (tof bs j + (4 * (nb bs (tof bs j)) - 1)))) (fun j => tof bs j) n bs N i Ai ci v Kr ps := hp
    have hil : i ≤ N := hp.le
    have hr : RowS 49 2 i (psV ps) v Kr := hp.row
    have hcp : n - tof bs i ≤ ci := hp.cap
    have ho := tof_succ bs i
    have hge := tof_ge bs i
    have hal := tof_all (by omega) hg i (by omega)
    have hc := hg i
    have hz : i = N → nb bs (tof bs i - 1) ≠ 0 ∧ (n ≤ tof bs i ∨ nb bs (tof bs i) = 0 ∨ n < tof bs i + 4 * nb bs (tof bs i)) := fun e => by rw [e]; exact ⟨hh, hi⟩
    show HT _ _ _ [(2, (.pointer (some ⟨b2, 0, none⟩))), (6, (.pointer (some ⟨b6, 0, none⟩))), (9, (.slice Ai (n - (tof bs i)) ci)), (8, (.int .u8 ((nb bs (tof bs i - 1) : Nat) : Int)))] (St w [] ([(gtp_s14_k1 b2), (gtp_s14_k0 b48 bs), (gtp_s14_k2 b6 b48 v A c n)] ++ Kr) [Byt A n c bs, Byt Ai (n - (tof bs i)) ci (sl bs (tof bs i) n), psF ps]) _
    refine HT.seq ?_
    refine HT.seq ?_
    refine HT.plain ?_
    refine sMv rfl rfl ?_
    refine sqS (q_T (q_ne (p := nb bs (tof bs i - 1)) (q := 0) rfl rfl) (by have := nb_lt bs (tof bs i - 1); omega)) rfl ?_
    refine send ?_
    refine eseq ?_
    refine HT.yes rfl ?_
    refine HT.skip ?_
    refine eseq ?_
    refine HT.block ?_
    refine HT.seq ?_
    refine HT.seq ?_
    refine HT.plain ?_
    refine sMv rfl rfl ?_
    refine sqS (q_len (len := n - (tof bs i)) rfl Tryz.underlying22) rfl ?_
    by_cases h1 : n - (tof bs i) = 0
    · refine sqS (q_T (q_eq (p := n - (tof bs i)) (q := 0) rfl rfl) h1) rfl ?_
      refine sMv rfl rfl ?_
      refine sskip rfl rfl ?_
      refine sskip rfl rfl ?_
      refine sskip rfl rfl ?_
      refine sskip rfl rfl ?_
      refine sqS (q_pick rfl (fun _ => rfl) (fun h => nomatch h)) rfl ?_
      refine sMv rfl rfl ?_
      refine sskip rfl rfl ?_
      refine sskip rfl rfl ?_
      refine sskip rfl rfl ?_
      refine sskip rfl rfl ?_
      refine sskip rfl rfl ?_
      refine sskip rfl rfl ?_
      refine sskip rfl rfl ?_
      refine sskip rfl rfl ?_
      refine sqS (q_pick rfl (fun _ => rfl) (fun h => nomatch h)) rfl ?_
      refine send ?_
      refine eseq ?_
      refine HT.yes rfl ?_
      refine HT.seq ?_
      refine HT.plain ?_
      refine sqS (q_loadAgg (b := b6) (off := 0) (j := 2) (vs := [(.slice (some ⟨b48, 0, none⟩) 11 11), (.slice none 0 0), v, (.slice (cutA A c 8) (n - 8) (c - 8))]) rfl aggs_29 (fun _ h => h) rfl rfl rfl) rfl ?_
      refine sl_ (l_storeAgg (b := b2) (off := 0) (j := 0) (vs := [(.slice (some ⟨b48, 0, none⟩) 11 11), (.slice none 0 0), v, (.slice (cutA A c 8) (n - 8) (c - 8))]) rfl rfl aggs_29 (by intro x hx; simp only [List.mem_cons, List.not_mem_nil, or_false] at hx; rcases hx with rfl | rfl | rfl | rfl <;> first | rfl | exact hr.one) rfl rfl rfl (Nat.le_of_ble_eq_true rfl) ?_)
      refine sAs rfl rfl ?_
      refine sAs rfl rfl ?_
      refine send ?_
      refine eseq ?_
      refine HT.norm ([(gtp_s14_k7 b2 b48 v A c n), (gtp_s14_k0 b48 bs), (gtp_s14_k2 b6 b48 v A c n)] ++ Kr) [Byt A n c bs, Byt Ai (n - (tof bs i)) ci (sl bs (tof bs i) n), psF ps] rfl rfl ?_
      refine HT.ret ?_
      refine rt_then ?_
      refine rt_in ?_
      refine rt_then ?_
      refine rt_in ?_
      refine rt_then ?_
      obtain ⟨Av, cv, hv⟩ := hr.val
      subst hv
      exact fun a ha w' hw => fin_ ha (resc3 ha Tryz.results40 rfl (ld_ aggs_29 hw (j := 0) rfl rfl (vs := [(.slice (some ⟨b48, 0, none⟩) 11 11), (.slice none 0 0), (.slice Av i cv), (.slice (cutA A c 8) (n - 8) (c - 8))]) rfl) rfl rfl) ⟨(⟨(some ⟨b48, 0, none⟩), 11, 11, []⟩, ⟨none, 0, 0, []⟩, ⟨Av, i, cv, []⟩, ⟨cutA A c 8, n - 8, c - 8, []⟩), rfl, (((St.untail (K := [(gtp_s14_k5 b2 b48 Av i cv A c n), (gtp_s14_k0 b48 bs), (gtp_s14_k6 b6 b48 Av i cv A c n)]) (Kr := Kr) hw).wk [] rfl).selF [0] rfl), fr0⟩
    · refine sqS (q_F (q_eq (p := n - (tof bs i)) (q := 0) rfl rfl) h1) rfl ?_
      refine sMv rfl rfl ?_
      refine sgqS rfl (q_move rfl) rfl ?_
      refine sgqS rfl (q_index (i := 0) (j := 1) rfl rfl Tryz.underlying22 nagg_5 (fun _ h => h) rfl (by omega)) rfl ?_
      refine sgqS rfl (q_N (q_byte (i := 0) (j := 1) rfl nagg_5 (fun _ h => h) rfl (by omega)) (a := nb (sl bs (tof bs i) n) 0) (b := nb bs (tof bs i)) (nb_sl (by omega))) rfl ?_
      by_cases h2 : nb bs (tof bs i) = 0
      · refine sgqS rfl (q_T (q_eq (p := nb bs (tof bs i)) (q := 0) rfl rfl) h2) rfl ?_
        refine sqS (q_pick rfl (fun h => nomatch h) (fun _ => rfl)) rfl ?_
        refine sMv rfl rfl ?_
        refine sskip rfl rfl ?_
        refine sskip rfl rfl ?_
        refine sskip rfl rfl ?_
        refine sskip rfl rfl ?_
        refine sskip rfl rfl ?_
        refine sskip rfl rfl ?_
        refine sskip rfl rfl ?_
        refine sskip rfl rfl ?_
        refine sqS (q_pick rfl (fun _ => rfl) (fun h => nomatch h)) rfl ?_
        refine send ?_
        refine eseq ?_
        refine HT.yes rfl ?_
        refine HT.seq ?_
        refine HT.plain ?_
        refine sqS (q_loadAgg (b := b6) (off := 0) (j := 2) (vs := [(.slice (some ⟨b48, 0, none⟩) 11 11), (.slice none 0 0), v, (.slice (cutA A c 8) (n - 8) (c - 8))]) rfl aggs_29 (fun _ h => h) rfl rfl rfl) rfl ?_
        refine sl_ (l_storeAgg (b := b2) (off := 0) (j := 0) (vs := [(.slice (some ⟨b48, 0, none⟩) 11 11), (.slice none 0 0), v, (.slice (cutA A c 8) (n - 8) (c - 8))]) rfl rfl aggs_29 (by intro x hx; simp only [List.mem_cons, List.not_mem_nil, or_false] at hx; rcases hx with rfl | rfl | rfl | rfl <;> first | rfl | exact hr.one) rfl rfl rfl (Nat.le_of_ble_eq_true rfl) ?_)
        refine sAs rfl rfl ?_
        refine sAs rfl rfl ?_
        refine send ?_
        refine eseq ?_
        refine HT.norm ([(gtp_s14_k7 b2 b48 v A c n), (gtp_s14_k0 b48 bs), (gtp_s14_k2 b6 b48 v A c n)] ++ Kr) [Byt A n c bs, Byt Ai (n - (tof bs i)) ci (sl bs (tof bs i) n), psF ps] rfl rfl ?_
        refine HT.ret ?_
        refine rt_then ?_
        refine rt_in ?_
        refine rt_then ?_
        refine rt_in ?_
        refine rt_then ?_
        obtain ⟨Av, cv, hv⟩ := hr.val
        subst hv
        exact fun a ha w' hw => fin_ ha (resc3 ha Tryz.results40 rfl (ld_ aggs_29 hw (j := 0) rfl rfl (vs := [(.slice (some ⟨b48, 0, none⟩) 11 11), (.slice none 0 0), (.slice Av i cv), (.slice (cutA A c 8) (n - 8) (c - 8))]) rfl) rfl rfl) ⟨(⟨(some ⟨b48, 0, none⟩), 11, 11, []⟩, ⟨none, 0, 0, []⟩, ⟨Av, i, cv, []⟩, ⟨cutA A c 8, n - 8, c - 8, []⟩), rfl, (((St.untail (K := [(gtp_s14_k5 b2 b48 Av i cv A c n), (gtp_s14_k0 b48 bs), (gtp_s14_k6 b6 b48 Av i cv A c n)]) (Kr := Kr) hw).wk [] rfl).selF [0] rfl), fr0⟩
      · refine sgqS rfl (q_F (q_eq (p := nb bs (tof bs i)) (q := 0) rfl rfl) h2) rfl ?_
        refine sqS (q_pick rfl (fun h => nomatch h) (fun _ => rfl)) rfl ?_
        refine sMv rfl rfl ?_
        refine sgqS rfl (q_move rfl) rfl ?_
        refine sgqS rfl (q_index (i := 0) (j := 1) rfl rfl Tryz.underlying22 nagg_5 (fun _ h => h) rfl (by omega)) rfl ?_
        refine sgqS rfl (q_N (q_byte (i := 0) (j := 1) rfl nagg_5 (fun _ h => h) rfl (by omega)) (a := nb (sl bs (tof bs i) n) 0) (b := nb bs (tof bs i)) (nb_sl (by omega))) rfl ?_
        refine sgqS rfl (q_convn (p := nb bs (tof bs i)) rfl Tryz.underlying5 Tryz.underlying3 (show nb bs (tof bs i) < 9223372036854775808 by have := nb_lt bs (tof bs i); omega)) rfl ?_
        refine sgqS rfl (q_mul (p := 4) (q := nb bs (tof bs i)) rfl rfl (show 4 * (nb bs (tof bs i)) < 9223372036854775808 by have := nb_lt bs (tof bs i); omega)) rfl ?_
        refine sgqS rfl (q_move rfl) rfl ?_
        refine sgqS rfl (q_len (len := n - (tof bs i)) rfl Tryz.underlying22) rfl ?_
        by_cases h3 : n - (tof bs i) < 4 * (nb bs (tof bs i))
        · refine sgqS rfl (q_T (q_gt (p := 4 * (nb bs (tof bs i))) (q := n - (tof bs i)) rfl rfl) h3) rfl ?_
          refine sqS (q_pick rfl (fun h => nomatch h) (fun _ => rfl)) rfl ?_
          refine send ?_
          refine eseq ?_
          refine HT.yes rfl ?_
          refine HT.seq ?_
          refine HT.plain ?_
          refine sqS (q_loadAgg (b := b6) (off := 0) (j := 2) (vs := [(.slice (some ⟨b48, 0, none⟩) 11 11), (.slice none 0 0), v, (.slice (cutA A c 8) (n - 8) (c - 8))]) rfl aggs_29 (fun _ h => h) rfl rfl rfl) rfl ?_
          refine sl_ (l_storeAgg (b := b2) (off := 0) (j := 0) (vs := [(.slice (some ⟨b48, 0, none⟩) 11 11), (.slice none 0 0), v, (.slice (cutA A c 8) (n - 8) (c - 8))]) rfl rfl aggs_29 (by intro x hx; simp only [List.mem_cons, List.not_mem_nil, or_false] at hx; rcases hx with rfl | rfl | rfl | rfl <;> first | rfl | exact hr.one) rfl rfl rfl (Nat.le_of_ble_eq_true rfl) ?_)
          refine sAs rfl rfl ?_
          refine sAs rfl rfl ?_
          refine send ?_
          refine eseq ?_
          refine HT.norm ([(gtp_s14_k7 b2 b48 v A c n), (gtp_s14_k0 b48 bs), (gtp_s14_k2 b6 b48 v A c n)] ++ Kr) [Byt A n c bs, Byt Ai (n - (tof bs i)) ci (sl bs (tof bs i) n), psF ps] rfl rfl ?_
          refine HT.ret ?_
          refine rt_then ?_
          refine rt_in ?_
          refine rt_then ?_
          refine rt_in ?_
          refine rt_then ?_
          obtain ⟨Av, cv, hv⟩ := hr.val
          subst hv
          exact fun a ha w' hw => fin_ ha (resc3 ha Tryz.results40 rfl (ld_ aggs_29 hw (j := 0) rfl rfl (vs := [(.slice (some ⟨b48, 0, none⟩) 11 11), (.slice none 0 0), (.slice Av i cv), (.slice (cutA A c 8) (n - 8) (c - 8))]) rfl) rfl rfl) ⟨(⟨(some ⟨b48, 0, none⟩), 11, 11, []⟩, ⟨none, 0, 0, []⟩, ⟨Av, i, cv, []⟩, ⟨cutA A c 8, n - 8, c - 8, []⟩), rfl, (((St.untail (K := [(gtp_s14_k5 b2 b48 Av i cv A c n), (gtp_s14_k0 b48 bs), (gtp_s14_k6 b6 b48 Av i cv A c n)]) (Kr := Kr) hw).wk [] rfl).selF [0] rfl), fr0⟩
        · refine sgqS rfl (q_F (q_gt (p := 4 * (nb bs (tof bs i))) (q := n - (tof bs i)) rfl rfl) h3) rfl ?_
          refine sqS (q_pick rfl (fun h => nomatch h) (fun _ => rfl)) rfl ?_
          refine send ?_
          refine eseq ?_
          refine HT.no rfl ?_
          refine HT.skip ?_
          refine eseq ?_
          refine HT.seq ?_
          refine HT.plain ?_
          refine sMv rfl rfl ?_
          refine sqS (q_index (i := 0) (j := 1) rfl rfl Tryz.underlying22 nagg_5 (fun _ h => h) rfl (by omega)) rfl ?_
          refine sqS (q_N (q_byte (i := 0) (j := 1) rfl nagg_5 (fun _ h => h) rfl (by omega)) (a := nb (sl bs (tof bs i) n) 0) (b := nb bs (tof bs i)) (nb_sl (by omega))) rfl ?_
          refine sqS (q_convn (p := nb bs (tof bs i)) rfl Tryz.underlying5 Tryz.underlying3 (show nb bs (tof bs i) < 9223372036854775808 by have := nb_lt bs (tof bs i); omega)) rfl ?_
          refine sqS (q_mul (p := 4) (q := nb bs (tof bs i)) rfl rfl (show 4 * (nb bs (tof bs i)) < 9223372036854775808 by have := nb_lt bs (tof bs i); omega)) rfl ?_
          refine sAs rfl rfl ?_
          refine send ?_
          refine eseq ?_
          refine HT.seq ?_
          refine HT.drawn mixed (St.closed _ _ _ _) (St w [] [(gtp_s14_k1 b2), (gtp_s14_k0 b48 bs), ⟨b6, 29, [some (.slice (some ⟨b48, 0, none⟩) 11 11), some (.slice none 0 0), none, some (.slice (cutA A c 8) (n - 8) (c - 8))], true⟩] [Byt A n c bs, Byt Ai (n - (tof bs i)) ci (sl bs (tof bs i) n), psF ps]) ?_
          refine dtake (f := 7) [0, 2, 3, 5, 6, 7, 8] (by kernel_rfl) (St.closed _ _ _ _) (fun _ h => (St.wk (St.untail (K := [(gtp_s14_k1 b2), (gtp_s14_k0 b48 bs), (gtp_s14_k2 b6 b48 v A c n)]) (Kr := Kr) h) [(0, []), (1, []), (2, [2])] rfl)) (by kernel_rfl) ?_
          refine dq rfl (q_field (b := b6) (off := 0) rfl fo_29_2) ?_
          refine dq rfl (q_move rfl) ?_
          refine dq rfl (q_convn (p := nb bs (tof bs i - 1)) rfl Tryz.underlying5 Tryz.underlying39 (show nb bs (tof bs i - 1) < 18446744073709551616 by have := nb_lt bs (tof bs i - 1); omega)) ?_
          refine dq rfl (q_move rfl) ?_
          refine dq rfl (q_move rfl) ?_
          refine dq rfl (q_sub (p := 4 * (nb bs (tof bs i))) (q := 1) rfl rfl (by have := nb_lt bs (tof bs i); omega) (show 4 * (nb bs (tof bs i)) < 9223372036854775808 by have := nb_lt bs (tof bs i); omega)) ?_
          refine dq rfl (q_slice (lo := 1) (hi := (4 * (nb bs (tof bs i))) - 1) rfl Tryz.underlying22 nagg_5 (.inr ⟨_, _, rfl, rfl⟩) (.inr ⟨_, _, rfl, rfl⟩) (by have := nb_lt bs (tof bs i); omega) (by have := nb_lt bs (tof bs i); omega)) ?_
          refine QL.nil ?_
          refine RG.step2 1 4 (by kernel_rfl) ?_ ?_
          · refine dop rfl (l_q _ (by simp) (St.closed _ _ _ _) (q_load (b := b6) (off := 2) (j := 2) rfl nagg_27 (fun _ h => h) rfl rfl rfl) ⟨(fun _ h => (St.wk (St.untail (K := [(gtp_s14_k1 b2), (gtp_s14_k0 b48 bs), (gtp_s14_k2 b6 b48 v A c n)]) (Kr := Kr) h) [(0, []), (1, []), (2, [2])] rfl)), ?_⟩)
            refine RG.step1 4 (by kernel_rfl) ?_
            refine dop rfl (l_buildSliceT (K := [(gtp_s14_k1 b2), (gtp_s14_k0 b48 bs), (gtp_s14_k2 b6 b48 v A c n)]) (Kr := Kr) (e := 39) (vs := [(0, (.int .u64 ((nb bs (tof bs i - 1) : Nat) : Int)))]) (cs := [(.int .u64 ((nb bs (tof bs i - 1) : Nat) : Int))]) (by decide) rfl (fun _ => by kernel_rfl) fun b140 => ⟨(fun _ h => (St.wk (St.untail (K := [(gtp_s14_k1 b2), (gtp_s14_k0 b48 bs), (gtp_s14_k2 b6 b48 v A c n), ⟨b140, 39, [some (.int .u64 ((nb bs (tof bs i - 1) : Nat) : Int))], true⟩]) (Kr := Kr) h) [(0, []), (1, []), (2, [2])] rfl)), ?_⟩)
            refine dtake (f := 4) [9] (by kernel_rfl) (St.closed _ _ _ _) (fun _ h => (St.wk (St.untail (K := [(gtp_s14_k1 b2), (gtp_s14_k0 b48 bs), (gtp_s14_k2 b6 b48 v A c n), ⟨b140, 39, [some (.int .u64 ((nb bs (tof bs i - 1) : Nat) : Int))], true⟩]) (Kr := Kr) h) [(0, []), (1, []), (2, [2])] rfl)) (by kernel_rfl) ?_
            refine dq rfl (q_build (vs := [(0, (.slice (some ⟨b140, 0, none⟩) 1 1)), (1, (.slice (cutA Ai ci 1) (((4 * (nb bs (tof bs i))) - 1) - 1) (ci - 1)))]) (v := (.agg #[(.slice (some ⟨b140, 0, none⟩) 1 1), (.slice (cutA Ai ci 1) (((4 * (nb bs (tof bs i))) - 1) - 1) (ci - 1))])) rfl (fun _ => by kernel_rfl)) ?_
            refine QL.nil ?_
            refine RG.step1 10 (by kernel_rfl) ?_
            refine dop rfl (l_buildSliceT (K := [(gtp_s14_k1 b2), (gtp_s14_k0 b48 bs), (gtp_s14_k2 b6 b48 v A c n), ⟨b140, 39, [some (.int .u64 ((nb bs (tof bs i - 1) : Nat) : Int))], true⟩]) (Kr := Kr) (e := 49) (vs := [(0, (.agg #[(.slice (some ⟨b140, 0, none⟩) 1 1), (.slice (cutA Ai ci 1) (((4 * (nb bs (tof bs i))) - 1) - 1) (ci - 1))]))]) (cs := [(.slice (some ⟨b140, 0, none⟩) 1 1), (.slice (cutA Ai ci 1) (((4 * (nb bs (tof bs i))) - 1) - 1) (ci - 1))]) (by decide) rfl (fun _ => by kernel_rfl) fun b146 => ⟨(fun _ h => (St.wk (St.untail (K := [(gtp_s14_k1 b2), (gtp_s14_k0 b48 bs), (gtp_s14_k2 b6 b48 v A c n), ⟨b140, 39, [some (.int .u64 ((nb bs (tof bs i - 1) : Nat) : Int))], true⟩, (gtp_s14_k3 b146 b140 Ai ci bs i)]) (Kr := Kr) h) [(0, []), (1, []), (2, [2])] rfl)), ?_⟩)
            refine RG.step1 11 (by kernel_rfl) ?_
            refine dop rfl (l_appendR2 (K0 := [(gtp_s14_k1 b2), (gtp_s14_k0 b48 bs), (gtp_s14_k2 b6 b48 v A c n), ⟨b140, 39, [some (.int .u64 ((nb bs (tof bs i - 1) : Nat) : Int))], true⟩, (gtp_s14_k3 b146 b140 Ai ci bs i)]) (Kr := Kr) (k := i) (xs := (psV ps)) (jq := 4) (news := [(.slice (some ⟨b140, 0, none⟩) 1 1), (.slice (cutA Ai ci 1) (((4 * (nb bs (tof bs i))) - 1) - 1) (ci - 1))]) (by decide) rfl rfl Tryz.underlying27 rowT_49 (by decide) hr (by have := hil; omega) rfl rfl (by simp [Value.one1]) fun v147 Kr147 hr147 => ⟨(fun _ h => (St.wk (St.untail (K := [(gtp_s14_k1 b2), (gtp_s14_k0 b48 bs), (gtp_s14_k2 b6 b48 v A c n), ⟨b140, 39, [some (.int .u64 ((nb bs (tof bs i - 1) : Nat) : Int))], true⟩, (gtp_s14_k3 b146 b140 Ai ci bs i)]) (Kr := Kr147) h) [(0, []), (1, []), (2, [2])] rfl)), ?_⟩)
            refine dtake (f := 1) [12] (by kernel_rfl) (St.closed _ _ _ _) (fun _ h => (St.wk (St.untail (K := [(gtp_s14_k1 b2), (gtp_s14_k0 b48 bs), (gtp_s14_k2 b6 b48 v A c n), ⟨b140, 39, [some (.int .u64 ((nb bs (tof bs i - 1) : Nat) : Int))], true⟩, (gtp_s14_k3 b146 b140 Ai ci bs i)]) (Kr := Kr147) h) [(0, []), (1, []), (2, [2])] rfl)) (by kernel_rfl) ?_
            refine dq rfl (q_field (b := b6) (off := 0) rfl fo_29_2) ?_
            refine QL.nil ?_
            refine RG.step1 13 (by kernel_rfl) ?_
            refine dop rfl (l_store (b := b6) (off := 2) (j := 2) rfl rfl nagg_27 hr147.one rfl rfl rfl (dlt rfl) ⟨(fun _ h => (St.wk (St.untail (K := [(gtp_s14_k1 b2), (gtp_s14_k0 b48 bs), (gtp_s14_k4 b6 b48 v147 A c n), ⟨b140, 39, [some (.int .u64 ((nb bs (tof bs i - 1) : Nat) : Int))], true⟩, (gtp_s14_k3 b146 b140 Ai ci bs i)]) (Kr := Kr147) h) [(0, []), (1, []), (2, [2])] rfl)), ?_⟩)
            refine dend (by kernel_rfl) ?_
            refine eseq ?_
            refine HT.norm ([(gtp_s14_k1 b2), (gtp_s14_k0 b48 bs), (gtp_s14_k4 b6 b48 v147 A c n), ⟨b140, 39, [some (.int .u64 ((nb bs (tof bs i - 1) : Nat) : Int))], true⟩, (gtp_s14_k3 b146 b140 Ai ci bs i)] ++ Kr147) [Byt A n c bs, Byt Ai (n - (tof bs i)) ci (sl bs (tof bs i) n), psF ps] rfl rfl ?_
            refine HT.drawn mixed (St.closed _ _ _ _) (St w [] [(gtp_s14_k1 b2), (gtp_s14_k0 b48 bs), (gtp_s14_k4 b6 b48 v147 A c n), ⟨b140, 39, [some (.int .u64 ((nb bs (tof bs i - 1) : Nat) : Int))], true⟩, (gtp_s14_k3 b146 b140 Ai ci bs i)] [Byt A n c bs, Byt Ai (n - (tof bs i)) ci (sl bs (tof bs i) n), psF ps]) ?_
            refine dtake (f := 0) [0, 1, 2, 3, 4, 5, 6, 7, 8, 9] (by kernel_rfl) (St.closed _ _ _ _) (fun _ h => (St.untail (K := [(gtp_s14_k1 b2), (gtp_s14_k0 b48 bs), (gtp_s14_k4 b6 b48 v147 A c n), ⟨b140, 39, [some (.int .u64 ((nb bs (tof bs i - 1) : Nat) : Int))], true⟩, (gtp_s14_k3 b146 b140 Ai ci bs i)]) (Kr := Kr147) h)) (by kernel_rfl) ?_
            refine dq rfl (q_move rfl) ?_
            refine dq rfl (q_move rfl) ?_
            refine dq rfl (q_sub (p := 4 * (nb bs (tof bs i))) (q := 1) rfl rfl (by have := nb_lt bs (tof bs i); omega) (show 4 * (nb bs (tof bs i)) < 9223372036854775808 by have := nb_lt bs (tof bs i); omega)) ?_
            refine dq rfl (q_index (i := (4 * (nb bs (tof bs i))) - 1) (j := 1) rfl rfl Tryz.underlying22 nagg_5 (fun _ h => h) rfl (by have := nb_lt bs (tof bs i); omega)) ?_
            refine dq rfl (q_N (q_byte (i := (4 * (nb bs (tof bs i))) - 1) (j := 1) rfl nagg_5 (fun _ h => h) rfl (by have := nb_lt bs (tof bs i); omega)) (a := nb (sl bs (tof bs i) n) ((4 * (nb bs (tof bs i))) - 1)) (b := nb bs ((tof bs i) + ((4 * (nb bs (tof bs i))) - 1))) (nb_sl (by omega))) ?_
            refine dq rfl (q_move rfl) ?_
            refine dq rfl (q_move rfl) ?_
            refine dq rfl (q_slice (lo := 4 * (nb bs (tof bs i))) (hi := n - (tof bs i)) rfl Tryz.underlying22 nagg_5 (.inr ⟨_, _, rfl, rfl⟩) (.inl ⟨rfl, rfl⟩) (by have := nb_lt bs (tof bs i); omega) (by omega)) ?_
            refine dq rfl (q_assign rfl) ?_
            refine dq rfl (q_assign rfl) ?_
            refine QL.nil ?_
            refine dend (by kernel_rfl) ?_
            refine ein ?_
            exact fun a ha w' hw => by
              obtain ⟨hp2, hs2⟩ := PSt.step hp (X := [(gtp_s14_k1 b2), (gtp_s14_k0 b48 bs), (gtp_s14_k4 b6 b48 v147 A c n)]) (Y := [(gtp_s14_k3 b146 b140 Ai ci bs i)]) (k := ⟨b140, 39, [some (.int .u64 ((nb bs (tof bs i - 1) : Nat) : Int))], true⟩) (B := [Byt A n c bs]) (r := []) (cnt := 1) (cap := 1) (xs := [nb bs (tof bs i - 1)]) (lo := 1) (hi := (4 * (nb bs (tof bs i))) - 1) (sz := 4 * (nb bs (tof bs i))) hw (by omega) rfl rfl (Nat.le_refl _) rfl hr147 (by omega) (by omega) (by omega) (by omega) (pdt (lc rfl rfl) (by omega) (by omega))
              exact eround2 ⟨(i + 1, _, _, _, _, _), hp2⟩ (show N - (i + 1) < N - i by omega) (ha.sub ⟨rfl, rfl, slc (n' := n - tof bs (i + 1)) (by omega), nbc (n' := tof bs (i + 1) - 1) (by omega), trivial⟩) hs2
          · refine dop rfl (l_buildSliceT (K := [(gtp_s14_k1 b2), (gtp_s14_k0 b48 bs), (gtp_s14_k2 b6 b48 v A c n)]) (Kr := Kr) (e := 39) (vs := [(0, (.int .u64 ((nb bs (tof bs i - 1) : Nat) : Int)))]) (cs := [(.int .u64 ((nb bs (tof bs i - 1) : Nat) : Int))]) (by decide) rfl (fun _ => by kernel_rfl) fun b140 => ⟨(fun _ h => (St.wk (St.untail (K := [(gtp_s14_k1 b2), (gtp_s14_k0 b48 bs), (gtp_s14_k2 b6 b48 v A c n), ⟨b140, 39, [some (.int .u64 ((nb bs (tof bs i - 1) : Nat) : Int))], true⟩]) (Kr := Kr) h) [(0, []), (1, []), (2, [2])] rfl)), ?_⟩)
            refine dtake (f := 5) [9] (by kernel_rfl) (St.closed _ _ _ _) (fun _ h => (St.wk (St.untail (K := [(gtp_s14_k1 b2), (gtp_s14_k0 b48 bs), (gtp_s14_k2 b6 b48 v A c n), ⟨b140, 39, [some (.int .u64 ((nb bs (tof bs i - 1) : Nat) : Int))], true⟩]) (Kr := Kr) h) [(0, []), (1, []), (2, [2])] rfl)) (by kernel_rfl) ?_
            refine dq rfl (q_build (vs := [(0, (.slice (some ⟨b140, 0, none⟩) 1 1)), (1, (.slice (cutA Ai ci 1) (((4 * (nb bs (tof bs i))) - 1) - 1) (ci - 1)))]) (v := (.agg #[(.slice (some ⟨b140, 0, none⟩) 1 1), (.slice (cutA Ai ci 1) (((4 * (nb bs (tof bs i))) - 1) - 1) (ci - 1))])) rfl (fun _ => by kernel_rfl)) ?_
            refine QL.nil ?_
            refine RG.step2 1 10 (by kernel_rfl) ?_ ?_
            · refine dop rfl (l_q _ (by simp) (St.closed _ _ _ _) (q_load (b := b6) (off := 2) (j := 2) rfl nagg_27 (fun _ h => h) rfl rfl rfl) ⟨(fun _ h => (St.wk (St.untail (K := [(gtp_s14_k1 b2), (gtp_s14_k0 b48 bs), (gtp_s14_k2 b6 b48 v A c n), ⟨b140, 39, [some (.int .u64 ((nb bs (tof bs i - 1) : Nat) : Int))], true⟩]) (Kr := Kr) h) [(0, []), (1, []), (2, [2])] rfl)), ?_⟩)
              refine RG.step1 10 (by kernel_rfl) ?_
              refine dop rfl (l_buildSliceT (K := [(gtp_s14_k1 b2), (gtp_s14_k0 b48 bs), (gtp_s14_k2 b6 b48 v A c n), ⟨b140, 39, [some (.int .u64 ((nb bs (tof bs i - 1) : Nat) : Int))], true⟩]) (Kr := Kr) (e := 49) (vs := [(0, (.agg #[(.slice (some ⟨b140, 0, none⟩) 1 1), (.slice (cutA Ai ci 1) (((4 * (nb bs (tof bs i))) - 1) - 1) (ci - 1))]))]) (cs := [(.slice (some ⟨b140, 0, none⟩) 1 1), (.slice (cutA Ai ci 1) (((4 * (nb bs (tof bs i))) - 1) - 1) (ci - 1))]) (by decide) rfl (fun _ => by kernel_rfl) fun b146 => ⟨(fun _ h => (St.wk (St.untail (K := [(gtp_s14_k1 b2), (gtp_s14_k0 b48 bs), (gtp_s14_k2 b6 b48 v A c n), ⟨b140, 39, [some (.int .u64 ((nb bs (tof bs i - 1) : Nat) : Int))], true⟩, (gtp_s14_k3 b146 b140 Ai ci bs i)]) (Kr := Kr) h) [(0, []), (1, []), (2, [2])] rfl)), ?_⟩)
              refine RG.step1 11 (by kernel_rfl) ?_
              refine dop rfl (l_appendR2 (K0 := [(gtp_s14_k1 b2), (gtp_s14_k0 b48 bs), (gtp_s14_k2 b6 b48 v A c n), ⟨b140, 39, [some (.int .u64 ((nb bs (tof bs i - 1) : Nat) : Int))], true⟩, (gtp_s14_k3 b146 b140 Ai ci bs i)]) (Kr := Kr) (k := i) (xs := (psV ps)) (jq := 4) (news := [(.slice (some ⟨b140, 0, none⟩) 1 1), (.slice (cutA Ai ci 1) (((4 * (nb bs (tof bs i))) - 1) - 1) (ci - 1))]) (by decide) rfl rfl Tryz.underlying27 rowT_49 (by decide) hr (by have := hil; omega) rfl rfl (by simp [Value.one1]) fun v147 Kr147 hr147 => ⟨(fun _ h => (St.wk (St.untail (K := [(gtp_s14_k1 b2), (gtp_s14_k0 b48 bs), (gtp_s14_k2 b6 b48 v A c n), ⟨b140, 39, [some (.int .u64 ((nb bs (tof bs i - 1) : Nat) : Int))], true⟩, (gtp_s14_k3 b146 b140 Ai ci bs i)]) (Kr := Kr147) h) [(0, []), (1, []), (2, [2])] rfl)), ?_⟩)
              refine dtake (f := 1) [12] (by kernel_rfl) (St.closed _ _ _ _) (fun _ h => (St.wk (St.untail (K := [(gtp_s14_k1 b2), (gtp_s14_k0 b48 bs), (gtp_s14_k2 b6 b48 v A c n), ⟨b140, 39, [some (.int .u64 ((nb bs (tof bs i - 1) : Nat) : Int))], true⟩, (gtp_s14_k3 b146 b140 Ai ci bs i)]) (Kr := Kr147) h) [(0, []), (1, []), (2, [2])] rfl)) (by kernel_rfl) ?_
              refine dq rfl (q_field (b := b6) (off := 0) rfl fo_29_2) ?_
              refine QL.nil ?_
              refine RG.step1 13 (by kernel_rfl) ?_
              refine dop rfl (l_store (b := b6) (off := 2) (j := 2) rfl rfl nagg_27 hr147.one rfl rfl rfl (dlt rfl) ⟨(fun _ h => (St.wk (St.untail (K := [(gtp_s14_k1 b2), (gtp_s14_k0 b48 bs), (gtp_s14_k4 b6 b48 v147 A c n), ⟨b140, 39, [some (.int .u64 ((nb bs (tof bs i - 1) : Nat) : Int))], true⟩, (gtp_s14_k3 b146 b140 Ai ci bs i)]) (Kr := Kr147) h) [(0, []), (1, []), (2, [2])] rfl)), ?_⟩)
              refine dend (by kernel_rfl) ?_
              refine eseq ?_
              refine HT.norm ([(gtp_s14_k1 b2), (gtp_s14_k0 b48 bs), (gtp_s14_k4 b6 b48 v147 A c n), ⟨b140, 39, [some (.int .u64 ((nb bs (tof bs i - 1) : Nat) : Int))], true⟩, (gtp_s14_k3 b146 b140 Ai ci bs i)] ++ Kr147) [Byt A n c bs, Byt Ai (n - (tof bs i)) ci (sl bs (tof bs i) n), psF ps] rfl rfl ?_
              refine HT.drawn mixed (St.closed _ _ _ _) (St w [] [(gtp_s14_k1 b2), (gtp_s14_k0 b48 bs), (gtp_s14_k4 b6 b48 v147 A c n), ⟨b140, 39, [some (.int .u64 ((nb bs (tof bs i - 1) : Nat) : Int))], true⟩, (gtp_s14_k3 b146 b140 Ai ci bs i)] [Byt A n c bs, Byt Ai (n - (tof bs i)) ci (sl bs (tof bs i) n), psF ps]) ?_
              refine dtake (f := 0) [0, 1, 2, 3, 4, 5, 6, 7, 8, 9] (by kernel_rfl) (St.closed _ _ _ _) (fun _ h => (St.untail (K := [(gtp_s14_k1 b2), (gtp_s14_k0 b48 bs), (gtp_s14_k4 b6 b48 v147 A c n), ⟨b140, 39, [some (.int .u64 ((nb bs (tof bs i - 1) : Nat) : Int))], true⟩, (gtp_s14_k3 b146 b140 Ai ci bs i)]) (Kr := Kr147) h)) (by kernel_rfl) ?_
              refine dq rfl (q_move rfl) ?_
              refine dq rfl (q_move rfl) ?_
              refine dq rfl (q_sub (p := 4 * (nb bs (tof bs i))) (q := 1) rfl rfl (by have := nb_lt bs (tof bs i); omega) (show 4 * (nb bs (tof bs i)) < 9223372036854775808 by have := nb_lt bs (tof bs i); omega)) ?_
              refine dq rfl (q_index (i := (4 * (nb bs (tof bs i))) - 1) (j := 1) rfl rfl Tryz.underlying22 nagg_5 (fun _ h => h) rfl (by have := nb_lt bs (tof bs i); omega)) ?_
              refine dq rfl (q_N (q_byte (i := (4 * (nb bs (tof bs i))) - 1) (j := 1) rfl nagg_5 (fun _ h => h) rfl (by have := nb_lt bs (tof bs i); omega)) (a := nb (sl bs (tof bs i) n) ((4 * (nb bs (tof bs i))) - 1)) (b := nb bs ((tof bs i) + ((4 * (nb bs (tof bs i))) - 1))) (nb_sl (by omega))) ?_
              refine dq rfl (q_move rfl) ?_
              refine dq rfl (q_move rfl) ?_
              refine dq rfl (q_slice (lo := 4 * (nb bs (tof bs i))) (hi := n - (tof bs i)) rfl Tryz.underlying22 nagg_5 (.inr ⟨_, _, rfl, rfl⟩) (.inl ⟨rfl, rfl⟩) (by have := nb_lt bs (tof bs i); omega) (by omega)) ?_
              refine dq rfl (q_assign rfl) ?_
              refine dq rfl (q_assign rfl) ?_
              refine QL.nil ?_
              refine dend (by kernel_rfl) ?_
              refine ein ?_
              exact fun a ha w' hw => by
                obtain ⟨hp2, hs2⟩ := PSt.step hp (X := [(gtp_s14_k1 b2), (gtp_s14_k0 b48 bs), (gtp_s14_k4 b6 b48 v147 A c n)]) (Y := [(gtp_s14_k3 b146 b140 Ai ci bs i)]) (k := ⟨b140, 39, [some (.int .u64 ((nb bs (tof bs i - 1) : Nat) : Int))], true⟩) (B := [Byt A n c bs]) (r := []) (cnt := 1) (cap := 1) (xs := [nb bs (tof bs i - 1)]) (lo := 1) (hi := (4 * (nb bs (tof bs i))) - 1) (sz := 4 * (nb bs (tof bs i))) hw (by omega) rfl rfl (Nat.le_refl _) rfl hr147 (by omega) (by omega) (by omega) (by omega) (pdt (lc rfl rfl) (by omega) (by omega))
                exact eround2 ⟨(i + 1, _, _, _, _, _), hp2⟩ (show N - (i + 1) < N - i by omega) (ha.sub ⟨rfl, rfl, slc (n' := n - tof bs (i + 1)) (by omega), nbc (n' := tof bs (i + 1) - 1) (by omega), trivial⟩) hs2
            · refine dop rfl (l_buildSliceT (K := [(gtp_s14_k1 b2), (gtp_s14_k0 b48 bs), (gtp_s14_k2 b6 b48 v A c n), ⟨b140, 39, [some (.int .u64 ((nb bs (tof bs i - 1) : Nat) : Int))], true⟩]) (Kr := Kr) (e := 49) (vs := [(0, (.agg #[(.slice (some ⟨b140, 0, none⟩) 1 1), (.slice (cutA Ai ci 1) (((4 * (nb bs (tof bs i))) - 1) - 1) (ci - 1))]))]) (cs := [(.slice (some ⟨b140, 0, none⟩) 1 1), (.slice (cutA Ai ci 1) (((4 * (nb bs (tof bs i))) - 1) - 1) (ci - 1))]) (by decide) rfl (fun _ => by kernel_rfl) fun b146 => ⟨(fun _ h => (St.wk (St.untail (K := [(gtp_s14_k1 b2), (gtp_s14_k0 b48 bs), (gtp_s14_k2 b6 b48 v A c n), ⟨b140, 39, [some (.int .u64 ((nb bs (tof bs i - 1) : Nat) : Int))], true⟩, (gtp_s14_k3 b146 b140 Ai ci bs i)]) (Kr := Kr) h) [(0, []), (1, []), (2, [2])] rfl)), ?_⟩)
              refine RG.step1 1 (by kernel_rfl) ?_
              refine dop rfl (l_q _ (by simp) (St.closed _ _ _ _) (q_load (b := b6) (off := 2) (j := 2) rfl nagg_27 (fun _ h => h) rfl rfl rfl) ⟨(fun _ h => (St.wk (St.untail (K := [(gtp_s14_k1 b2), (gtp_s14_k0 b48 bs), (gtp_s14_k2 b6 b48 v A c n), ⟨b140, 39, [some (.int .u64 ((nb bs (tof bs i - 1) : Nat) : Int))], true⟩, (gtp_s14_k3 b146 b140 Ai ci bs i)]) (Kr := Kr) h) [(0, []), (1, []), (2, [2])] rfl)), ?_⟩)
              refine RG.step1 11 (by kernel_rfl) ?_
              refine dop rfl (l_appendR2 (K0 := [(gtp_s14_k1 b2), (gtp_s14_k0 b48 bs), (gtp_s14_k2 b6 b48 v A c n), ⟨b140, 39, [some (.int .u64 ((nb bs (tof bs i - 1) : Nat) : Int))], true⟩, (gtp_s14_k3 b146 b140 Ai ci bs i)]) (Kr := Kr) (k := i) (xs := (psV ps)) (jq := 4) (news := [(.slice (some ⟨b140, 0, none⟩) 1 1), (.slice (cutA Ai ci 1) (((4 * (nb bs (tof bs i))) - 1) - 1) (ci - 1))]) (by decide) rfl rfl Tryz.underlying27 rowT_49 (by decide) hr (by have := hil; omega) rfl rfl (by simp [Value.one1]) fun v147 Kr147 hr147 => ⟨(fun _ h => (St.wk (St.untail (K := [(gtp_s14_k1 b2), (gtp_s14_k0 b48 bs), (gtp_s14_k2 b6 b48 v A c n), ⟨b140, 39, [some (.int .u64 ((nb bs (tof bs i - 1) : Nat) : Int))], true⟩, (gtp_s14_k3 b146 b140 Ai ci bs i)]) (Kr := Kr147) h) [(0, []), (1, []), (2, [2])] rfl)), ?_⟩)
              refine dtake (f := 1) [12] (by kernel_rfl) (St.closed _ _ _ _) (fun _ h => (St.wk (St.untail (K := [(gtp_s14_k1 b2), (gtp_s14_k0 b48 bs), (gtp_s14_k2 b6 b48 v A c n), ⟨b140, 39, [some (.int .u64 ((nb bs (tof bs i - 1) : Nat) : Int))], true⟩, (gtp_s14_k3 b146 b140 Ai ci bs i)]) (Kr := Kr147) h) [(0, []), (1, []), (2, [2])] rfl)) (by kernel_rfl) ?_
              refine dq rfl (q_field (b := b6) (off := 0) rfl fo_29_2) ?_
              refine QL.nil ?_
              refine RG.step1 13 (by kernel_rfl) ?_
              refine dop rfl (l_store (b := b6) (off := 2) (j := 2) rfl rfl nagg_27 hr147.one rfl rfl rfl (dlt rfl) ⟨(fun _ h => (St.wk (St.untail (K := [(gtp_s14_k1 b2), (gtp_s14_k0 b48 bs), (gtp_s14_k4 b6 b48 v147 A c n), ⟨b140, 39, [some (.int .u64 ((nb bs (tof bs i - 1) : Nat) : Int))], true⟩, (gtp_s14_k3 b146 b140 Ai ci bs i)]) (Kr := Kr147) h) [(0, []), (1, []), (2, [2])] rfl)), ?_⟩)
              refine dend (by kernel_rfl) ?_
              refine eseq ?_
              refine HT.norm ([(gtp_s14_k1 b2), (gtp_s14_k0 b48 bs), (gtp_s14_k4 b6 b48 v147 A c n), ⟨b140, 39, [some (.int .u64 ((nb bs (tof bs i - 1) : Nat) : Int))], true⟩, (gtp_s14_k3 b146 b140 Ai ci bs i)] ++ Kr147) [Byt A n c bs, Byt Ai (n - (tof bs i)) ci (sl bs (tof bs i) n), psF ps] rfl rfl ?_
              refine HT.drawn mixed (St.closed _ _ _ _) (St w [] [(gtp_s14_k1 b2), (gtp_s14_k0 b48 bs), (gtp_s14_k4 b6 b48 v147 A c n), ⟨b140, 39, [some (.int .u64 ((nb bs (tof bs i - 1) : Nat) : Int))], true⟩, (gtp_s14_k3 b146 b140 Ai ci bs i)] [Byt A n c bs, Byt Ai (n - (tof bs i)) ci (sl bs (tof bs i) n), psF ps]) ?_
              refine dtake (f := 0) [0, 1, 2, 3, 4, 5, 6, 7, 8, 9] (by kernel_rfl) (St.closed _ _ _ _) (fun _ h => (St.untail (K := [(gtp_s14_k1 b2), (gtp_s14_k0 b48 bs), (gtp_s14_k4 b6 b48 v147 A c n), ⟨b140, 39, [some (.int .u64 ((nb bs (tof bs i - 1) : Nat) : Int))], true⟩, (gtp_s14_k3 b146 b140 Ai ci bs i)]) (Kr := Kr147) h)) (by kernel_rfl) ?_
              refine dq rfl (q_move rfl) ?_
              refine dq rfl (q_move rfl) ?_
              refine dq rfl (q_sub (p := 4 * (nb bs (tof bs i))) (q := 1) rfl rfl (by have := nb_lt bs (tof bs i); omega) (show 4 * (nb bs (tof bs i)) < 9223372036854775808 by have := nb_lt bs (tof bs i); omega)) ?_
              refine dq rfl (q_index (i := (4 * (nb bs (tof bs i))) - 1) (j := 1) rfl rfl Tryz.underlying22 nagg_5 (fun _ h => h) rfl (by have := nb_lt bs (tof bs i); omega)) ?_
              refine dq rfl (q_N (q_byte (i := (4 * (nb bs (tof bs i))) - 1) (j := 1) rfl nagg_5 (fun _ h => h) rfl (by have := nb_lt bs (tof bs i); omega)) (a := nb (sl bs (tof bs i) n) ((4 * (nb bs (tof bs i))) - 1)) (b := nb bs ((tof bs i) + ((4 * (nb bs (tof bs i))) - 1))) (nb_sl (by omega))) ?_
              refine dq rfl (q_move rfl) ?_
              refine dq rfl (q_move rfl) ?_
              refine dq rfl (q_slice (lo := 4 * (nb bs (tof bs i))) (hi := n - (tof bs i)) rfl Tryz.underlying22 nagg_5 (.inr ⟨_, _, rfl, rfl⟩) (.inl ⟨rfl, rfl⟩) (by have := nb_lt bs (tof bs i); omega) (by omega)) ?_
              refine dq rfl (q_assign rfl) ?_
              refine dq rfl (q_assign rfl) ?_
              refine QL.nil ?_
              refine dend (by kernel_rfl) ?_
              refine ein ?_
              exact fun a ha w' hw => by
                obtain ⟨hp2, hs2⟩ := PSt.step hp (X := [(gtp_s14_k1 b2), (gtp_s14_k0 b48 bs), (gtp_s14_k4 b6 b48 v147 A c n)]) (Y := [(gtp_s14_k3 b146 b140 Ai ci bs i)]) (k := ⟨b140, 39, [some (.int .u64 ((nb bs (tof bs i - 1) : Nat) : Int))], true⟩) (B := [Byt A n c bs]) (r := []) (cnt := 1) (cap := 1) (xs := [nb bs (tof bs i - 1)]) (lo := 1) (hi := (4 * (nb bs (tof bs i))) - 1) (sz := 4 * (nb bs (tof bs i))) hw (by omega) rfl rfl (Nat.le_refl _) rfl hr147 (by omega) (by omega) (by omega) (by omega) (pdt (lc rfl rfl) (by omega) (by omega))
                exact eround2 ⟨(i + 1, _, _, _, _, _), hp2⟩ (show N - (i + 1) < N - i by omega) (ha.sub ⟨rfl, rfl, slc (n' := n - tof bs (i + 1)) (by omega), nbc (n' := tof bs (i + 1) - 1) (by omega), trivial⟩) hs2
  · refine dop rfl (l_alloc (by decide) zero_29 fun b6 => ⟨(fun _ h => (h.wk [(0, [])] rfl)), ?_⟩)
    refine RG.step1 34 (by kernel_rfl) ?_
    refine dop rfl (l_buildSlice (e := 39) (vs := [(0, (.int .u64 (((nb bs 0) / 32 : Nat) : Int))), (1, (.int .u64 ((((nb bs 0) / 16) &&& 1 : Nat) : Int))), (2, (.int .u64 ((((nb bs 0) / 8) &&& 1 : Nat) : Int))), (3, (.int .u64 ((((nb bs 0) / 4) &&& 1 : Nat) : Int))), (4, (.int .u64 ((((nb bs 0) / 2) &&& 1 : Nat) : Int))), (5, (.int .u64 (((nb bs 0) &&& 1 : Nat) : Int))), (6, (.int .u64 ((nb bs 1 : Nat) : Int))), (7, (.int .u64 ((bN bs 2 2 : Nat) : Int))), (8, (.int .u64 ((bN bs 4 4 : Nat) : Int))), (9, (.int .u64 ((0 : Nat) : Int))), (10, (.int .u64 ((0 : Nat) : Int)))]) (cs := [(.int .u64 (((nb bs 0) / 32 : Nat) : Int)), (.int .u64 ((((nb bs 0) / 16) &&& 1 : Nat) : Int)), (.int .u64 ((((nb bs 0) / 8) &&& 1 : Nat) : Int)), (.int .u64 ((((nb bs 0) / 4) &&& 1 : Nat) : Int)), (.int .u64 ((((nb bs 0) / 2) &&& 1 : Nat) : Int)), (.int .u64 (((nb bs 0) &&& 1 : Nat) : Int)), (.int .u64 ((nb bs 1 : Nat) : Int)), (.int .u64 ((bN bs 2 2 : Nat) : Int)), (.int .u64 ((bN bs 4 4 : Nat) : Int)), (.int .u64 ((0 : Nat) : Int)), (.int .u64 ((0 : Nat) : Int))]) (by decide) rfl (fun _ => by kernel_rfl) fun b48 => ⟨(fun _ h => (h.wk [(0, [])] rfl)), ?_⟩)
    refine dtake (f := 1) [35] (by kernel_rfl) (St.closed _ _ _ _) (fun _ h => (h.wk [(0, [])] rfl)) (by kernel_rfl) ?_
    refine dq rfl (q_call (vs := [(.slice (cutA A c 8) (n - 8) (c - 8)), (.slice (some ⟨b48, 0, none⟩) 11 11)]) (v := (.agg #[(.slice (some ⟨b48, 0, none⟩) 11 11), (.slice none 0 0), (.slice none 0 0), (.slice (cutA A c 8) (n - 8) (c - 8))])) rfl ca_33 (fun w h => layerC w (cutA A c 8) (n - 8) (c - 8) (some ⟨b48, 0, none⟩) 11 11  (St.enter (sp := []) (Kc := []) (bi := []) h rfl rfl rfl))) ?_
    refine QL.nil ?_
    refine RG.step1 37 (by kernel_rfl) ?_
    refine dop rfl (l_storeAgg (b := b6) (off := 0) (j := 1) (vs := [(.slice (some ⟨b48, 0, none⟩) 11 11), (.slice none 0 0), (.slice none 0 0), (.slice (cutA A c 8) (n - 8) (c - 8))]) rfl rfl aggs_29 (by simp [Value.one1]) rfl rfl rfl (Nat.le_of_ble_eq_true rfl) ⟨(fun _ h => (h.wk [(0, [])] rfl)), ?_⟩)
    refine dend (by kernel_rfl) ?_
    refine eseq ?_
    refine HT.seq ?_
    refine HT.seq ?_
    refine HT.plain ?_
    refine sMv rfl rfl ?_
    refine sqS (q_slice (lo := 2) (hi := 4) rfl Tryz.underlying22 nagg_5 (.inr ⟨_, _, rfl, rfl⟩) (.inr ⟨_, _, rfl, rfl⟩) (by omega) (by omega)) rfl ?_
    refine sqS (q_call (vs := [(.slice (cutA A c 2) (4 - 2) (c - 2))]) (v := (.int .u64 ((bN bs 2 2 : Nat) : Int))) rfl ca_34 (fun w h => NumberC w A n c bs (lo := 2) (hi := 4) (h.fact (j := 0) rfl) (k := 2) rfl (by decide) (by omega) (by omega))) rfl ?_
    refine sqS (q_convn (p := bN bs 2 2) rfl Tryz.underlying39 Tryz.underlying3 (show bN bs 2 2 < 9223372036854775808 by have := bN_lt bs 2 2 65536 rfl; omega)) rfl ?_
    refine sAs rfl rfl ?_
    refine send ?_
    refine eseq ?_
    refine HT.seq ?_
    refine HT.plain ?_
    refine sMv rfl rfl ?_
    refine sMv rfl rfl ?_
    refine sqS (q_len (len := n) rfl Tryz.underlying22) rfl ?_
    refine sqS (q_sub (p := n) (q := 8) rfl rfl (by omega) (show n < 9223372036854775808 by omega)) rfl ?_
    refine sqS (q_F (q_gt (p := bN bs 2 2) (q := n - 8) rfl rfl) (by have := bN_lt bs 2 2 65536 rfl; omega)) rfl ?_
    refine send ?_
    refine eseq ?_
    refine HT.no rfl ?_
    refine HT.skip ?_
    refine eseq ?_
    refine HT.seq ?_
    refine HT.seq ?_
    refine HT.plain ?_
    refine sMv rfl rfl ?_
    refine sqS (q_and (p := nb bs 0) (q := 7) rfl rfl rfl (show nb bs 0 < 256 by have := nb_lt bs 0; omega) (by decide)) rfl ?_
    refine sqS (q_F (q_eq (p := (nb bs 0) &&& 7) (q := 0) rfl rfl) (by have := nb_lt bs 0; have := zm7 (nb bs 0); have := Nat.and_le_left (n := nb bs 0) (m := 7); have := Nat.and_le_right (n := nb bs 0) (m := 7); omega)) rfl ?_
    refine send ?_
    refine eseq ?_
    refine HT.no rfl ?_
    refine HT.skip ?_
    refine eseq ?_
    refine HT.seq ?_
    refine HT.seq ?_
    refine HT.plain ?_
    refine sMv rfl rfl ?_
    refine sqS (q_len (len := n) rfl Tryz.underlying22) rfl ?_
    refine sqS (q_F (q_lt (p := n) (q := 12) rfl rfl) (by omega)) rfl ?_
    refine sMv rfl rfl ?_
    refine sgqS rfl (q_move rfl) rfl ?_
    refine sgqS rfl (q_slice (lo := 2) (hi := 4) rfl Tryz.underlying22 nagg_5 (.inr ⟨_, _, rfl, rfl⟩) (.inr ⟨_, _, rfl, rfl⟩) (by omega) (by omega)) rfl ?_
    refine sgqS rfl (q_call (vs := [(.slice (cutA A c 2) (4 - 2) (c - 2))]) (v := (.int .u64 ((bN bs 2 2 : Nat) : Int))) rfl ca_34 (fun w h => NumberC w A n c bs (lo := 2) (hi := 4) (h.fact (j := 0) rfl) (k := 2) rfl (by decide) (by omega) (by omega))) rfl ?_
    refine sgqS rfl (q_F (q_lt (p := bN bs 2 2) (q := 4) rfl rfl) (by have := bN_lt bs 2 2 65536 rfl; omega)) rfl ?_
    refine sqS (q_pick rfl (fun h => nomatch h) (fun _ => rfl)) rfl ?_
    refine send ?_
    refine eseq ?_
    refine HT.no rfl ?_
    refine HT.skip ?_
    refine eseq ?_
    refine HT.seq ?_
    refine HT.drawn mixed (St.closed _ _ _ _) (St w [] [(gtp_s14_k1 b2), ⟨b6, 29, [some (.slice (some ⟨b48, 0, none⟩) 11 11), some (.slice none 0 0), some (.slice none 0 0), some (.slice (cutA A c 8) (n - 8) (c - 8))], true⟩, ⟨b48, 39, [some (.int .u64 (((nb bs 0) / 32 : Nat) : Int)), some (.int .u64 ((((nb bs 0) / 16) &&& 1 : Nat) : Int)), some (.int .u64 ((((nb bs 0) / 8) &&& 1 : Nat) : Int)), some (.int .u64 ((((nb bs 0) / 4) &&& 1 : Nat) : Int)), some (.int .u64 ((((nb bs 0) / 2) &&& 1 : Nat) : Int)), some (.int .u64 (((nb bs 0) &&& 1 : Nat) : Int)), some (.int .u64 ((nb bs 1 : Nat) : Int)), some (.int .u64 ((bN bs 2 2 : Nat) : Int)), some (.int .u64 ((bN bs 4 4 : Nat) : Int)), none, none], true⟩] [Byt A n c bs]) ?_
    refine dtake (f := 3) [0, 1, 2, 3, 4, 5, 6, 7, 8, 9, 10, 11] (by kernel_rfl) (St.closed _ _ _ _) (fun _ h => (h.wk [(0, []), (1, []), (2, [9, 10])] rfl)) (by kernel_rfl) ?_
    refine dq rfl (q_field (b := b6) (off := 0) rfl fo_29_0) ?_
    refine dq rfl (q_load (b := b6) (off := 0) (j := 1) rfl nagg_25 (fun _ h => h) rfl rfl rfl) ?_
    refine dq rfl (q_field (b := b6) (off := 0) rfl fo_29_0) ?_
    refine dq rfl (q_load (b := b6) (off := 0) (j := 1) rfl nagg_25 (fun _ h => h) rfl rfl rfl) ?_
    refine dq rfl (q_move rfl) ?_
    refine dq rfl (q_slice (lo := 8) (hi := 10) rfl Tryz.underlying22 nagg_5 (.inr ⟨_, _, rfl, rfl⟩) (.inr ⟨_, _, rfl, rfl⟩) (by omega) (by omega)) ?_
    refine dq rfl (q_call (vs := [(.slice (cutA A c 8) (10 - 8) (c - 8))]) (v := (.int .u64 ((bN bs 8 2 : Nat) : Int))) rfl ca_34 (fun w h => NumberC w A n c bs (lo := 8) (hi := 10) (h.fact (j := 0) rfl) (k := 2) rfl (by decide) (by omega) (by omega))) ?_
    refine dq rfl (q_move rfl) ?_
    refine dq rfl (q_index (i := 10) (j := 0) rfl rfl Tryz.underlying22 nagg_5 (fun _ h => h) rfl (by omega)) ?_
    refine dq rfl (q_byte (i := 10) (j := 0) rfl nagg_5 (fun _ h => h) rfl (by omega)) ?_
    refine dq rfl (q_convn (p := nb bs 10) rfl Tryz.underlying5 Tryz.underlying39 (show nb bs 10 < 18446744073709551616 by have := nb_lt bs 10; omega)) ?_
    refine dq rfl (q_indexK (b := b48) (i := 9) (sz := 1) rfl rfl Tryz.underlying25 size_39 (by decide)) ?_
    refine QL.nil ?_
    refine RG.step1 12 (by kernel_rfl) ?_
    refine dop rfl (l_store (b := b48) (off := 9) (j := 2) rfl rfl nagg_39 rfl rfl rfl rfl (dlt rfl) ⟨(fun _ h => (h.wk [(0, []), (1, []), (2, [9, 10])] rfl)), ?_⟩)
    refine dtake (f := 1) [13] (by kernel_rfl) (St.closed _ _ _ _) (fun _ h => (h.wk [(0, []), (1, []), (2, [9, 10])] rfl)) (by kernel_rfl) ?_
    refine dq rfl (q_indexK (b := b48) (i := 10) (sz := 1) rfl rfl Tryz.underlying25 size_39 (by decide)) ?_
    refine QL.nil ?_
    refine RG.step1 14 (by kernel_rfl) ?_
    refine dop rfl (l_store (b := b48) (off := 10) (j := 2) rfl rfl nagg_39 rfl rfl rfl rfl (dlt rfl) ⟨(fun _ h => (h.wk [(0, []), (1, []), (2, [9, 10])] rfl)), ?_⟩)
    refine dend (by kernel_rfl) ?_
    refine eseq ?_
    refine HT.seq ?_
    refine HT.seq ?_
    refine HT.plain ?_
    refine sMv rfl rfl ?_
    refine sqS (q_and (p := nb bs 0) (q := 2) rfl rfl rfl (show nb bs 0 < 256 by have := nb_lt bs 0; omega) (by decide)) rfl ?_
    refine sqS (q_F (q_eq (p := (nb bs 0) &&& 2) (q := 0) rfl rfl) (by have := nb_lt bs 0; have := zb2 (nb bs 0); have := Nat.and_le_left (n := nb bs 0) (m := 2); have := Nat.and_le_right (n := nb bs 0) (m := 2); omega)) rfl ?_
    refine sMv rfl rfl ?_
    refine sgqS rfl (q_move rfl) rfl ?_
    refine sgqS rfl (q_and (p := nb bs 0) (q := 1) rfl rfl rfl (show nb bs 0 < 256 by have := nb_lt bs 0; omega) (by decide)) rfl ?_
    refine sgqS rfl (q_F (q_eq (p := (nb bs 0) &&& 1) (q := 0) rfl rfl) (by have := nb_lt bs 0; have := zm1 (nb bs 0); have := Nat.and_le_left (n := nb bs 0) (m := 1); have := Nat.and_le_right (n := nb bs 0) (m := 1); omega)) rfl ?_
    refine sqS (q_pick rfl (fun h => nomatch h) (fun _ => rfl)) rfl ?_
    refine send ?_
    refine eseq ?_
    refine HT.no rfl ?_
    refine HT.skip ?_
    refine eseq ?_
    refine HT.seq ?_
    refine HT.drawnS mixed (St.closed _ _ _ _) ?_
    refine dtake (f := 0) [0, 1, 2, 3, 4, 5, 6] (by kernel_rfl) (St.closed _ _ _ _) (fun _ h => h) (by kernel_rfl) ?_
    refine dq rfl (q_move rfl) ?_
    refine dq rfl (q_index (i := 11) (j := 0) rfl rfl Tryz.underlying22 nagg_5 (fun _ h => h) rfl (by omega)) ?_
    refine dq rfl (q_byte (i := 11) (j := 0) rfl nagg_5 (fun _ h => h) rfl (by omega)) ?_
    refine dq rfl (q_move rfl) ?_
    refine dq rfl (q_slice (lo := 12) (hi := n) rfl Tryz.underlying22 nagg_5 (.inr ⟨_, _, rfl, rfl⟩) (.inl ⟨rfl, rfl⟩) (by omega) (by omega)) ?_
    refine dq rfl (q_assign rfl) ?_
    refine dq rfl (q_assign rfl) ?_
    refine QL.nil ?_
    refine dend (by kernel_rfl) ?_
    refine eseq ?_
    refine HT.seq ?_
    refine HT.seq ?_
    refine HT.plain ?_
    refine sMv rfl rfl ?_
    refine sqS (q_and (p := nb bs 0) (q := 4) rfl rfl rfl (show nb bs 0 < 256 by have := nb_lt bs 0; omega) (by decide)) rfl ?_
    refine sqS (q_F (q_eq (p := (nb bs 0) &&& 4) (q := 0) rfl rfl) (by have := nb_lt bs 0; have := zb4 (nb bs 0); have := Nat.and_le_left (n := nb bs 0) (m := 4); have := Nat.and_le_right (n := nb bs 0) (m := 4); omega)) rfl ?_
    refine send ?_
    refine eseq ?_
    refine HT.no rfl ?_
    refine HT.seq ?_
    refine HT.plain ?_
    refine sMv rfl rfl ?_
    refine sqS (q_F (q_eq (p := nb bs 11) (q := 0) rfl rfl) (by have := nb_lt bs 11; omega)) rfl ?_
    refine send ?_
    refine eseq ?_
    refine HT.no rfl ?_
    refine HT.skip ?_
    refine eseq ?_
    refine HT.seq ?_
    refine HT.block ?_
    refine HT.loop (ι := {p : Nat × Option Addr × Nat × Value × List Kb × List (NI × BI) // PSt w.heap.size (Byt A n c bs) (fun j => ([nb bs (tof bs j - 1)], sl bs (tof bs j + 1) (tof bs j + (4 * (nb bs (tof bs j)) - 1)))) (fun j => tof bs j) n bs N p.1 p.2.1 p.2.2.1 p.2.2.2.1 p.2.2.2.2.1 p.2.2.2.2.2}) (fun p => [(2, (.pointer (some ⟨b2, 0, none⟩))), (6, (.pointer (some ⟨b6, 0, none⟩))), (9, (.slice p.1.2.1 (n - (tof bs p.1.1)) p.1.2.2.1)), (8, (.int .u8 ((nb bs (tof bs p.1.1 - 1) : Nat) : Int)))]) (fun p => St w [] ([(gtp_s14_k1 b2), ⟨b6, 29, [some (.slice (some ⟨b48, 0, none⟩) 11 11), some (.slice none 0 0), some p.1.2.2.2.1, some (.slice (cutA A c 8) (n - 8) (c - 8))], true⟩, (gtp_s14_k0 b48 bs)] ++ p.1.2.2.2.2.1) [Byt A n c bs, Byt p.1.2.1 (n - (tof bs p.1.1)) p.1.2.2.1 (sl bs (tof bs p.1.1) n), psF p.1.2.2.2.2.2]) (fun p => N - p.1.1) ⟨(0, cutA A c 12, c - 12, .slice none 0 0, [], []), PSt.nil (fun x hx => Byt.cut_fp (lo := 12) (hi := n) hx.1 hx) (show n - 12 ≤ c - 12 by omega)⟩ ⟨rfl, rfl, rfl, rfl, trivial⟩ (fun _ h => psF_nil (B := [Byt A n c bs, Byt (cutA A c 12) (n - 12) (c - 12) (sl bs 12 n)]) (h.cut (j := 0) (lo := 12) (hi := n) rfl (by omega) (by omega))) fun ⟨⟨i, Ai, ci, v, Kr, ps⟩, hp⟩ => ?_
    replace hp : PSt w.heap.size (Byt A n c bs) (fun j => ([nb bs (tof bs j - 1)], sl bs (tof bs j + 1) (tof bs j + (4 * (nb bs (tof bs j)) - 1)))) (fun j => tof bs j) n bs N i Ai ci v Kr ps := hp
    have hil : i ≤ N := hp.le
    have hr : RowS 49 2 i (psV ps) v Kr := hp.row
    have hcp : n - tof bs i ≤ ci := hp.cap
    have ho := tof_succ bs i
    have hge := tof_ge bs i
    have hal := tof_all (by omega) hg i (by omega)
    have hc := hg i
    have hz : i = N → nb bs (tof bs i - 1) ≠ 0 ∧ (n ≤ tof bs i ∨ nb bs (tof bs i) = 0 ∨ n < tof bs i + 4 * nb bs (tof bs i)) := fun e => by rw [e]; exact ⟨hh, hi⟩
    show HT _ _ _ [(2, (.pointer (some ⟨b2, 0, none⟩))), (6, (.pointer (some ⟨b6, 0, none⟩))), (9, (.slice Ai (n - (tof bs i)) ci)), (8, (.int .u8 ((nb bs (tof bs i - 1) : Nat) : Int)))] (St w [] ([(gtp_s14_k1 b2), (gtp_s14_k2 b6 b48 v A c n), (gtp_s14_k0 b48 bs)] ++ Kr) [Byt A n c bs, Byt Ai (n - (tof bs i)) ci (sl bs (tof bs i) n), psF ps]) _
    refine HT.seq ?_
    refine HT.seq ?_
    refine HT.plain ?_
    refine sMv rfl rfl ?_
    refine sqS (q_T (q_ne (p := nb bs (tof bs i - 1)) (q := 0) rfl rfl) (by have := nb_lt bs (tof bs i - 1); omega)) rfl ?_
    refine send ?_
    refine eseq ?_
    refine HT.yes rfl ?_
    refine HT.skip ?_
    refine eseq ?_
    refine HT.block ?_
    refine HT.seq ?_
    refine HT.seq ?_
    refine HT.plain ?_
    refine sMv rfl rfl ?_
    refine sqS (q_len (len := n - (tof bs i)) rfl Tryz.underlying22) rfl ?_
    by_cases h4 : n - (tof bs i) = 0
    · refine sqS (q_T (q_eq (p := n - (tof bs i)) (q := 0) rfl rfl) h4) rfl ?_
      refine sMv rfl rfl ?_
      refine sskip rfl rfl ?_
      refine sskip rfl rfl ?_
      refine sskip rfl rfl ?_
      refine sskip rfl rfl ?_
      refine sqS (q_pick rfl (fun _ => rfl) (fun h => nomatch h)) rfl ?_
      refine sMv rfl rfl ?_
      refine sskip rfl rfl ?_
      refine sskip rfl rfl ?_
      refine sskip rfl rfl ?_
      refine sskip rfl rfl ?_
      refine sskip rfl rfl ?_
      refine sskip rfl rfl ?_
      refine sskip rfl rfl ?_
      refine sskip rfl rfl ?_
      refine sqS (q_pick rfl (fun _ => rfl) (fun h => nomatch h)) rfl ?_
      refine send ?_
      refine eseq ?_
      refine HT.yes rfl ?_
      refine HT.seq ?_
      refine HT.plain ?_
      refine sqS (q_loadAgg (b := b6) (off := 0) (j := 1) (vs := [(.slice (some ⟨b48, 0, none⟩) 11 11), (.slice none 0 0), v, (.slice (cutA A c 8) (n - 8) (c - 8))]) rfl aggs_29 (fun _ h => h) rfl rfl rfl) rfl ?_
      refine sl_ (l_storeAgg (b := b2) (off := 0) (j := 0) (vs := [(.slice (some ⟨b48, 0, none⟩) 11 11), (.slice none 0 0), v, (.slice (cutA A c 8) (n - 8) (c - 8))]) rfl rfl aggs_29 (by intro x hx; simp only [List.mem_cons, List.not_mem_nil, or_false] at hx; rcases hx with rfl | rfl | rfl | rfl <;> first | rfl | exact hr.one) rfl rfl rfl (Nat.le_of_ble_eq_true rfl) ?_)
      refine sAs rfl rfl ?_
      refine sAs rfl rfl ?_
      refine send ?_
      refine eseq ?_
      refine HT.norm ([(gtp_s14_k7 b2 b48 v A c n), (gtp_s14_k2 b6 b48 v A c n), (gtp_s14_k0 b48 bs)] ++ Kr) [Byt A n c bs, Byt Ai (n - (tof bs i)) ci (sl bs (tof bs i) n), psF ps] rfl rfl ?_
      refine HT.ret ?_
      refine rt_then ?_
      refine rt_in ?_
      refine rt_then ?_
      refine rt_in ?_
      refine rt_then ?_
      obtain ⟨Av, cv, hv⟩ := hr.val
      subst hv
      exact fun a ha w' hw => fin_ ha (resc3 ha Tryz.results40 rfl (ld_ aggs_29 hw (j := 0) rfl rfl (vs := [(.slice (some ⟨b48, 0, none⟩) 11 11), (.slice none 0 0), (.slice Av i cv), (.slice (cutA A c 8) (n - 8) (c - 8))]) rfl) rfl rfl) ⟨(⟨(some ⟨b48, 0, none⟩), 11, 11, []⟩, ⟨none, 0, 0, []⟩, ⟨Av, i, cv, []⟩, ⟨cutA A c 8, n - 8, c - 8, []⟩), rfl, (((St.untail (K := [(gtp_s14_k5 b2 b48 Av i cv A c n), (gtp_s14_k6 b6 b48 Av i cv A c n), (gtp_s14_k0 b48 bs)]) (Kr := Kr) hw).wk [] rfl).selF [0] rfl), fr0⟩
    · refine sqS (q_F (q_eq (p := n - (tof bs i)) (q := 0) rfl rfl) h4) rfl ?_
      refine sMv rfl rfl ?_
      refine sgqS rfl (q_move rfl) rfl ?_
      refine sgqS rfl (q_index (i := 0) (j := 1) rfl rfl Tryz.underlying22 nagg_5 (fun _ h => h) rfl (by omega)) rfl ?_
      refine sgqS rfl (q_N (q_byte (i := 0) (j := 1) rfl nagg_5 (fun _ h => h) rfl (by omega)) (a := nb (sl bs (tof bs i) n) 0) (b := nb bs (tof bs i)) (nb_sl (by omega))) rfl ?_
      by_cases h5 : nb bs (tof bs i) = 0
      · refine sgqS rfl (q_T (q_eq (p := nb bs (tof bs i)) (q := 0) rfl rfl) h5) rfl ?_
        refine sqS (q_pick rfl (fun h => nomatch h) (fun _ => rfl)) rfl ?_
        refine sMv rfl rfl ?_
        refine sskip rfl rfl ?_
        refine sskip rfl rfl ?_
        refine sskip rfl rfl ?_
        refine sskip rfl rfl ?_
        refine sskip rfl rfl ?_
        refine sskip rfl rfl ?_
        refine sskip rfl rfl ?_
        refine sskip rfl rfl ?_
        refine sqS (q_pick rfl (fun _ => rfl) (fun h => nomatch h)) rfl ?_
        refine send ?_
        refine eseq ?_
        refine HT.yes rfl ?_
        refine HT.seq ?_
        refine HT.plain ?_
        refine sqS (q_loadAgg (b := b6) (off := 0) (j := 1) (vs := [(.slice (some ⟨b48, 0, none⟩) 11 11), (.slice none 0 0), v, (.slice (cutA A c 8) (n - 8) (c - 8))]) rfl aggs_29 (fun _ h => h) rfl rfl rfl) rfl ?_
        refine sl_ (l_storeAgg (b := b2) (off := 0) (j := 0) (vs := [(.slice (some ⟨b48, 0, none⟩) 11 11), (.slice none 0 0), v, (.slice (cutA A c 8) (n - 8) (c - 8))]) rfl rfl aggs_29 (by intro x hx; simp only [List.mem_cons, List.not_mem_nil, or_false] at hx; rcases hx with rfl | rfl | rfl | rfl <;> first | rfl | exact hr.one) rfl rfl rfl (Nat.le_of_ble_eq_true rfl) ?_)
        refine sAs rfl rfl ?_
        refine sAs rfl rfl ?_
        refine send ?_
        refine eseq ?_
        refine HT.norm ([(gtp_s14_k7 b2 b48 v A c n), (gtp_s14_k2 b6 b48 v A c n), (gtp_s14_k0 b48 bs)] ++ Kr) [Byt A n c bs, Byt Ai (n - (tof bs i)) ci (sl bs (tof bs i) n), psF ps] rfl rfl ?_
        refine HT.ret ?_
        refine rt_then ?_
        refine rt_in ?_
        refine rt_then ?_
        refine rt_in ?_
        refine rt_then ?_
        obtain ⟨Av, cv, hv⟩ := hr.val
        subst hv
        exact fun a ha w' hw => fin_ ha (resc3 ha Tryz.results40 rfl (ld_ aggs_29 hw (j := 0) rfl rfl (vs := [(.slice (some ⟨b48, 0, none⟩) 11 11), (.slice none 0 0), (.slice Av i cv), (.slice (cutA A c 8) (n - 8) (c - 8))]) rfl) rfl rfl) ⟨(⟨(some ⟨b48, 0, none⟩), 11, 11, []⟩, ⟨none, 0, 0, []⟩, ⟨Av, i, cv, []⟩, ⟨cutA A c 8, n - 8, c - 8, []⟩), rfl, (((St.untail (K := [(gtp_s14_k5 b2 b48 Av i cv A c n), (gtp_s14_k6 b6 b48 Av i cv A c n), (gtp_s14_k0 b48 bs)]) (Kr := Kr) hw).wk [] rfl).selF [0] rfl), fr0⟩
      · refine sgqS rfl (q_F (q_eq (p := nb bs (tof bs i)) (q := 0) rfl rfl) h5) rfl ?_
        refine sqS (q_pick rfl (fun h => nomatch h) (fun _ => rfl)) rfl ?_
        refine sMv rfl rfl ?_
        refine sgqS rfl (q_move rfl) rfl ?_
        refine sgqS rfl (q_index (i := 0) (j := 1) rfl rfl Tryz.underlying22 nagg_5 (fun _ h => h) rfl (by omega)) rfl ?_
        refine sgqS rfl (q_N (q_byte (i := 0) (j := 1) rfl nagg_5 (fun _ h => h) rfl (by omega)) (a := nb (sl bs (tof bs i) n) 0) (b := nb bs (tof bs i)) (nb_sl (by omega))) rfl ?_
        refine sgqS rfl (q_convn (p := nb bs (tof bs i)) rfl Tryz.underlying5 Tryz.underlying3 (show nb bs (tof bs i) < 9223372036854775808 by have := nb_lt bs (tof bs i); omega)) rfl ?_
        refine sgqS rfl (q_mul (p := 4) (q := nb bs (tof bs i)) rfl rfl (show 4 * (nb bs (tof bs i)) < 9223372036854775808 by have := nb_lt bs (tof bs i); omega)) rfl ?_
        refine sgqS rfl (q_move rfl) rfl ?_
        refine sgqS rfl (q_len (len := n - (tof bs i)) rfl Tryz.underlying22) rfl ?_
        by_cases h6 : n - (tof bs i) < 4 * (nb bs (tof bs i))
        · refine sgqS rfl (q_T (q_gt (p := 4 * (nb bs (tof bs i))) (q := n - (tof bs i)) rfl rfl) h6) rfl ?_
          refine sqS (q_pick rfl (fun h => nomatch h) (fun _ => rfl)) rfl ?_
          refine send ?_
          refine eseq ?_
          refine HT.yes rfl ?_
          refine HT.seq ?_
          refine HT.plain ?_
          refine sqS (q_loadAgg (b := b6) (off := 0) (j := 1) (vs := [(.slice (some ⟨b48, 0, none⟩) 11 11), (.slice none 0 0), v, (.slice (cutA A c 8) (n - 8) (c - 8))]) rfl aggs_29 (fun _ h => h) rfl rfl rfl) rfl ?_
          refine sl_ (l_storeAgg (b := b2) (off := 0) (j := 0) (vs := [(.slice (some ⟨b48, 0, none⟩) 11 11), (.slice none 0 0), v, (.slice (cutA A c 8) (n - 8) (c - 8))]) rfl rfl aggs_29 (by intro x hx; simp only [List.mem_cons, List.not_mem_nil, or_false] at hx; rcases hx with rfl | rfl | rfl | rfl <;> first | rfl | exact hr.one) rfl rfl rfl (Nat.le_of_ble_eq_true rfl) ?_)
          refine sAs rfl rfl ?_
          refine sAs rfl rfl ?_
          refine send ?_
          refine eseq ?_
          refine HT.norm ([(gtp_s14_k7 b2 b48 v A c n), (gtp_s14_k2 b6 b48 v A c n), (gtp_s14_k0 b48 bs)] ++ Kr) [Byt A n c bs, Byt Ai (n - (tof bs i)) ci (sl bs (tof bs i) n), psF ps] rfl rfl ?_
          refine HT.ret ?_
          refine rt_then ?_
          refine rt_in ?_
          refine rt_then ?_
          refine rt_in ?_
          refine rt_then ?_
          obtain ⟨Av, cv, hv⟩ := hr.val
          subst hv
          exact fun a ha w' hw => fin_ ha (resc3 ha Tryz.results40 rfl (ld_ aggs_29 hw (j := 0) rfl rfl (vs := [(.slice (some ⟨b48, 0, none⟩) 11 11), (.slice none 0 0), (.slice Av i cv), (.slice (cutA A c 8) (n - 8) (c - 8))]) rfl) rfl rfl) ⟨(⟨(some ⟨b48, 0, none⟩), 11, 11, []⟩, ⟨none, 0, 0, []⟩, ⟨Av, i, cv, []⟩, ⟨cutA A c 8, n - 8, c - 8, []⟩), rfl, (((St.untail (K := [(gtp_s14_k5 b2 b48 Av i cv A c n), (gtp_s14_k6 b6 b48 Av i cv A c n), (gtp_s14_k0 b48 bs)]) (Kr := Kr) hw).wk [] rfl).selF [0] rfl), fr0⟩
        · refine sgqS rfl (q_F (q_gt (p := 4 * (nb bs (tof bs i))) (q := n - (tof bs i)) rfl rfl) h6) rfl ?_
          refine sqS (q_pick rfl (fun h => nomatch h) (fun _ => rfl)) rfl ?_
          refine send ?_
          refine eseq ?_
          refine HT.no rfl ?_
          refine HT.skip ?_
          refine eseq ?_
          refine HT.seq ?_
          refine HT.plain ?_
          refine sMv rfl rfl ?_
          refine sqS (q_index (i := 0) (j := 1) rfl rfl Tryz.underlying22 nagg_5 (fun _ h => h) rfl (by omega)) rfl ?_
          refine sqS (q_N (q_byte (i := 0) (j := 1) rfl nagg_5 (fun _ h => h) rfl (by omega)) (a := nb (sl bs (tof bs i) n) 0) (b := nb bs (tof bs i)) (nb_sl (by omega))) rfl ?_
          refine sqS (q_convn (p := nb bs (tof bs i)) rfl Tryz.underlying5 Tryz.underlying3 (show nb bs (tof bs i) < 9223372036854775808 by have := nb_lt bs (tof bs i); omega)) rfl ?_
          refine sqS (q_mul (p := 4) (q := nb bs (tof bs i)) rfl rfl (show 4 * (nb bs (tof bs i)) < 9223372036854775808 by have := nb_lt bs (tof bs i); omega)) rfl ?_
          refine sAs rfl rfl ?_
          refine send ?_
          refine eseq ?_
          refine HT.seq ?_
          refine HT.drawn mixed (St.closed _ _ _ _) (St w [] [(gtp_s14_k1 b2), ⟨b6, 29, [some (.slice (some ⟨b48, 0, none⟩) 11 11), some (.slice none 0 0), none, some (.slice (cutA A c 8) (n - 8) (c - 8))], true⟩, (gtp_s14_k0 b48 bs)] [Byt A n c bs, Byt Ai (n - (tof bs i)) ci (sl bs (tof bs i) n), psF ps]) ?_
          refine dtake (f := 7) [0, 2, 3, 5, 6, 7, 8] (by kernel_rfl) (St.closed _ _ _ _) (fun _ h => (St.wk (St.untail (K := [(gtp_s14_k1 b2), (gtp_s14_k2 b6 b48 v A c n), (gtp_s14_k0 b48 bs)]) (Kr := Kr) h) [(0, []), (1, [2]), (2, [])] rfl)) (by kernel_rfl) ?_
          refine dq rfl (q_field (b := b6) (off := 0) rfl fo_29_2) ?_
          refine dq rfl (q_move rfl) ?_
          refine dq rfl (q_convn (p := nb bs (tof bs i - 1)) rfl Tryz.underlying5 Tryz.underlying39 (show nb bs (tof bs i - 1) < 18446744073709551616 by have := nb_lt bs (tof bs i - 1); omega)) ?_
          refine dq rfl (q_move rfl) ?_
          refine dq rfl (q_move rfl) ?_
          refine dq rfl (q_sub (p := 4 * (nb bs (tof bs i))) (q := 1) rfl rfl (by have := nb_lt bs (tof bs i); omega) (show 4 * (nb bs (tof bs i)) < 9223372036854775808 by have := nb_lt bs (tof bs i); omega)) ?_
          refine dq rfl (q_slice (lo := 1) (hi := (4 * (nb bs (tof bs i))) - 1) rfl Tryz.underlying22 nagg_5 (.inr ⟨_, _, rfl, rfl⟩) (.inr ⟨_, _, rfl, rfl⟩) (by have := nb_lt bs (tof bs i); omega) (by have := nb_lt bs (tof bs i); omega)) ?_
          refine QL.nil ?_
          refine RG.step2 1 4 (by kernel_rfl) ?_ ?_
          · refine dop rfl (l_q _ (by simp) (St.closed _ _ _ _) (q_load (b := b6) (off := 2) (j := 1) rfl nagg_27 (fun _ h => h) rfl rfl rfl) ⟨(fun _ h => (St.wk (St.untail (K := [(gtp_s14_k1 b2), (gtp_s14_k2 b6 b48 v A c n), (gtp_s14_k0 b48 bs)]) (Kr := Kr) h) [(0, []), (1, [2]), (2, [])] rfl)), ?_⟩)
            refine RG.step1 4 (by kernel_rfl) ?_
            refine dop rfl (l_buildSliceT (K := [(gtp_s14_k1 b2), (gtp_s14_k2 b6 b48 v A c n), (gtp_s14_k0 b48 bs)]) (Kr := Kr) (e := 39) (vs := [(0, (.int .u64 ((nb bs (tof bs i - 1) : Nat) : Int)))]) (cs := [(.int .u64 ((nb bs (tof bs i - 1) : Nat) : Int))]) (by decide) rfl (fun _ => by kernel_rfl) fun b140 => ⟨(fun _ h => (St.wk (St.untail (K := [(gtp_s14_k1 b2), (gtp_s14_k2 b6 b48 v A c n), (gtp_s14_k0 b48 bs), ⟨b140, 39, [some (.int .u64 ((nb bs (tof bs i - 1) : Nat) : Int))], true⟩]) (Kr := Kr) h) [(0, []), (1, [2]), (2, [])] rfl)), ?_⟩)
            refine dtake (f := 4) [9] (by kernel_rfl) (St.closed _ _ _ _) (fun _ h => (St.wk (St.untail (K := [(gtp_s14_k1 b2), (gtp_s14_k2 b6 b48 v A c n), (gtp_s14_k0 b48 bs), ⟨b140, 39, [some (.int .u64 ((nb bs (tof bs i - 1) : Nat) : Int))], true⟩]) (Kr := Kr) h) [(0, []), (1, [2]), (2, [])] rfl)) (by kernel_rfl) ?_
            refine dq rfl (q_build (vs := [(0, (.slice (some ⟨b140, 0, none⟩) 1 1)), (1, (.slice (cutA Ai ci 1) (((4 * (nb bs (tof bs i))) - 1) - 1) (ci - 1)))]) (v := (.agg #[(.slice (some ⟨b140, 0, none⟩) 1 1), (.slice (cutA Ai ci 1) (((4 * (nb bs (tof bs i))) - 1) - 1) (ci - 1))])) rfl (fun _ => by kernel_rfl)) ?_
            refine QL.nil ?_
            refine RG.step1 10 (by kernel_rfl) ?_
            refine dop rfl (l_buildSliceT (K := [(gtp_s14_k1 b2), (gtp_s14_k2 b6 b48 v A c n), (gtp_s14_k0 b48 bs), ⟨b140, 39, [some (.int .u64 ((nb bs (tof bs i - 1) : Nat) : Int))], true⟩]) (Kr := Kr) (e := 49) (vs := [(0, (.agg #[(.slice (some ⟨b140, 0, none⟩) 1 1), (.slice (cutA Ai ci 1) (((4 * (nb bs (tof bs i))) - 1) - 1) (ci - 1))]))]) (cs := [(.slice (some ⟨b140, 0, none⟩) 1 1), (.slice (cutA Ai ci 1) (((4 * (nb bs (tof bs i))) - 1) - 1) (ci - 1))]) (by decide) rfl (fun _ => by kernel_rfl) fun b146 => ⟨(fun _ h => (St.wk (St.untail (K := [(gtp_s14_k1 b2), (gtp_s14_k2 b6 b48 v A c n), (gtp_s14_k0 b48 bs), ⟨b140, 39, [some (.int .u64 ((nb bs (tof bs i - 1) : Nat) : Int))], true⟩, (gtp_s14_k3 b146 b140 Ai ci bs i)]) (Kr := Kr) h) [(0, []), (1, [2]), (2, [])] rfl)), ?_⟩)
            refine RG.step1 11 (by kernel_rfl) ?_
            refine dop rfl (l_appendR2 (K0 := [(gtp_s14_k1 b2), (gtp_s14_k2 b6 b48 v A c n), (gtp_s14_k0 b48 bs), ⟨b140, 39, [some (.int .u64 ((nb bs (tof bs i - 1) : Nat) : Int))], true⟩, (gtp_s14_k3 b146 b140 Ai ci bs i)]) (Kr := Kr) (k := i) (xs := (psV ps)) (jq := 4) (news := [(.slice (some ⟨b140, 0, none⟩) 1 1), (.slice (cutA Ai ci 1) (((4 * (nb bs (tof bs i))) - 1) - 1) (ci - 1))]) (by decide) rfl rfl Tryz.underlying27 rowT_49 (by decide) hr (by have := hil; omega) rfl rfl (by simp [Value.one1]) fun v147 Kr147 hr147 => ⟨(fun _ h => (St.wk (St.untail (K := [(gtp_s14_k1 b2), (gtp_s14_k2 b6 b48 v A c n), (gtp_s14_k0 b48 bs), ⟨b140, 39, [some (.int .u64 ((nb bs (tof bs i - 1) : Nat) : Int))], true⟩, (gtp_s14_k3 b146 b140 Ai ci bs i)]) (Kr := Kr147) h) [(0, []), (1, [2]), (2, [])] rfl)), ?_⟩)
            refine dtake (f := 1) [12] (by kernel_rfl) (St.closed _ _ _ _) (fun _ h => (St.wk (St.untail (K := [(gtp_s14_k1 b2), (gtp_s14_k2 b6 b48 v A c n), (gtp_s14_k0 b48 bs), ⟨b140, 39, [some (.int .u64 ((nb bs (tof bs i - 1) : Nat) : Int))], true⟩, (gtp_s14_k3 b146 b140 Ai ci bs i)]) (Kr := Kr147) h) [(0, []), (1, [2]), (2, [])] rfl)) (by kernel_rfl) ?_
            refine dq rfl (q_field (b := b6) (off := 0) rfl fo_29_2) ?_
            refine QL.nil ?_
            refine RG.step1 13 (by kernel_rfl) ?_
            refine dop rfl (l_store (b := b6) (off := 2) (j := 1) rfl rfl nagg_27 hr147.one rfl rfl rfl (dlt rfl) ⟨(fun _ h => (St.wk (St.untail (K := [(gtp_s14_k1 b2), (gtp_s14_k4 b6 b48 v147 A c n), (gtp_s14_k0 b48 bs), ⟨b140, 39, [some (.int .u64 ((nb bs (tof bs i - 1) : Nat) : Int))], true⟩, (gtp_s14_k3 b146 b140 Ai ci bs i)]) (Kr := Kr147) h) [(0, []), (1, [2]), (2, [])] rfl)), ?_⟩)
            refine dend (by kernel_rfl) ?_
            refine eseq ?_
            refine HT.norm ([(gtp_s14_k1 b2), (gtp_s14_k4 b6 b48 v147 A c n), (gtp_s14_k0 b48 bs), ⟨b140, 39, [some (.int .u64 ((nb bs (tof bs i - 1) : Nat) : Int))], true⟩, (gtp_s14_k3 b146 b140 Ai ci bs i)] ++ Kr147) [Byt A n c bs, Byt Ai (n - (tof bs i)) ci (sl bs (tof bs i) n), psF ps] rfl rfl ?_
            refine HT.drawn mixed (St.closed _ _ _ _) (St w [] [(gtp_s14_k1 b2), (gtp_s14_k4 b6 b48 v147 A c n), (gtp_s14_k0 b48 bs), ⟨b140, 39, [some (.int .u64 ((nb bs (tof bs i - 1) : Nat) : Int))], true⟩, (gtp_s14_k3 b146 b140 Ai ci bs i)] [Byt A n c bs, Byt Ai (n - (tof bs i)) ci (sl bs (tof bs i) n), psF ps]) ?_
            refine dtake (f := 0) [0, 1, 2, 3, 4, 5, 6, 7, 8, 9] (by kernel_rfl) (St.closed _ _ _ _) (fun _ h => (St.untail (K := [(gtp_s14_k1 b2), (gtp_s14_k4 b6 b48 v147 A c n), (gtp_s14_k0 b48 bs), ⟨b140, 39, [some (.int .u64 ((nb bs (tof bs i - 1) : Nat) : Int))], true⟩, (gtp_s14_k3 b146 b140 Ai ci bs i)]) (Kr := Kr147) h)) (by kernel_rfl) ?_
            refine dq rfl (q_move rfl) ?_
            refine dq rfl (q_move rfl) ?_
            refine dq rfl (q_sub (p := 4 * (nb bs (tof bs i))) (q := 1) rfl rfl (by have := nb_lt bs (tof bs i); omega) (show 4 * (nb bs (tof bs i)) < 9223372036854775808 by have := nb_lt bs (tof bs i); omega)) ?_
            refine dq rfl (q_index (i := (4 * (nb bs (tof bs i))) - 1) (j := 1) rfl rfl Tryz.underlying22 nagg_5 (fun _ h => h) rfl (by have := nb_lt bs (tof bs i); omega)) ?_
            refine dq rfl (q_N (q_byte (i := (4 * (nb bs (tof bs i))) - 1) (j := 1) rfl nagg_5 (fun _ h => h) rfl (by have := nb_lt bs (tof bs i); omega)) (a := nb (sl bs (tof bs i) n) ((4 * (nb bs (tof bs i))) - 1)) (b := nb bs ((tof bs i) + ((4 * (nb bs (tof bs i))) - 1))) (nb_sl (by omega))) ?_
            refine dq rfl (q_move rfl) ?_
            refine dq rfl (q_move rfl) ?_
            refine dq rfl (q_slice (lo := 4 * (nb bs (tof bs i))) (hi := n - (tof bs i)) rfl Tryz.underlying22 nagg_5 (.inr ⟨_, _, rfl, rfl⟩) (.inl ⟨rfl, rfl⟩) (by have := nb_lt bs (tof bs i); omega) (by omega)) ?_
            refine dq rfl (q_assign rfl) ?_
            refine dq rfl (q_assign rfl) ?_
            refine QL.nil ?_
            refine dend (by kernel_rfl) ?_
            refine ein ?_
            exact fun a ha w' hw => by
              obtain ⟨hp2, hs2⟩ := PSt.step hp (X := [(gtp_s14_k1 b2), (gtp_s14_k4 b6 b48 v147 A c n), (gtp_s14_k0 b48 bs)]) (Y := [(gtp_s14_k3 b146 b140 Ai ci bs i)]) (k := ⟨b140, 39, [some (.int .u64 ((nb bs (tof bs i - 1) : Nat) : Int))], true⟩) (B := [Byt A n c bs]) (r := []) (cnt := 1) (cap := 1) (xs := [nb bs (tof bs i - 1)]) (lo := 1) (hi := (4 * (nb bs (tof bs i))) - 1) (sz := 4 * (nb bs (tof bs i))) hw (by omega) rfl rfl (Nat.le_refl _) rfl hr147 (by omega) (by omega) (by omega) (by omega) (pdt (lc rfl rfl) (by omega) (by omega))
              exact eround2 ⟨(i + 1, _, _, _, _, _), hp2⟩ (show N - (i + 1) < N - i by omega) (ha.sub ⟨rfl, rfl, slc (n' := n - tof bs (i + 1)) (by omega), nbc (n' := tof bs (i + 1) - 1) (by omega), trivial⟩) hs2
          · refine dop rfl (l_buildSliceT (K := [(gtp_s14_k1 b2), (gtp_s14_k2 b6 b48 v A c n), (gtp_s14_k0 b48 bs)]) (Kr := Kr) (e := 39) (vs := [(0, (.int .u64 ((nb bs (tof bs i - 1) : Nat) : Int)))]) (cs := [(.int .u64 ((nb bs (tof bs i - 1) : Nat) : Int))]) (by decide) rfl (fun _ => by kernel_rfl) fun b140 => ⟨(fun _ h => (St.wk (St.untail (K := [(gtp_s14_k1 b2), (gtp_s14_k2 b6 b48 v A c n), (gtp_s14_k0 b48 bs), ⟨b140, 39, [some (.int .u64 ((nb bs (tof bs i - 1) : Nat) : Int))], true⟩]) (Kr := Kr) h) [(0, []), (1, [2]), (2, [])] rfl)), ?_⟩)
            refine dtake (f := 5) [9] (by kernel_rfl) (St.closed _ _ _ _) (fun _ h => (St.wk (St.untail (K := [(gtp_s14_k1 b2), (gtp_s14_k2 b6 b48 v A c n), (gtp_s14_k0 b48 bs), ⟨b140, 39, [some (.int .u64 ((nb bs (tof bs i - 1) : Nat) : Int))], true⟩]) (Kr := Kr) h) [(0, []), (1, [2]), (2, [])] rfl)) (by kernel_rfl) ?_
            refine dq rfl (q_build (vs := [(0, (.slice (some ⟨b140, 0, none⟩) 1 1)), (1, (.slice (cutA Ai ci 1) (((4 * (nb bs (tof bs i))) - 1) - 1) (ci - 1)))]) (v := (.agg #[(.slice (some ⟨b140, 0, none⟩) 1 1), (.slice (cutA Ai ci 1) (((4 * (nb bs (tof bs i))) - 1) - 1) (ci - 1))])) rfl (fun _ => by kernel_rfl)) ?_
            refine QL.nil ?_
            refine RG.step2 1 10 (by kernel_rfl) ?_ ?_
            · refine dop rfl (l_q _ (by simp) (St.closed _ _ _ _) (q_load (b := b6) (off := 2) (j := 1) rfl nagg_27 (fun _ h => h) rfl rfl rfl) ⟨(fun _ h => (St.wk (St.untail (K := [(gtp_s14_k1 b2), (gtp_s14_k2 b6 b48 v A c n), (gtp_s14_k0 b48 bs), ⟨b140, 39, [some (.int .u64 ((nb bs (tof bs i - 1) : Nat) : Int))], true⟩]) (Kr := Kr) h) [(0, []), (1, [2]), (2, [])] rfl)), ?_⟩)
              refine RG.step1 10 (by kernel_rfl) ?_
              refine dop rfl (l_buildSliceT (K := [(gtp_s14_k1 b2), (gtp_s14_k2 b6 b48 v A c n), (gtp_s14_k0 b48 bs), ⟨b140, 39, [some (.int .u64 ((nb bs (tof bs i - 1) : Nat) : Int))], true⟩]) (Kr := Kr) (e := 49) (vs := [(0, (.agg #[(.slice (some ⟨b140, 0, none⟩) 1 1), (.slice (cutA Ai ci 1) (((4 * (nb bs (tof bs i))) - 1) - 1) (ci - 1))]))]) (cs := [(.slice (some ⟨b140, 0, none⟩) 1 1), (.slice (cutA Ai ci 1) (((4 * (nb bs (tof bs i))) - 1) - 1) (ci - 1))]) (by decide) rfl (fun _ => by kernel_rfl) fun b146 => ⟨(fun _ h => (St.wk (St.untail (K := [(gtp_s14_k1 b2), (gtp_s14_k2 b6 b48 v A c n), (gtp_s14_k0 b48 bs), ⟨b140, 39, [some (.int .u64 ((nb bs (tof bs i - 1) : Nat) : Int))], true⟩, (gtp_s14_k3 b146 b140 Ai ci bs i)]) (Kr := Kr) h) [(0, []), (1, [2]), (2, [])] rfl)), ?_⟩)
              refine RG.step1 11 (by kernel_rfl) ?_
              refine dop rfl (l_appendR2 (K0 := [(gtp_s14_k1 b2), (gtp_s14_k2 b6 b48 v A c n), (gtp_s14_k0 b48 bs), ⟨b140, 39, [some (.int .u64 ((nb bs (tof bs i - 1) : Nat) : Int))], true⟩, (gtp_s14_k3 b146 b140 Ai ci bs i)]) (Kr := Kr) (k := i) (xs := (psV ps)) (jq := 4) (news := [(.slice (some ⟨b140, 0, none⟩) 1 1), (.slice (cutA Ai ci 1) (((4 * (nb bs (tof bs i))) - 1) - 1) (ci - 1))]) (by decide) rfl rfl Tryz.underlying27 rowT_49 (by decide) hr (by have := hil; omega) rfl rfl (by simp [Value.one1]) fun v147 Kr147 hr147 => ⟨(fun _ h => (St.wk (St.untail (K := [(gtp_s14_k1 b2), (gtp_s14_k2 b6 b48 v A c n), (gtp_s14_k0 b48 bs), ⟨b140, 39, [some (.int .u64 ((nb bs (tof bs i - 1) : Nat) : Int))], true⟩, (gtp_s14_k3 b146 b140 Ai ci bs i)]) (Kr := Kr147) h) [(0, []), (1, [2]), (2, [])] rfl)), ?_⟩)
              refine dtake (f := 1) [12] (by kernel_rfl) (St.closed _ _ _ _) (fun _ h => (St.wk (St.untail (K := [(gtp_s14_k1 b2), (gtp_s14_k2 b6 b48 v A c n), (gtp_s14_k0 b48 bs), ⟨b140, 39, [some (.int .u64 ((nb bs (tof bs i - 1) : Nat) : Int))], true⟩, (gtp_s14_k3 b146 b140 Ai ci bs i)]) (Kr := Kr147) h) [(0, []), (1, [2]), (2, [])] rfl)) (by kernel_rfl) ?_
              refine dq rfl (q_field (b := b6) (off := 0) rfl fo_29_2) ?_
              refine QL.nil ?_
              refine RG.step1 13 (by kernel_rfl) ?_
              refine dop rfl (l_store (b := b6) (off := 2) (j := 1) rfl rfl nagg_27 hr147.one rfl rfl rfl (dlt rfl) ⟨(fun _ h => (St.wk (St.untail (K := [(gtp_s14_k1 b2), (gtp_s14_k4 b6 b48 v147 A c n), (gtp_s14_k0 b48 bs), ⟨b140, 39, [some (.int .u64 ((nb bs (tof bs i - 1) : Nat) : Int))], true⟩, (gtp_s14_k3 b146 b140 Ai ci bs i)]) (Kr := Kr147) h) [(0, []), (1, [2]), (2, [])] rfl)), ?_⟩)
              refine dend (by kernel_rfl) ?_
              refine eseq ?_
              refine HT.norm ([(gtp_s14_k1 b2), (gtp_s14_k4 b6 b48 v147 A c n), (gtp_s14_k0 b48 bs), ⟨b140, 39, [some (.int .u64 ((nb bs (tof bs i - 1) : Nat) : Int))], true⟩, (gtp_s14_k3 b146 b140 Ai ci bs i)] ++ Kr147) [Byt A n c bs, Byt Ai (n - (tof bs i)) ci (sl bs (tof bs i) n), psF ps] rfl rfl ?_
              refine HT.drawn mixed (St.closed _ _ _ _) (St w [] [(gtp_s14_k1 b2), (gtp_s14_k4 b6 b48 v147 A c n), (gtp_s14_k0 b48 bs), ⟨b140, 39, [some (.int .u64 ((nb bs (tof bs i - 1) : Nat) : Int))], true⟩, (gtp_s14_k3 b146 b140 Ai ci bs i)] [Byt A n c bs, Byt Ai (n - (tof bs i)) ci (sl bs (tof bs i) n), psF ps]) ?_
              refine dtake (f := 0) [0, 1, 2, 3, 4, 5, 6, 7, 8, 9] (by kernel_rfl) (St.closed _ _ _ _) (fun _ h => (St.untail (K := [(gtp_s14_k1 b2), (gtp_s14_k4 b6 b48 v147 A c n), (gtp_s14_k0 b48 bs), ⟨b140, 39, [some (.int .u64 ((nb bs (tof bs i - 1) : Nat) : Int))], true⟩, (gtp_s14_k3 b146 b140 Ai ci bs i)]) (Kr := Kr147) h)) (by kernel_rfl) ?_
              refine dq rfl (q_move rfl) ?_
              refine dq rfl (q_move rfl) ?_
              refine dq rfl (q_sub (p := 4 * (nb bs (tof bs i))) (q := 1) rfl rfl (by have := nb_lt bs (tof bs i); omega) (show 4 * (nb bs (tof bs i)) < 9223372036854775808 by have := nb_lt bs (tof bs i); omega)) ?_
              refine dq rfl (q_index (i := (4 * (nb bs (tof bs i))) - 1) (j := 1) rfl rfl Tryz.underlying22 nagg_5 (fun _ h => h) rfl (by have := nb_lt bs (tof bs i); omega)) ?_
              refine dq rfl (q_N (q_byte (i := (4 * (nb bs (tof bs i))) - 1) (j := 1) rfl nagg_5 (fun _ h => h) rfl (by have := nb_lt bs (tof bs i); omega)) (a := nb (sl bs (tof bs i) n) ((4 * (nb bs (tof bs i))) - 1)) (b := nb bs ((tof bs i) + ((4 * (nb bs (tof bs i))) - 1))) (nb_sl (by omega))) ?_
              refine dq rfl (q_move rfl) ?_
              refine dq rfl (q_move rfl) ?_
              refine dq rfl (q_slice (lo := 4 * (nb bs (tof bs i))) (hi := n - (tof bs i)) rfl Tryz.underlying22 nagg_5 (.inr ⟨_, _, rfl, rfl⟩) (.inl ⟨rfl, rfl⟩) (by have := nb_lt bs (tof bs i); omega) (by omega)) ?_
              refine dq rfl (q_assign rfl) ?_
              refine dq rfl (q_assign rfl) ?_
              refine QL.nil ?_
              refine dend (by kernel_rfl) ?_
              refine ein ?_
              exact fun a ha w' hw => by
                obtain ⟨hp2, hs2⟩ := PSt.step hp (X := [(gtp_s14_k1 b2), (gtp_s14_k4 b6 b48 v147 A c n), (gtp_s14_k0 b48 bs)]) (Y := [(gtp_s14_k3 b146 b140 Ai ci bs i)]) (k := ⟨b140, 39, [some (.int .u64 ((nb bs (tof bs i - 1) : Nat) : Int))], true⟩) (B := [Byt A n c bs]) (r := []) (cnt := 1) (cap := 1) (xs := [nb bs (tof bs i - 1)]) (lo := 1) (hi := (4 * (nb bs (tof bs i))) - 1) (sz := 4 * (nb bs (tof bs i))) hw (by omega) rfl rfl (Nat.le_refl _) rfl hr147 (by omega) (by omega) (by omega) (by omega) (pdt (lc rfl rfl) (by omega) (by omega))
                exact eround2 ⟨(i + 1, _, _, _, _, _), hp2⟩ (show N - (i + 1) < N - i by omega) (ha.sub ⟨rfl, rfl, slc (n' := n - tof bs (i + 1)) (by omega), nbc (n' := tof bs (i + 1) - 1) (by omega), trivial⟩) hs2
            · refine dop rfl (l_buildSliceT (K := [(gtp_s14_k1 b2), (gtp_s14_k2 b6 b48 v A c n), (gtp_s14_k0 b48 bs), ⟨b140, 39, [some (.int .u64 ((nb bs (tof bs i - 1) : Nat) : Int))], true⟩]) (Kr := Kr) (e := 49) (vs := [(0, (.agg #[(.slice (some ⟨b140, 0, none⟩) 1 1), (.slice (cutA Ai ci 1) (((4 * (nb bs (tof bs i))) - 1) - 1) (ci - 1))]))]) (cs := [(.slice (some ⟨b140, 0, none⟩) 1 1), (.slice (cutA Ai ci 1) (((4 * (nb bs (tof bs i))) - 1) - 1) (ci - 1))]) (by decide) rfl (fun _ => by kernel_rfl) fun b146 => ⟨(fun _ h => (St.wk (St.untail (K := [(gtp_s14_k1 b2), (gtp_s14_k2 b6 b48 v A c n), (gtp_s14_k0 b48 bs), ⟨b140, 39, [some (.int .u64 ((nb bs (tof bs i - 1) : Nat) : Int))], true⟩, (gtp_s14_k3 b146 b140 Ai ci bs i)]) (Kr := Kr) h) [(0, []), (1, [2]), (2, [])] rfl)), ?_⟩)
              refine RG.step1 1 (by kernel_rfl) ?_
              refine dop rfl (l_q _ (by simp) (St.closed _ _ _ _) (q_load (b := b6) (off := 2) (j := 1) rfl nagg_27 (fun _ h => h) rfl rfl rfl) ⟨(fun _ h => (St.wk (St.untail (K := [(gtp_s14_k1 b2), (gtp_s14_k2 b6 b48 v A c n), (gtp_s14_k0 b48 bs), ⟨b140, 39, [some (.int .u64 ((nb bs (tof bs i - 1) : Nat) : Int))], true⟩, (gtp_s14_k3 b146 b140 Ai ci bs i)]) (Kr := Kr) h) [(0, []), (1, [2]), (2, [])] rfl)), ?_⟩)
              refine RG.step1 11 (by kernel_rfl) ?_
              refine dop rfl (l_appendR2 (K0 := [(gtp_s14_k1 b2), (gtp_s14_k2 b6 b48 v A c n), (gtp_s14_k0 b48 bs), ⟨b140, 39, [some (.int .u64 ((nb bs (tof bs i - 1) : Nat) : Int))], true⟩, (gtp_s14_k3 b146 b140 Ai ci bs i)]) (Kr := Kr) (k := i) (xs := (psV ps)) (jq := 4) (news := [(.slice (some ⟨b140, 0, none⟩) 1 1), (.slice (cutA Ai ci 1) (((4 * (nb bs (tof bs i))) - 1) - 1) (ci - 1))]) (by decide) rfl rfl Tryz.underlying27 rowT_49 (by decide) hr (by have := hil; omega) rfl rfl (by simp [Value.one1]) fun v147 Kr147 hr147 => ⟨(fun _ h => (St.wk (St.untail (K := [(gtp_s14_k1 b2), (gtp_s14_k2 b6 b48 v A c n), (gtp_s14_k0 b48 bs), ⟨b140, 39, [some (.int .u64 ((nb bs (tof bs i - 1) : Nat) : Int))], true⟩, (gtp_s14_k3 b146 b140 Ai ci bs i)]) (Kr := Kr147) h) [(0, []), (1, [2]), (2, [])] rfl)), ?_⟩)
              refine dtake (f := 1) [12] (by kernel_rfl) (St.closed _ _ _ _) (fun _ h => (St.wk (St.untail (K := [(gtp_s14_k1 b2), (gtp_s14_k2 b6 b48 v A c n), (gtp_s14_k0 b48 bs), ⟨b140, 39, [some (.int .u64 ((nb bs (tof bs i - 1) : Nat) : Int))], true⟩, (gtp_s14_k3 b146 b140 Ai ci bs i)]) (Kr := Kr147) h) [(0, []), (1, [2]), (2, [])] rfl)) (by kernel_rfl) ?_
              refine dq rfl (q_field (b := b6) (off := 0) rfl fo_29_2) ?_
              refine QL.nil ?_
              refine RG.step1 13 (by kernel_rfl) ?_
              refine dop rfl (l_store (b := b6) (off := 2) (j := 1) rfl rfl nagg_27 hr147.one rfl rfl rfl (dlt rfl) ⟨(fun _ h => (St.wk (St.untail (K := [(gtp_s14_k1 b2), (gtp_s14_k4 b6 b48 v147 A c n), (gtp_s14_k0 b48 bs), ⟨b140, 39, [some (.int .u64 ((nb bs (tof bs i - 1) : Nat) : Int))], true⟩, (gtp_s14_k3 b146 b140 Ai ci bs i)]) (Kr := Kr147) h) [(0, []), (1, [2]), (2, [])] rfl)), ?_⟩)
              refine dend (by kernel_rfl) ?_
              refine eseq ?_
              refine HT.norm ([(gtp_s14_k1 b2), (gtp_s14_k4 b6 b48 v147 A c n), (gtp_s14_k0 b48 bs), ⟨b140, 39, [some (.int .u64 ((nb bs (tof bs i - 1) : Nat) : Int))], true⟩, (gtp_s14_k3 b146 b140 Ai ci bs i)] ++ Kr147) [Byt A n c bs, Byt Ai (n - (tof bs i)) ci (sl bs (tof bs i) n), psF ps] rfl rfl ?_
              refine HT.drawn mixed (St.closed _ _ _ _) (St w [] [(gtp_s14_k1 b2), (gtp_s14_k4 b6 b48 v147 A c n), (gtp_s14_k0 b48 bs), ⟨b140, 39, [some (.int .u64 ((nb bs (tof bs i - 1) : Nat) : Int))], true⟩, (gtp_s14_k3 b146 b140 Ai ci bs i)] [Byt A n c bs, Byt Ai (n - (tof bs i)) ci (sl bs (tof bs i) n), psF ps]) ?_
              refine dtake (f := 0) [0, 1, 2, 3, 4, 5, 6, 7, 8, 9] (by kernel_rfl) (St.closed _ _ _ _) (fun _ h => (St.untail (K := [(gtp_s14_k1 b2), (gtp_s14_k4 b6 b48 v147 A c n), (gtp_s14_k0 b48 bs), ⟨b140, 39, [some (.int .u64 ((nb bs (tof bs i - 1) : Nat) : Int))], true⟩, (gtp_s14_k3 b146 b140 Ai ci bs i)]) (Kr := Kr147) h)) (by kernel_rfl) ?_
              refine dq rfl (q_move rfl) ?_
              refine dq rfl (q_move rfl) ?_
              refine dq rfl (q_sub (p := 4 * (nb bs (tof bs i))) (q := 1) rfl rfl (by have := nb_lt bs (tof bs i); omega) (show 4 * (nb bs (tof bs i)) < 9223372036854775808 by have := nb_lt bs (tof bs i); omega)) ?_
              refine dq rfl (q_index (i := (4 * (nb bs (tof bs i))) - 1) (j := 1) rfl rfl Tryz.underlying22 nagg_5 (fun _ h => h) rfl (by have := nb_lt bs (tof bs i); omega)) ?_
              refine dq rfl (q_N (q_byte (i := (4 * (nb bs (tof bs i))) - 1) (j := 1) rfl nagg_5 (fun _ h => h) rfl (by have := nb_lt bs (tof bs i); omega)) (a := nb (sl bs (tof bs i) n) ((4 * (nb bs (tof bs i))) - 1)) (b := nb bs ((tof bs i) + ((4 * (nb bs (tof bs i))) - 1))) (nb_sl (by omega))) ?_
              refine dq rfl (q_move rfl) ?_
              refine dq rfl (q_move rfl) ?_
              refine dq rfl (q_slice (lo := 4 * (nb bs (tof bs i))) (hi := n - (tof bs i)) rfl Tryz.underlying22 nagg_5 (.inr ⟨_, _, rfl, rfl⟩) (.inl ⟨rfl, rfl⟩) (by have := nb_lt bs (tof bs i); omega) (by omega)) ?_
              refine dq rfl (q_assign rfl) ?_
              refine dq rfl (q_assign rfl) ?_
              refine QL.nil ?_
              refine dend (by kernel_rfl) ?_
              refine ein ?_
              exact fun a ha w' hw => by
                obtain ⟨hp2, hs2⟩ := PSt.step hp (X := [(gtp_s14_k1 b2), (gtp_s14_k4 b6 b48 v147 A c n), (gtp_s14_k0 b48 bs)]) (Y := [(gtp_s14_k3 b146 b140 Ai ci bs i)]) (k := ⟨b140, 39, [some (.int .u64 ((nb bs (tof bs i - 1) : Nat) : Int))], true⟩) (B := [Byt A n c bs]) (r := []) (cnt := 1) (cap := 1) (xs := [nb bs (tof bs i - 1)]) (lo := 1) (hi := (4 * (nb bs (tof bs i))) - 1) (sz := 4 * (nb bs (tof bs i))) hw (by omega) rfl rfl (Nat.le_refl _) rfl hr147 (by omega) (by omega) (by omega) (by omega) (pdt (lc rfl rfl) (by omega) (by omega))
                exact eround2 ⟨(i + 1, _, _, _, _, _), hp2⟩ (show N - (i + 1) < N - i by omega) (ha.sub ⟨rfl, rfl, slc (n' := n - tof bs (i + 1)) (by omega), nbc (n' := tof bs (i + 1) - 1) (by omega), trivial⟩) hs2

theorem gtp_S14 (w : World) (A : Option Addr) (n : Nat) (c : Nat) (bs : List UInt8) (N : Nat) (hn : n ≤ 2147483647) (ha : 8 ≤ n) (hb : bN bs 2 2 ≤ n - 8) (hc : 12 ≤ n) (hd : 4 ≤ bN bs 2 2) (he : nb bs 0 % 8 = 7) (hf : nb bs 11 ≠ 0) (hg : ∀ i, i < N → nb bs (tof bs i - 1) ≠ 0 ∧ tof bs i < n ∧ nb bs (tof bs i) ≠ 0 ∧ tof bs i + 4 * nb bs (tof bs i) ≤ n) (hh : nb bs (tof bs N - 1) ≠ 0) (hi : n ≤ tof bs N ∨ nb bs (tof bs N) = 0 ∨ n < tof bs N + 4 * nb bs (tof bs N)) (hst : St w [] [] [Byt A n c bs] w) : Calls Tryz.prog 26 #[(.string ⟨#[103, 116, 112]⟩), (.slice A n c)] w (SP w (Byt A n c bs) none) := by
  have hnc00 : n ≤ c := (hst.fact (j := 0) rfl).2.1
  refine enter (vs := [(.string ⟨#[103, 116, 112]⟩), (.slice A n c)]) Tryz.func26 rfl rfl rfl hst ?_
  refine HT.seq ?_
  refine HT.plain ?_
  refine sl_ (l_alloc (by decide) zero_29 fun b4 => ?_)
  refine sAs rfl rfl ?_
  refine sAs rfl rfl ?_
  refine send ?_
  refine eseq ?_
  refine HT.seq ?_
  refine HT.plain ?_
  refine sl_ (l_makeMap (by decide) fun b13 => ?_)
  refine sl_ (l_insert (es := es0) (ck := 0) rfl rfl rfl Tryz.underlying36 Tryz.underlying9 fi0 ?_)
  refine sl_ (l_insert (es := es1) (ck := 1) rfl rfl rfl Tryz.underlying36 Tryz.underlying9 fi1 ?_)
  refine sl_ (l_insert (es := es2) (ck := 2) rfl rfl rfl Tryz.underlying36 Tryz.underlying9 fi2 ?_)
  refine sl_ (l_insert (es := es3) (ck := 3) rfl rfl rfl Tryz.underlying36 Tryz.underlying9 fi3 ?_)
  refine sl_ (l_insert (es := es4) (ck := 4) rfl rfl rfl Tryz.underlying36 Tryz.underlying9 fi4 ?_)
  refine sl_ (l_insert (es := es5) (ck := 5) rfl rfl rfl Tryz.underlying36 Tryz.underlying9 fi5 ?_)
  refine sl_ (l_insert (es := es6) (ck := 6) rfl rfl rfl Tryz.underlying36 Tryz.underlying9 fi6 ?_)
  refine sl_ (l_insert (es := es7) (ck := 7) rfl rfl rfl Tryz.underlying36 Tryz.underlying9 fi7 ?_)
  refine sl_ (l_insert (es := es8) (ck := 8) rfl rfl rfl Tryz.underlying36 Tryz.underlying9 fi8 ?_)
  refine sl_ (l_insert (es := es9) (ck := 9) rfl rfl rfl Tryz.underlying36 Tryz.underlying9 fi9 ?_)
  refine sl_ (l_insert (es := es10) (ck := 10) rfl rfl rfl Tryz.underlying36 Tryz.underlying9 fi10 ?_)
  refine sl_ (l_insert (es := es11) (ck := 11) rfl rfl rfl Tryz.underlying36 Tryz.underlying9 fi11 ?_)
  refine sl_ (l_insert (es := es12) (ck := 12) rfl rfl rfl Tryz.underlying36 Tryz.underlying9 fi12 ?_)
  refine sl_ (l_insert (es := es13) (ck := 13) rfl rfl rfl Tryz.underlying36 Tryz.underlying9 fi13 ?_)
  refine sl_ (l_insert (es := es14) (ck := 14) rfl rfl rfl Tryz.underlying36 Tryz.underlying9 fi14 ?_)
  refine sl_ (l_insert (es := es15) (ck := 15) rfl rfl rfl Tryz.underlying36 Tryz.underlying9 fi15 ?_)
  refine sl_ (l_insert (es := es16) (ck := 16) rfl rfl rfl Tryz.underlying36 Tryz.underlying9 fi16 ?_)
  refine sl_ (l_insert (es := es17) (ck := 17) rfl rfl rfl Tryz.underlying36 Tryz.underlying9 fi17 ?_)
  refine sl_ (l_insert (es := es18) (ck := 18) rfl rfl rfl Tryz.underlying36 Tryz.underlying9 fi18 ?_)
  refine sl_ (l_insert (es := es19) (ck := 19) rfl rfl rfl Tryz.underlying36 Tryz.underlying9 fi19 ?_)
  refine sl_ (l_insert (es := es20) (ck := 20) rfl rfl rfl Tryz.underlying36 Tryz.underlying9 fi20 ?_)
  refine sq (SM.closed) (q_move rfl) rfl ?_
  refine sq (SM.closed) (q_move rfl) rfl ?_
  refine sq (SM.closed) (q_lookup (es := es21) (i := 11) (v := (.int .i64 ((8 : Nat) : Int))) (fun _ h => h) rfl rfl Tryz.underlying36 Tryz.underlying9 (by kernel_rfl)) rfl ?_
  refine sq (SM.closed) (q_assign rfl) rfl ?_
  refine send ?_
  refine eseq ?_
  refine HT.unmap ?_
  refine HT.seq ?_
  refine HT.seq ?_
  refine HT.plain ?_
  refine sMv rfl rfl ?_
  refine sqS (q_len (len := n) rfl Tryz.underlying22) rfl ?_
  refine sMv rfl rfl ?_
  refine sqS (q_F (q_lt (p := n) (q := 8) rfl rfl) (by omega)) rfl ?_
  refine send ?_
  refine eseq ?_
  refine HT.no rfl ?_
  refine HT.skip ?_
  refine eseq ?_
  refine HT.seq ?_
  refine HT.seq ?_
  refine HT.plain ?_
  refine sMv rfl rfl ?_
  refine send ?_
  refine eseq ?_
  refine HT.block ?_
  refine HT.seq ?_
  refine HT.plain ?_
  refine sqS (q_eqs rfl rfl (r := false) (by kernel_rfl)) rfl ?_
  refine sAs rfl rfl ?_
  refine send ?_
  refine eseq ?_
  refine HT.no rfl ?_
  refine HT.seq ?_
  refine HT.plain ?_
  refine sqS (q_eqs rfl rfl (r := false) (by kernel_rfl)) rfl ?_
  refine sAs rfl rfl ?_
  refine send ?_
  refine eseq ?_
  refine HT.no rfl ?_
  refine HT.seq ?_
  refine HT.plain ?_
  refine sqS (q_eqs rfl rfl (r := false) (by kernel_rfl)) rfl ?_
  refine sAs rfl rfl ?_
  refine send ?_
  refine eseq ?_
  refine HT.no rfl ?_
  refine HT.seq ?_
  refine HT.plain ?_
  refine sqS (q_eqs rfl rfl (r := false) (by kernel_rfl)) rfl ?_
  refine sAs rfl rfl ?_
  refine send ?_
  refine eseq ?_
  refine HT.no rfl ?_
  refine HT.seq ?_
  refine HT.plain ?_
  refine sqS (q_eqs rfl rfl (r := false) (by kernel_rfl)) rfl ?_
  refine sAs rfl rfl ?_
  refine send ?_
  refine eseq ?_
  refine HT.no rfl ?_
  refine HT.seq ?_
  refine HT.plain ?_
  refine sqS (q_eqs rfl rfl (r := false) (by kernel_rfl)) rfl ?_
  refine sAs rfl rfl ?_
  refine send ?_
  refine eseq ?_
  refine HT.no rfl ?_
  refine HT.seq ?_
  refine HT.plain ?_
  refine sqS (q_eqs rfl rfl (r := false) (by kernel_rfl)) rfl ?_
  refine sAs rfl rfl ?_
  refine send ?_
  refine eseq ?_
  refine HT.no rfl ?_
  refine HT.seq ?_
  refine HT.plain ?_
  refine sqS (q_eqs rfl rfl (r := false) (by kernel_rfl)) rfl ?_
  refine sAs rfl rfl ?_
  refine send ?_
  refine eseq ?_
  refine HT.no rfl ?_
  refine HT.seq ?_
  refine HT.plain ?_
  refine sqS (q_eqs rfl rfl (r := false) (by kernel_rfl)) rfl ?_
  refine sAs rfl rfl ?_
  refine send ?_
  refine eseq ?_
  refine HT.no rfl ?_
  refine HT.seq ?_
  refine HT.plain ?_
  refine sqS (q_eqs rfl rfl (r := false) (by kernel_rfl)) rfl ?_
  refine sAs rfl rfl ?_
  refine send ?_
  refine eseq ?_
  refine HT.no rfl ?_
  refine HT.seq ?_
  refine HT.plain ?_
  refine sqS (q_eqs rfl rfl (r := false) (by kernel_rfl)) rfl ?_
  refine sAs rfl rfl ?_
  refine send ?_
  refine eseq ?_
  refine HT.no rfl ?_
  refine HT.seq ?_
  refine HT.plain ?_
  refine sqS (q_eqs rfl rfl (r := true) (by kernel_rfl)) rfl ?_
  refine sAs rfl rfl ?_
  refine send ?_
  refine eseq ?_
  refine HT.yes rfl ?_
  refine HT.seq ?_
  refine HT.plain ?_
  refine sMv rfl rfl ?_
  refine sl_ (l_callX (ι := BI × BI × BI × BI) (vs := [(.slice A n c)]) (Kc := []) (Bc := [Byt A n c bs]) (K' := fun _ => [⟨b4, 29, [some (.slice none 0 0), some (.slice none 0 0), some (.slice none 0 0), some (.slice none 0 0)], true⟩]) [] [0] (by decide) rfl ca_40 rfl (fun _ h => h) rfl rfl rfl (fun w h => gtp_s14 w A n c bs N (by omega) (by omega) (by omega) (by omega) (by omega) (by omega) (by omega) hg (by omega) (by omega) h) (fun _ => rfl) (fun _ => rfl) (fun _ => rfl) fun u _ _ => ?_)
  refine sqS (q_extract (vs := [(.agg #[(.slice u.1.A u.1.n u.1.c), (.slice u.2.1.A u.2.1.n u.2.1.c), (.slice u.2.2.1.A u.2.2.1.n u.2.2.1.c), (.slice u.2.2.2.A u.2.2.2.n u.2.2.2.c)]), (.bool false), (.bool false)]) (i := 0) rfl rfl) rfl ?_
  refine sqS (q_extract (vs := [(.agg #[(.slice u.1.A u.1.n u.1.c), (.slice u.2.1.A u.2.1.n u.2.1.c), (.slice u.2.2.1.A u.2.2.1.n u.2.2.1.c), (.slice u.2.2.2.A u.2.2.2.n u.2.2.2.c)]), (.bool false), (.bool false)]) (i := 1) rfl rfl) rfl ?_
  refine sqS (q_extract (vs := [(.agg #[(.slice u.1.A u.1.n u.1.c), (.slice u.2.1.A u.2.1.n u.2.1.c), (.slice u.2.2.1.A u.2.2.1.n u.2.2.1.c), (.slice u.2.2.2.A u.2.2.2.n u.2.2.2.c)]), (.bool false), (.bool false)]) (i := 2) rfl rfl) rfl ?_
  refine sl_ (l_storeAgg (b := b4) (off := 0) (j := 0) (vs := [(.slice u.1.A u.1.n u.1.c), (.slice u.2.1.A u.2.1.n u.2.1.c), (.slice u.2.2.1.A u.2.2.1.n u.2.2.1.c), (.slice u.2.2.2.A u.2.2.2.n u.2.2.2.c)]) rfl rfl aggs_29 (by simp [Value.one1]) rfl rfl rfl (Nat.le_of_ble_eq_true rfl) ?_)
  refine sAs rfl rfl ?_
  refine sAs rfl rfl ?_
  refine send ?_
  refine eseq ?_
  refine HT.ret ?_
  refine rt_in ?_
  refine rt_then ?_
  exact fun a ha w' hw => fin_ ha (resc3 ha Tryz.results26 rfl (ld_ aggs_29 hw (j := 0) rfl rfl (vs := [(.slice u.1.A u.1.n u.1.c), (.slice u.2.1.A u.2.1.n u.2.1.c), (.slice u.2.2.1.A u.2.2.1.n u.2.2.1.c), (.slice u.2.2.2.A u.2.2.2.n u.2.2.2.c)]) rfl) rfl rfl) ⟨⟨u.1.A, u.1.n, u.1.c, []⟩, ⟨u.2.1.A, u.2.1.n, u.2.1.c, []⟩, ⟨u.2.2.1.A, u.2.2.1.n, u.2.2.1.c, []⟩, ⟨u.2.2.2.A, u.2.2.2.n, u.2.2.2.c, []⟩, false, rfl, hw.pres⟩
end Go.Proofs.YtfkaafbeeegenaaGreat.Zed
