/- gtp: the package, case 3 -/
import Derived.Test.YtfkaafbeeegenaaGreatGtp0
import Derived.KernelRfl
namespace Go.Proofs.YtfkaafbeeegenaaGreat.Zed
set_option linter.unusedVariables false
set_option linter.unusedSimpArgs false
set_option maxRecDepth 100000
set_option maxHeartbeats 4000000


theorem gtp_q3 (w : World) (A : Option Addr) (n : Nat) (c : Nat) (bs : List UInt8) (N : Nat) (hn : n ≤ 400) (ha : 8 ≤ n) (hb : n - 8 < bN bs 2 2) (hc : bN bs 2 2 < 65528) (hd : 12 ≤ n) (he : nb bs 0 / 4 % 2 = 1) (hf : ∀ i, i < N → tof bs i < n ∧ nb bs (tof bs i) ≠ 0 ∧ tof bs i + 4 * nb bs (tof bs i) ≤ n ∧ nb bs (tof bs (i + 1) - 1) ≠ 0) (hg : n ≤ tof bs N) (hst : St w [] [] [Byt A n c bs] w) : Calls Tryz.prog 65 #[(.slice A n c)] w (fun e w' => e = .returned (.bool false) ∧ Pres [] w w') := by
  have hnc00 : n ≤ c := (hst.fact (j := 0) rfl).2.1
  refine enter (vs := [(.slice A n c)]) Tryz.func65 rfl rfl rfl hst ?_
  refine HT.seq ?_
  refine HT.plain ?_
  refine sAs rfl rfl ?_
  refine send ?_
  refine eseq ?_
  refine HT.seq ?_
  refine HT.seq ?_
  refine HT.plain ?_
  refine sMv rfl rfl ?_
  refine sqS (q_len (len := n) rfl Tryz.underlying22) rfl ?_
  refine sqS (q_F (q_lt (p := n) (q := 12) rfl rfl) (by omega)) rfl ?_
  refine sMv rfl rfl ?_
  refine sgqS rfl (q_move rfl) rfl ?_
  refine sgqS rfl (q_index (i := 0) (j := 0) rfl rfl Tryz.underlying22 nagg_5 (fun _ h => h) rfl (by omega)) rfl ?_
  refine sgqS rfl (q_byte (i := 0) (j := 0) rfl nagg_5 (fun _ h => h) rfl (by omega)) rfl ?_
  refine sgqS rfl (q_and (p := nb bs 0) (q := 4) rfl rfl rfl (show nb bs 0 < 256 by have := nb_lt bs 0; omega) (by decide)) rfl ?_
  refine sgqS rfl (q_F (q_eq (p := (nb bs 0) &&& 4) (q := 0) rfl rfl) (by have := nb_lt bs 0; have := zb4 (nb bs 0); have := Nat.and_le_left (n := nb bs 0) (m := 4); have := Nat.and_le_right (n := nb bs 0) (m := 4); omega)) rfl ?_
  refine sqS (q_pick rfl (fun h => nomatch h) (fun _ => rfl)) rfl ?_
  refine send ?_
  refine eseq ?_
  refine HT.no rfl ?_
  refine HT.skip ?_
  refine eseq ?_
  refine HT.seq ?_
  refine HT.plain ?_
  refine sAs rfl rfl ?_
  refine send ?_
  refine eseq ?_
  refine HT.block ?_
  refine HT.loop (ι := {p : Nat // p ≤ N}) (fun p => [(0, (.slice A n c)), (3, (.int .i64 ((tof bs p.1 : Nat) : Int)))]) (fun p => St w [] [] [Byt A n c bs]) (fun p => N - p.1) ⟨0, by omega⟩ ⟨rfl, rfl, trivial⟩ (fun _ h => h) fun ⟨i, hil⟩ => ?_
  have ho := tof_succ bs i
  have hge := tof_ge bs i
  have hal := tof_allE (by omega) hf i (by omega)
  have hc := hf i
  have hz : i = N → n ≤ tof bs i := fun e => by rw [e]; exact hg
  have hk : nb bs (tof bs (i + 1) - 1) = nb bs ((tof bs i + ((nb bs (tof bs i)) * 4)) - 1) := congrArg (nb bs) (by omega)
  show HT _ _ _ [(0, (.slice A n c)), (3, (.int .i64 ((tof bs i : Nat) : Int)))] (St w [] [] [Byt A n c bs]) _
  refine HT.block ?_
  refine HT.seq ?_
  refine HT.seq ?_
  refine HT.plain ?_
  refine sMv rfl rfl ?_
  refine sMv rfl rfl ?_
  refine sqS (q_len (len := n) rfl Tryz.underlying22) rfl ?_
  by_cases h1 : n ≤ tof bs i
  · refine sqS (q_T (q_ge (p := tof bs i) (q := n) rfl rfl) h1) rfl ?_
    refine send ?_
    refine eseq ?_
    refine HT.yes rfl ?_
    refine HT.seq ?_
    refine HT.plain ?_
    refine sAs rfl rfl ?_
    refine send ?_
    refine eseq ?_
    refine HT.ret ?_
    refine rt_then ?_
    refine rt_in ?_
    refine rt_then ?_
    refine rt_in ?_
    exact fun a ha w' hw => fin_ ha (res1 ha Tryz.results65 rfl) ⟨rfl, hw.pres⟩
  · refine sqS (q_F (q_ge (p := tof bs i) (q := n) rfl rfl) h1) rfl ?_
    refine send ?_
    refine eseq ?_
    refine HT.no rfl ?_
    refine HT.skip ?_
    refine eseq ?_
    refine HT.seq ?_
    refine HT.plain ?_
    refine sMv rfl rfl ?_
    refine sMv rfl rfl ?_
    refine sqS (q_index (i := tof bs i) (j := 0) rfl rfl Tryz.underlying22 nagg_5 (fun _ h => h) rfl (by omega)) rfl ?_
    refine sqS (q_byte (i := tof bs i) (j := 0) rfl nagg_5 (fun _ h => h) rfl (by omega)) rfl ?_
    refine sqS (q_convn (p := nb bs (tof bs i)) rfl Tryz.underlying5 Tryz.underlying3 (show nb bs (tof bs i) < 9223372036854775808 by have := nb_lt bs (tof bs i); omega)) rfl ?_
    refine sqS (q_mul (p := nb bs (tof bs i)) (q := 4) rfl rfl (show (nb bs (tof bs i)) * 4 < 9223372036854775808 by have := nb_lt bs (tof bs i); omega)) rfl ?_
    refine sAs rfl rfl ?_
    refine send ?_
    refine eseq ?_
    refine HT.seq ?_
    refine HT.seq ?_
    refine HT.plain ?_
    refine sMv rfl rfl ?_
    refine sqS (q_F (q_eq (p := (nb bs (tof bs i)) * 4) (q := 0) rfl rfl) (by have := nb_lt bs (tof bs i); omega)) rfl ?_
    refine sMv rfl rfl ?_
    refine sgqS rfl (q_move rfl) rfl ?_
    refine sgqS rfl (q_move rfl) rfl ?_
    refine sgqS rfl (q_add (p := tof bs i) (q := (nb bs (tof bs i)) * 4) rfl rfl (show (tof bs i) + ((nb bs (tof bs i)) * 4) < 9223372036854775808 by have := nb_lt bs (tof bs i); omega)) rfl ?_
    refine sgqS rfl (q_move rfl) rfl ?_
    refine sgqS rfl (q_len (len := n) rfl Tryz.underlying22) rfl ?_
    refine sgqS rfl (q_F (q_gt (p := (tof bs i) + ((nb bs (tof bs i)) * 4)) (q := n) rfl rfl) (by have := nb_lt bs (tof bs i); omega)) rfl ?_
    refine sqS (q_pick rfl (fun h => nomatch h) (fun _ => rfl)) rfl ?_
    refine send ?_
    refine eseq ?_
    refine HT.no rfl ?_
    refine HT.skip ?_
    refine eseq ?_
    refine HT.seq ?_
    refine HT.plain ?_
    refine sMv rfl rfl ?_
    refine sMv rfl rfl ?_
    refine sqS (q_add (p := tof bs i) (q := (nb bs (tof bs i)) * 4) rfl rfl (show (tof bs i) + ((nb bs (tof bs i)) * 4) < 9223372036854775808 by have := nb_lt bs (tof bs i); omega)) rfl ?_
    refine sAs rfl rfl ?_
    refine send ?_
    refine eseq ?_
    refine HT.seq ?_
    refine HT.plain ?_
    refine sMv rfl rfl ?_
    refine sMv rfl rfl ?_
    refine sqS (q_sub (p := (tof bs i) + ((nb bs (tof bs i)) * 4)) (q := 1) rfl rfl (by have := nb_lt bs (tof bs i); omega) (show (tof bs i) + ((nb bs (tof bs i)) * 4) < 9223372036854775808 by have := nb_lt bs (tof bs i); omega)) rfl ?_
    refine sqS (q_index (i := ((tof bs i) + ((nb bs (tof bs i)) * 4)) - 1) (j := 0) rfl rfl Tryz.underlying22 nagg_5 (fun _ h => h) rfl (by have := nb_lt bs (tof bs i); omega)) rfl ?_
    refine sqS (q_byte (i := ((tof bs i) + ((nb bs (tof bs i)) * 4)) - 1) (j := 0) rfl nagg_5 (fun _ h => h) rfl (by have := nb_lt bs (tof bs i); omega)) rfl ?_
    refine sqS (q_F (q_eq (p := nb bs (((tof bs i) + ((nb bs (tof bs i)) * 4)) - 1)) (q := 0) rfl rfl) (by have := nb_lt bs (((tof bs i) + ((nb bs (tof bs i)) * 4)) - 1); omega)) rfl ?_
    refine send ?_
    refine eseq ?_
    refine HT.no rfl ?_
    refine HT.skip ?_
    refine ein ?_
    exact eround ⟨i + 1, by omega⟩ (show N - (i + 1) < N - i by omega) ⟨rfl, inc (n' := tof bs (i + 1)) (by omega), trivial⟩ (fun _ h => h)

theorem gtp_c3 (w : World) (A : Option Addr) (n : Nat) (c : Nat) (bs : List UInt8) (N : Nat) (hn : n ≤ 400) (ha : 8 ≤ n) (hb : n - 8 < bN bs 2 2) (hc : bN bs 2 2 < 65528) (hd : 12 ≤ n) (he : nb bs 0 / 4 % 2 = 1) (hf : ∀ i, i < N → tof bs i < n ∧ nb bs (tof bs i) ≠ 0 ∧ tof bs i + 4 * nb bs (tof bs i) ≤ n ∧ nb bs (tof bs (i + 1) - 1) ≠ 0) (hg : n ≤ tof bs N) (hst : St w [] [] [Byt A n c bs] w) : Calls Tryz.prog 57 #[(.string ⟨#[103, 116, 112]⟩), (.slice A n c)] w (fun e w' => e = .returned (.bool false) ∧ Pres [] w w') := by
  have hnc00 : n ≤ c := (hst.fact (j := 0) rfl).2.1
  refine enter (vs := [(.string ⟨#[103, 116, 112]⟩), (.slice A n c)]) Tryz.func57 rfl rfl rfl hst ?_
  refine HT.seq ?_
  refine HT.plain ?_
  refine sAs rfl rfl ?_
  refine send ?_
  refine eseq ?_
  refine HT.seq ?_
  refine HT.seq ?_
  refine HT.plain ?_
  refine sMv rfl rfl ?_
  refine send ?_
  refine eseq ?_
  refine HT.block ?_
  refine HT.seq ?_
  refine HT.plain ?_
  refine sqS (q_eqs rfl rfl (r := false) (by kernel_rfl)) rfl ?_
  refine sAs rfl rfl ?_
  refine send ?_
  refine eseq ?_
  refine HT.no rfl ?_
  refine HT.seq ?_
  refine HT.plain ?_
  refine sqS (q_eqs rfl rfl (r := false) (by kernel_rfl)) rfl ?_
  refine sAs rfl rfl ?_
  refine send ?_
  refine eseq ?_
  refine HT.no rfl ?_
  refine HT.seq ?_
  refine HT.plain ?_
  refine sqS (q_eqs rfl rfl (r := false) (by kernel_rfl)) rfl ?_
  refine sAs rfl rfl ?_
  refine send ?_
  refine eseq ?_
  refine HT.no rfl ?_
  refine HT.seq ?_
  refine HT.plain ?_
  refine sqS (q_eqs rfl rfl (r := false) (by kernel_rfl)) rfl ?_
  refine sAs rfl rfl ?_
  refine send ?_
  refine eseq ?_
  refine HT.no rfl ?_
  refine HT.seq ?_
  refine HT.plain ?_
  refine sqS (q_eqs rfl rfl (r := false) (by kernel_rfl)) rfl ?_
  refine sAs rfl rfl ?_
  refine send ?_
  refine eseq ?_
  refine HT.no rfl ?_
  refine HT.seq ?_
  refine HT.seq ?_
  refine HT.plain ?_
  refine sqS (q_eqs rfl rfl (r := false) (by kernel_rfl)) rfl ?_
  refine sAs rfl rfl ?_
  refine send ?_
  refine eseq ?_
  refine HT.no rfl ?_
  refine HT.seq ?_
  refine HT.plain ?_
  refine sqS (q_eqs rfl rfl (r := false) (by kernel_rfl)) rfl ?_
  refine sAs rfl rfl ?_
  refine send ?_
  refine eseq ?_
  refine HT.no rfl ?_
  refine HT.plain ?_
  refine sqS (q_eqs rfl rfl (r := false) (by kernel_rfl)) rfl ?_
  refine sAs rfl rfl ?_
  refine send ?_
  refine eseq ?_
  refine HT.no rfl ?_
  refine HT.seq ?_
  refine HT.plain ?_
  refine sqS (q_eqs rfl rfl (r := false) (by kernel_rfl)) rfl ?_
  refine sAs rfl rfl ?_
  refine send ?_
  refine eseq ?_
  refine HT.no rfl ?_
  refine HT.seq ?_
  refine HT.plain ?_
  refine sqS (q_eqs rfl rfl (r := false) (by kernel_rfl)) rfl ?_
  refine sAs rfl rfl ?_
  refine send ?_
  refine eseq ?_
  refine HT.no rfl ?_
  refine HT.seq ?_
  refine HT.plain ?_
  refine sqS (q_eqs rfl rfl (r := false) (by kernel_rfl)) rfl ?_
  refine sAs rfl rfl ?_
  refine send ?_
  refine eseq ?_
  refine HT.no rfl ?_
  refine HT.seq ?_
  refine HT.plain ?_
  refine sqS (q_eqs rfl rfl (r := true) (by kernel_rfl)) rfl ?_
  refine sAs rfl rfl ?_
  refine send ?_
  refine eseq ?_
  refine HT.yes rfl ?_
  refine HT.seq ?_
  refine HT.plain ?_
  refine sMv rfl rfl ?_
  refine sqS (q_call (vs := [(.slice A n c)]) (v := (.bool false)) rfl ca_65 (fun w h => gtp_q3 w A n c bs N (by omega) (by omega) (by omega) (by omega) (by omega) (by omega) hf (by omega) (St.enter (sp := []) (Kc := []) (bi := [0]) h rfl rfl rfl))) rfl ?_
  refine sAs rfl rfl ?_
  refine send ?_
  refine eseq ?_
  refine HT.ret ?_
  refine rt_in ?_
  refine rt_then ?_
  exact fun a ha w' hw => fin_ ha (res1 ha Tryz.results57 rfl) ⟨rfl, hw.pres⟩

theorem gtp_e3 (w : World) (A : Option Addr) (n : Nat) (c : Nat) (bs : List UInt8) (N : Nat) (hn : n ≤ 400) (ha : 8 ≤ n) (hb : n - 8 < bN bs 2 2) (hc : bN bs 2 2 < 65528) (hd : 12 ≤ n) (he : nb bs 0 / 4 % 2 = 1) (hf : ∀ i, i < N → tof bs i < n ∧ nb bs (tof bs i) ≠ 0 ∧ tof bs i + 4 * nb bs (tof bs i) ≤ n ∧ nb bs (tof bs (i + 1) - 1) ≠ 0) (hg : n ≤ tof bs N) (hst : St w [] [] [Byt A n c bs] w) : Calls Tryz.prog 46 #[(.string ⟨#[103, 116, 112]⟩), (.slice A n c)] w (fun e w' => e = .returned (.tuple #[.nilIface, (.bool false)]) ∧ Pres [] w w') := by
  have hnc00 : n ≤ c := (hst.fact (j := 0) rfl).2.1
  refine enter (vs := [(.string ⟨#[103, 116, 112]⟩), (.slice A n c)]) Tryz.func46 rfl rfl rfl hst ?_
  refine HT.seq ?_
  refine HT.plain ?_
  refine sAs rfl rfl ?_
  refine sAs rfl rfl ?_
  refine send ?_
  refine eseq ?_
  refine HT.seq ?_
  refine HT.seq ?_
  refine HT.plain ?_
  refine sMv rfl rfl ?_
  refine sqS (q_len (len := n) rfl Tryz.underlying22) rfl ?_
  refine sqS (q_F (q_gt (p := n) (q := 2000) rfl rfl) (by omega)) rfl ?_
  refine send ?_
  refine eseq ?_
  refine HT.no rfl ?_
  refine HT.skip ?_
  refine eseq ?_
  refine HT.seq ?_
  refine HT.plain ?_
  refine sMv rfl rfl ?_
  refine sAs rfl rfl ?_
  refine send ?_
  refine eseq ?_
  refine HT.seq ?_
  refine HT.seq ?_
  refine HT.plain ?_
  refine sMv rfl rfl ?_
  refine sqS (q_eqs rfl rfl (r := false) (by kernel_rfl)) rfl ?_
  refine sMv rfl rfl ?_
  refine sgqS rfl (q_move rfl) rfl ?_
  refine sgqS rfl (q_eqs rfl rfl (r := false) (by kernel_rfl)) rfl ?_
  refine sqS (q_pick rfl (fun h => nomatch h) (fun _ => rfl)) rfl ?_
  refine send ?_
  refine eseq ?_
  refine HT.no rfl ?_
  refine HT.seq ?_
  refine HT.plain ?_
  refine sMv rfl rfl ?_
  refine sqS (q_eqs rfl rfl (r := false) (by kernel_rfl)) rfl ?_
  refine send ?_
  refine eseq ?_
  refine HT.no rfl ?_
  refine HT.skip ?_
  refine eseq ?_
  refine HT.seq ?_
  refine HT.seq ?_
  refine HT.plain ?_
  refine sMv rfl rfl ?_
  refine sMv rfl rfl ?_
  refine sqS (q_call (vs := [(.string ⟨#[103, 116, 112]⟩), (.slice A n c)]) (v := (.bool false)) rfl ca_57 (fun w h => gtp_c3 w A n c bs N (by omega) (by omega) (by omega) (by omega) (by omega) (by omega) hf (by omega) (St.enter (sp := []) (Kc := []) (bi := [0]) h rfl rfl rfl))) rfl ?_
  refine sqS (q_not rfl) rfl ?_
  refine send ?_
  refine eseq ?_
  refine HT.yes rfl ?_
  refine HT.seq ?_
  refine HT.plain ?_
  refine sAs rfl rfl ?_
  refine sAs rfl rfl ?_
  refine send ?_
  refine eseq ?_
  refine HT.ret ?_
  refine rt_then ?_
  exact fun a ha w' hw => fin_ ha (res2 ha Tryz.results46 rfl rfl) ⟨rfl, hw.pres⟩

theorem gtp_I3 (w : World) (A : Option Addr) (n : Nat) (c : Nat) (bs : List UInt8) (N : Nat) (hn : n ≤ 400) (ha : 8 ≤ n) (hb : n - 8 < bN bs 2 2) (hc : bN bs 2 2 < 65528) (hd : 12 ≤ n) (he : nb bs 0 / 4 % 2 = 1) (hf : ∀ i, i < N → tof bs i < n ∧ nb bs (tof bs i) ≠ 0 ∧ tof bs i + 4 * nb bs (tof bs i) ≤ n ∧ nb bs (tof bs (i + 1) - 1) ≠ 0) (hg : n ≤ tof bs N) (hst : St w [] [] [Byt A n c bs] w) : Calls Tryz.prog 27 #[(.string ⟨#[103, 116, 112]⟩), (.slice A n c)] w (IP w (Byt A n c bs) (some none)) := by
  have hnc00 : n ≤ c := (hst.fact (j := 0) rfl).2.1
  refine enter (vs := [(.string ⟨#[103, 116, 112]⟩), (.slice A n c)]) Tryz.func27 rfl rfl rfl hst ?_
  refine HT.seq ?_
  refine HT.plain ?_
  refine sl_ (l_alloc (by decide) zero_29 fun b4 => ?_)
  refine sAs rfl rfl ?_
  refine send ?_
  refine eseq ?_
  refine HT.seq ?_
  refine HT.plain ?_
  refine sMv rfl rfl ?_
  refine sMv rfl rfl ?_
  refine sqS (q_call (vs := [(.string ⟨#[103, 116, 112]⟩), (.slice A n c)]) (v := (.tuple #[.nilIface, (.bool false)])) rfl ca_46 (fun w h => gtp_e3 w A n c bs N (by omega) (by omega) (by omega) (by omega) (by omega) (by omega) hf (by omega) (St.enter (sp := []) (Kc := []) (bi := [0]) h rfl rfl rfl))) rfl ?_
  refine sMv rfl rfl ?_
  refine sqS (q_extract (vs := [.nilIface, (.bool false)]) (i := 0) rfl rfl) rfl ?_
  refine sqS (q_extract (vs := [.nilIface, (.bool false)]) (i := 1) rfl rfl) rfl ?_
  refine sAs rfl rfl ?_
  refine sAs rfl rfl ?_
  refine send ?_
  refine eseq ?_
  refine HT.seq ?_
  refine HT.seq ?_
  refine HT.plain ?_
  refine sMv rfl rfl ?_
  refine sqS (q_not rfl) rfl ?_
  refine send ?_
  refine eseq ?_
  refine HT.yes rfl ?_
  refine HT.seq ?_
  refine HT.plain ?_
  refine sqS (q_build (vs := []) (v := (.agg #[(.slice none 0 0), (.slice none 0 0), (.slice none 0 0), (.slice none 0 0)])) rfl (fun _ => by kernel_rfl)) rfl ?_
  refine sl_ (l_storeAgg (b := b4) (off := 0) (j := 0) (vs := [(.slice none 0 0), (.slice none 0 0), (.slice none 0 0), (.slice none 0 0)]) rfl rfl aggs_29 (by simp [Value.one1]) rfl rfl rfl (Nat.le_of_ble_eq_true rfl) ?_)
  refine sAs rfl rfl ?_
  refine send ?_
  refine eseq ?_
  refine HT.ret ?_
  refine rt_then ?_
  exact fun a ha w' hw => fin_ ha (resc2 ha Tryz.results27 rfl (ld_ aggs_29 hw (j := 0) rfl rfl (vs := [(.slice none 0 0), (.slice none 0 0), (.slice none 0 0), (.slice none 0 0)]) rfl) rfl) ⟨rfl, hw.pres⟩
end Go.Proofs.YtfkaafbeeegenaaGreat.Zed
