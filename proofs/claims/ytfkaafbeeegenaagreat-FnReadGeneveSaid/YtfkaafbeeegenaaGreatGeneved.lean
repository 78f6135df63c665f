/- geneve: the package, case 3 -/
import Derived.Test.YtfkaafbeeegenaaGreatGeneve0
import Derived.KernelRfl
namespace Go.Proofs.YtfkaafbeeegenaaGreat.Zed
set_option linter.unusedVariables false
set_option linter.unusedSimpArgs false
set_option maxRecDepth 100000
set_option maxHeartbeats 4000000


theorem geneve_q3 (w : World) (A : Option Addr) (n : Nat) (c : Nat) (bs : List UInt8) (N : Nat) (hn : n ≤ 400) (ha : 8 ≤ n) (hb : nb bs 0 ≤ 61) (hc : n - 8 < 4 * nb bs 0) (hd : ∀ i, i < N → vof bs i + 4 ≤ n ∧ vof bs (i + 1) ≤ n) (he : n - vof bs N = 3) (hst : St w [] [] [Byt A n c bs] w) : Calls Tryz.prog 64 #[(.slice A n c)] w (fun e w' => e = .returned (.bool false) ∧ Pres [] w w') := by
  have hnc00 : n ≤ c := (hst.fact (j := 0) rfl).2.1
  refine enter (vs := [(.slice A n c)]) Tryz.func64 rfl rfl rfl hst ?_
  refine HT.seq ?_
  refine HT.plain ?_
  refine sAs rfl rfl ?_
  refine send ?_
  refine eseq ?_
  refine HT.seq ?_
  refine HT.seq ?_
  refine HT.plain ?_
  refine sMv rfl rfl ?_
  refine sqS (q_len (len := n) rfl Tryz.underlying22) rfl ?_
  refine sqS (q_F (q_lt (p := n) (q := 8) rfl rfl) (by omega)) rfl ?_
  refine send ?_
  refine eseq ?_
  refine HT.no rfl ?_
  refine HT.skip ?_
  refine eseq ?_
  refine HT.seq ?_
  refine HT.plain ?_
  refine sAs rfl rfl ?_
  refine send ?_
  refine eseq ?_
  refine HT.seq ?_
  refine HT.seq ?_
  refine HT.plain ?_
  refine sMv rfl rfl ?_
  refine sqS (q_index (i := 0) (j := 0) rfl rfl Tryz.underlying22 nagg_5 (fun _ h => h) rfl (by omega)) rfl ?_
  refine sqS (q_byte (i := 0) (j := 0) rfl nagg_5 (fun _ h => h) rfl (by omega)) rfl ?_
  refine sqS (q_N (q_and (p := nb bs 0) (q := 63) rfl rfl rfl (show nb bs 0 < 256 by have := nb_lt bs 0; omega) (by decide)) (a := (nb bs 0) &&& 63) (b := nb bs 0) (by have := zm63 (nb bs 0); omega)) rfl ?_
  refine sqS (q_convn (p := nb bs 0) rfl Tryz.underlying5 Tryz.underlying3 (show nb bs 0 < 9223372036854775808 by have := nb_lt bs 0; omega)) rfl ?_
  refine sqS (q_mul (p := nb bs 0) (q := 4) rfl rfl (show (nb bs 0) * 4 < 9223372036854775808 by have := nb_lt bs 0; omega)) rfl ?_
  refine sAs rfl rfl ?_
  refine send ?_
  refine eseq ?_
  refine HT.block ?_
  refine HT.loop (ι := {p : Nat // p ≤ N}) (fun p => [(0, (.slice A n c)), (3, (.int .i64 ((vof bs p.1 : Nat) : Int))), (4, (.int .i64 (((8 + 4 * nb bs 0) - vof bs p.1 : Nat) : Int)))]) (fun p => St w [] [] [Byt A n c bs]) (fun p => N - p.1) ⟨0, by omega⟩ ⟨rfl, rfl, inc (n' := (8 + 4 * nb bs 0) - vof bs 0) (by have : vof bs 0 = 8 := rfl; omega), trivial⟩ (fun _ h => h) fun ⟨i, hil⟩ => ?_
  have ho := vof_succ bs i
  have hge := vof_ge bs i
  have hmo := vof_mod bs i
  have hmo2 := vof_mod bs (i + 1)
  have hma := vof_many bs i
  have h256 := nb_lt bs (vof bs i + 3)
  have hal := vof_le (e := n) (by omega) (fun j hj => (hd j hj).2) i (by omega)
  have hc := hd i
  have hz : i = N → n - vof bs i = 3 := fun e => by rw [e]; exact he
  have hz15 := zm15 (nb bs (vof bs i + 3))
  show HT _ _ _ [(0, (.slice A n c)), (3, (.int .i64 ((vof bs i : Nat) : Int))), (4, (.int .i64 (((8 + 4 * nb bs 0) - vof bs i : Nat) : Int)))] (St w [] [] [Byt A n c bs]) _
  refine HT.seq ?_
  refine HT.seq ?_
  refine HT.plain ?_
  refine sMv rfl rfl ?_
  refine sqS (q_T (q_gt (p := (8 + 4 * nb bs 0) - vof bs i) (q := 0) rfl rfl) (by omega)) rfl ?_
  refine send ?_
  refine eseq ?_
  refine HT.yes rfl ?_
  refine HT.skip ?_
  refine eseq ?_
  refine HT.block ?_
  refine HT.seq ?_
  refine HT.seq ?_
  refine HT.plain ?_
  refine sMv rfl rfl ?_
  refine sqS (q_len (len := n) rfl Tryz.underlying22) rfl ?_
  refine sMv rfl rfl ?_
  refine sqS (q_sub (p := n) (q := vof bs i) rfl rfl (by omega) (show n < 9223372036854775808 by omega)) rfl ?_
  by_cases h1 : n - (vof bs i) = 3
  · refine sqS (q_T (q_eq (p := n - (vof bs i)) (q := 3) rfl rfl) h1) rfl ?_
    refine send ?_
    refine eseq ?_
    refine HT.yes rfl ?_
    refine HT.seq ?_
    refine HT.plain ?_
    refine sAs rfl rfl ?_
    refine send ?_
    refine eseq ?_
    refine HT.ret ?_
    refine rt_then ?_
    refine rt_in ?_
    refine rt_then ?_
    refine rt_in ?_
    refine rt_then ?_
    exact fun a ha w' hw => fin_ ha (res1 ha Tryz.results64 rfl) ⟨rfl, hw.pres⟩
  · refine sqS (q_F (q_eq (p := n - (vof bs i)) (q := 3) rfl rfl) h1) rfl ?_
    refine send ?_
    refine eseq ?_
    refine HT.no rfl ?_
    refine HT.skip ?_
    refine eseq ?_
    refine HT.seq ?_
    refine HT.seq ?_
    refine HT.plain ?_
    refine sMv rfl rfl ?_
    refine sqS (q_len (len := n) rfl Tryz.underlying22) rfl ?_
    refine sMv rfl rfl ?_
    refine sqS (q_sub (p := n) (q := vof bs i) rfl rfl (by omega) (show n < 9223372036854775808 by omega)) rfl ?_
    refine sqS (q_F (q_lt (p := n - (vof bs i)) (q := 3) rfl rfl) (by omega)) rfl ?_
    refine send ?_
    refine eseq ?_
    refine HT.no rfl ?_
    refine HT.skip ?_
    refine eseq ?_
    refine HT.seq ?_
    refine HT.plain ?_
    refine sMv rfl rfl ?_
    refine sMv rfl rfl ?_
    refine sqS (q_add (p := vof bs i) (q := 3) rfl rfl (show (vof bs i) + 3 < 9223372036854775808 by omega)) rfl ?_
    refine sqS (q_index (i := (vof bs i) + 3) (j := 0) rfl rfl Tryz.underlying22 nagg_5 (fun _ h => h) rfl (by omega)) rfl ?_
    refine sqS (q_byte (i := (vof bs i) + 3) (j := 0) rfl nagg_5 (fun _ h => h) rfl (by omega)) rfl ?_
    refine sqS (q_and (p := nb bs ((vof bs i) + 3)) (q := 15) rfl rfl rfl (show nb bs ((vof bs i) + 3) < 256 by have := nb_lt bs ((vof bs i) + 3); omega) (by decide)) rfl ?_
    refine sqS (q_convn (p := (nb bs ((vof bs i) + 3)) &&& 15) rfl Tryz.underlying5 Tryz.underlying3 (show (nb bs ((vof bs i) + 3)) &&& 15 < 9223372036854775808 by have := nb_lt bs ((vof bs i) + 3); have := zm15 (nb bs ((vof bs i) + 3)); have := Nat.and_le_left (n := nb bs ((vof bs i) + 3)) (m := 15); have := Nat.and_le_right (n := nb bs ((vof bs i) + 3)) (m := 15); omega)) rfl ?_
    refine sqS (q_mul (p := (nb bs ((vof bs i) + 3)) &&& 15) (q := 4) rfl rfl (show ((nb bs ((vof bs i) + 3)) &&& 15) * 4 < 9223372036854775808 by have := nb_lt bs ((vof bs i) + 3); have := zm15 (nb bs ((vof bs i) + 3)); have := Nat.and_le_left (n := nb bs ((vof bs i) + 3)) (m := 15); have := Nat.and_le_right (n := nb bs ((vof bs i) + 3)) (m := 15); omega)) rfl ?_
    refine sqS (q_add (p := ((nb bs ((vof bs i) + 3)) &&& 15) * 4) (q := 4) rfl rfl (show (((nb bs ((vof bs i) + 3)) &&& 15) * 4) + 4 < 9223372036854775808 by have := nb_lt bs ((vof bs i) + 3); have := zm15 (nb bs ((vof bs i) + 3)); have := Nat.and_le_left (n := nb bs ((vof bs i) + 3)) (m := 15); have := Nat.and_le_right (n := nb bs ((vof bs i) + 3)) (m := 15); omega)) rfl ?_
    refine sAs rfl rfl ?_
    refine send ?_
    refine eseq ?_
    refine HT.seq ?_
    refine HT.seq ?_
    refine HT.plain ?_
    refine sMv rfl rfl ?_
    refine sqS (q_len (len := n) rfl Tryz.underlying22) rfl ?_
    refine sMv rfl rfl ?_
    refine sqS (q_sub (p := n) (q := vof bs i) rfl rfl (by omega) (show n < 9223372036854775808 by omega)) rfl ?_
    refine sMv rfl rfl ?_
    refine sqS (q_F (q_lt (p := n - (vof bs i)) (q := (((nb bs ((vof bs i) + 3)) &&& 15) * 4) + 4) rfl rfl) (by have := nb_lt bs ((vof bs i) + 3); have := zm15 (nb bs ((vof bs i) + 3)); have := Nat.and_le_left (n := nb bs ((vof bs i) + 3)) (m := 15); have := Nat.and_le_right (n := nb bs ((vof bs i) + 3)) (m := 15); omega)) rfl ?_
    refine send ?_
    refine eseq ?_
    refine HT.no rfl ?_
    refine HT.skip ?_
    refine eseq ?_
    refine HT.seq ?_
    refine HT.plain ?_
    refine sMv rfl rfl ?_
    refine sMv rfl rfl ?_
    refine sqS (q_sub (p := (8 + 4 * nb bs 0) - vof bs i) (q := (((nb bs ((vof bs i) + 3)) &&& 15) * 4) + 4) rfl rfl (by have := nb_lt bs ((vof bs i) + 3); have := zm15 (nb bs ((vof bs i) + 3)); have := Nat.and_le_left (n := nb bs ((vof bs i) + 3)) (m := 15); have := Nat.and_le_right (n := nb bs ((vof bs i) + 3)) (m := 15); omega) (show (8 + 4 * nb bs 0) - vof bs i < 9223372036854775808 by omega)) rfl ?_
    refine sAs rfl rfl ?_
    refine send ?_
    refine eseq ?_
    refine HT.plain ?_
    refine sMv rfl rfl ?_
    refine sMv rfl rfl ?_
    refine sqS (q_add (p := vof bs i) (q := (((nb bs ((vof bs i) + 3)) &&& 15) * 4) + 4) rfl rfl (show (vof bs i) + ((((nb bs ((vof bs i) + 3)) &&& 15) * 4) + 4) < 9223372036854775808 by have := nb_lt bs ((vof bs i) + 3); have := zm15 (nb bs ((vof bs i) + 3)); have := Nat.and_le_left (n := nb bs ((vof bs i) + 3)) (m := 15); have := Nat.and_le_right (n := nb bs ((vof bs i) + 3)) (m := 15); omega)) rfl ?_
    refine sAs rfl rfl ?_
    refine send ?_
    refine ein ?_
    exact eround ⟨i + 1, by omega⟩ (show N - (i + 1) < N - i by omega) ⟨rfl, inc (n' := vof bs (i + 1)) (by omega), inc (n' := (8 + 4 * nb bs 0) - vof bs (i + 1)) (by omega), trivial⟩ (fun _ h => h)

theorem geneve_c3 (w : World) (A : Option Addr) (n : Nat) (c : Nat) (bs : List UInt8) (N : Nat) (hn : n ≤ 400) (ha : 8 ≤ n) (hb : nb bs 0 ≤ 61) (hc : n - 8 < 4 * nb bs 0) (hd : ∀ i, i < N → vof bs i + 4 ≤ n ∧ vof bs (i + 1) ≤ n) (he : n - vof bs N = 3) (hst : St w [] [] [Byt A n c bs] w) : Calls Tryz.prog 57 #[(.string ⟨#[103, 101, 110, 101, 118, 101]⟩), (.slice A n c)] w (fun e w' => e = .returned (.bool false) ∧ Pres [] w w') := by
  have hnc00 : n ≤ c := (hst.fact (j := 0) rfl).2.1
  refine enter (vs := [(.string ⟨#[103, 101, 110, 101, 118, 101]⟩), (.slice A n c)]) Tryz.func57 rfl rfl rfl hst ?_
  refine HT.seq ?_
  refine HT.plain ?_
  refine sAs rfl rfl ?_
  refine send ?_
  refine eseq ?_
  refine HT.seq ?_
  refine HT.seq ?_
  refine HT.plain ?_
  refine sMv rfl rfl ?_
  refine send ?_
  refine eseq ?_
  refine HT.block ?_
  refine HT.seq ?_
  refine HT.plain ?_
  refine sqS (q_eqs rfl rfl (r := false) (by kernel_rfl)) rfl ?_
  refine sAs rfl rfl ?_
  refine send ?_
  refine eseq ?_
  refine HT.no rfl ?_
  refine HT.seq ?_
  refine HT.plain ?_
  refine sqS (q_eqs rfl rfl (r := false) (by kernel_rfl)) rfl ?_
  refine sAs rfl rfl ?_
  refine send ?_
  refine eseq ?_
  refine HT.no rfl ?_
  refine HT.seq ?_
  refine HT.plain ?_
  refine sqS (q_eqs rfl rfl (r := false) (by kernel_rfl)) rfl ?_
  refine sAs rfl rfl ?_
  refine send ?_
  refine eseq ?_
  refine HT.no rfl ?_
  refine HT.seq ?_
  refine HT.plain ?_
  refine sqS (q_eqs rfl rfl (r := false) (by kernel_rfl)) rfl ?_
  refine sAs rfl rfl ?_
  refine send ?_
  refine eseq ?_
  refine HT.no rfl ?_
  refine HT.seq ?_
  refine HT.plain ?_
  refine sqS (q_eqs rfl rfl (r := false) (by kernel_rfl)) rfl ?_
  refine sAs rfl rfl ?_
  refine send ?_
  refine eseq ?_
  refine HT.no rfl ?_
  refine HT.seq ?_
  refine HT.seq ?_
  refine HT.plain ?_
  refine sqS (q_eqs rfl rfl (r := false) (by kernel_rfl)) rfl ?_
  refine sAs rfl rfl ?_
  refine send ?_
  refine eseq ?_
  refine HT.no rfl ?_
  refine HT.seq ?_
  refine HT.plain ?_
  refine sqS (q_eqs rfl rfl (r := false) (by kernel_rfl)) rfl ?_
  refine sAs rfl rfl ?_
  refine send ?_
  refine eseq ?_
  refine HT.no rfl ?_
  refine HT.plain ?_
  refine sqS (q_eqs rfl rfl (r := false) (by kernel_rfl)) rfl ?_
  refine sAs rfl rfl ?_
  refine send ?_
  refine eseq ?_
  refine HT.no rfl ?_
  refine HT.seq ?_
  refine HT.plain ?_
  refine sqS (q_eqs rfl rfl (r := false) (by kernel_rfl)) rfl ?_
  refine sAs rfl rfl ?_
  refine send ?_
  refine eseq ?_
  refine HT.no rfl ?_
  refine HT.seq ?_
  refine HT.plain ?_
  refine sqS (q_eqs rfl rfl (r := false) (by kernel_rfl)) rfl ?_
  refine sAs rfl rfl ?_
  refine send ?_
  refine eseq ?_
  refine HT.no rfl ?_
  refine HT.seq ?_
  refine HT.plain ?_
  refine sqS (q_eqs rfl rfl (r := true) (by kernel_rfl)) rfl ?_
  refine sAs rfl rfl ?_
  refine send ?_
  refine eseq ?_
  refine HT.yes rfl ?_
  refine HT.seq ?_
  refine HT.plain ?_
  refine sMv rfl rfl ?_
  refine sqS (q_call (vs := [(.slice A n c)]) (v := (.bool false)) rfl ca_64 (fun w h => geneve_q3 w A n c bs N (by omega) (by omega) (by omega) (by omega) hd (by omega) (St.enter (sp := []) (Kc := []) (bi := [0]) h rfl rfl rfl))) rfl ?_
  refine sAs rfl rfl ?_
  refine send ?_
  refine eseq ?_
  refine HT.ret ?_
  refine rt_in ?_
  refine rt_then ?_
  exact fun a ha w' hw => fin_ ha (res1 ha Tryz.results57 rfl) ⟨rfl, hw.pres⟩

theorem geneve_e3 (w : World) (A : Option Addr) (n : Nat) (c : Nat) (bs : List UInt8) (N : Nat) (hn : n ≤ 400) (ha : 8 ≤ n) (hb : nb bs 0 ≤ 61) (hc : n - 8 < 4 * nb bs 0) (hd : ∀ i, i < N → vof bs i + 4 ≤ n ∧ vof bs (i + 1) ≤ n) (he : n - vof bs N = 3) (hst : St w [] [] [Byt A n c bs] w) : Calls Tryz.prog 46 #[(.string ⟨#[103, 101, 110, 101, 118, 101]⟩), (.slice A n c)] w (fun e w' => e = .returned (.tuple #[.nilIface, (.bool false)]) ∧ Pres [] w w') := by
  have hnc00 : n ≤ c := (hst.fact (j := 0) rfl).2.1
  refine enter (vs := [(.string ⟨#[103, 101, 110, 101, 118, 101]⟩), (.slice A n c)]) Tryz.func46 rfl rfl rfl hst ?_
  refine HT.seq ?_
  refine HT.plain ?_
  refine sAs rfl rfl ?_
  refine sAs rfl rfl ?_
  refine send ?_
  refine eseq ?_
  refine HT.seq ?_
  refine HT.seq ?_
  refine HT.plain ?_
  refine sMv rfl rfl ?_
  refine sqS (q_len (len := n) rfl Tryz.underlying22) rfl ?_
  refine sqS (q_F (q_gt (p := n) (q := 2000) rfl rfl) (by omega)) rfl ?_
  refine send ?_
  refine eseq ?_
  refine HT.no rfl ?_
  refine HT.skip ?_
  refine eseq ?_
  refine HT.seq ?_
  refine HT.plain ?_
  refine sMv rfl rfl ?_
  refine sAs rfl rfl ?_
  refine send ?_
  refine eseq ?_
  refine HT.seq ?_
  refine HT.seq ?_
  refine HT.plain ?_
  refine sMv rfl rfl ?_
  refine sqS (q_eqs rfl rfl (r := false) (by kernel_rfl)) rfl ?_
  refine sMv rfl rfl ?_
  refine sgqS rfl (q_move rfl) rfl ?_
  refine sgqS rfl (q_eqs rfl rfl (r := false) (by kernel_rfl)) rfl ?_
  refine sqS (q_pick rfl (fun h => nomatch h) (fun _ => rfl)) rfl ?_
  refine send ?_
  refine eseq ?_
  refine HT.no rfl ?_
  refine HT.seq ?_
  refine HT.plain ?_
  refine sMv rfl rfl ?_
  refine sqS (q_eqs rfl rfl (r := false) (by kernel_rfl)) rfl ?_
  refine send ?_
  refine eseq ?_
  refine HT.no rfl ?_
  refine HT.skip ?_
  refine eseq ?_
  refine HT.seq ?_
  refine HT.seq ?_
  refine HT.plain ?_
  refine sMv rfl rfl ?_
  refine sMv rfl rfl ?_
  refine sqS (q_call (vs := [(.string ⟨#[103, 101, 110, 101, 118, 101]⟩), (.slice A n c)]) (v := (.bool false)) rfl ca_57 (fun w h => geneve_c3 w A n c bs N (by omega) (by omega) (by omega) (by omega) hd (by omega) (St.enter (sp := []) (Kc := []) (bi := [0]) h rfl rfl rfl))) rfl ?_
  refine sqS (q_not rfl) rfl ?_
  refine send ?_
  refine eseq ?_
  refine HT.yes rfl ?_
  refine HT.seq ?_
  refine HT.plain ?_
  refine sAs rfl rfl ?_
  refine sAs rfl rfl ?_
  refine send ?_
  refine eseq ?_
  refine HT.ret ?_
  refine rt_then ?_
  exact fun a ha w' hw => fin_ ha (res2 ha Tryz.results46 rfl rfl) ⟨rfl, hw.pres⟩

theorem geneve_I3 (w : World) (A : Option Addr) (n : Nat) (c : Nat) (bs : List UInt8) (N : Nat) (hn : n ≤ 400) (ha : 8 ≤ n) (hb : nb bs 0 ≤ 61) (hc : n - 8 < 4 * nb bs 0) (hd : ∀ i, i < N → vof bs i + 4 ≤ n ∧ vof bs (i + 1) ≤ n) (he : n - vof bs N = 3) (hst : St w [] [] [Byt A n c bs] w) : Calls Tryz.prog 27 #[(.string ⟨#[103, 101, 110, 101, 118, 101]⟩), (.slice A n c)] w (IP w (Byt A n c bs) (some none)) := by
  have hnc00 : n ≤ c := (hst.fact (j := 0) rfl).2.1
  refine enter (vs := [(.string ⟨#[103, 101, 110, 101, 118, 101]⟩), (.slice A n c)]) Tryz.func27 rfl rfl rfl hst ?_
  refine HT.seq ?_
  refine HT.plain ?_
  refine sl_ (l_alloc (by decide) zero_29 fun b4 => ?_)
  refine sAs rfl rfl ?_
  refine send ?_
  refine eseq ?_
  refine HT.seq ?_
  refine HT.plain ?_
  refine sMv rfl rfl ?_
  refine sMv rfl rfl ?_
  refine sqS (q_call (vs := [(.string ⟨#[103, 101, 110, 101, 118, 101]⟩), (.slice A n c)]) (v := (.tuple #[.nilIface, (.bool false)])) rfl ca_46 (fun w h => geneve_e3 w A n c bs N (by omega) (by omega) (by omega) (by omega) hd (by omega) (St.enter (sp := []) (Kc := []) (bi := [0]) h rfl rfl rfl))) rfl ?_
  refine sMv rfl rfl ?_
  refine sqS (q_extract (vs := [.nilIface, (.bool false)]) (i := 0) rfl rfl) rfl ?_
  refine sqS (q_extract (vs := [.nilIface, (.bool false)]) (i := 1) rfl rfl) rfl ?_
  refine sAs rfl rfl ?_
  refine sAs rfl rfl ?_
  refine send ?_
  refine eseq ?_
  refine HT.seq ?_
  refine HT.seq ?_
  refine HT.plain ?_
  refine sMv rfl rfl ?_
  refine sqS (q_not rfl) rfl ?_
  refine send ?_
  refine eseq ?_
  refine HT.yes rfl ?_
  refine HT.seq ?_
  refine HT.plain ?_
  refine sqS (q_build (vs := []) (v := (.agg #[(.slice none 0 0), (.slice none 0 0), (.slice none 0 0), (.slice none 0 0)])) rfl (fun _ => by kernel_rfl)) rfl ?_
  refine sl_ (l_storeAgg (b := b4) (off := 0) (j := 0) (vs := [(.slice none 0 0), (.slice none 0 0), (.slice none 0 0), (.slice none 0 0)]) rfl rfl aggs_29 (by simp [Value.one1]) rfl rfl rfl (Nat.le_of_ble_eq_true rfl) ?_)
  refine sAs rfl rfl ?_
  refine send ?_
  refine eseq ?_
  refine HT.ret ?_
  refine rt_then ?_
  exact fun a ha w' hw => fin_ ha (resc2 ha Tryz.results27 rfl (ld_ aggs_29 hw (j := 0) rfl rfl (vs := [(.slice none 0 0), (.slice none 0 0), (.slice none 0 0), (.slice none 0 0)]) rfl) rfl) ⟨rfl, hw.pres⟩
end Go.Proofs.YtfkaafbeeegenaaGreat.Zed
