/- geneve: the package, case 4 -/
import Derived.Test.YtfkaafbeeegenaaGreatGeneve0
import Derived.KernelRfl
namespace Go.Proofs.YtfkaafbeeegenaaGreat.Zed
set_option linter.unusedVariables false
set_option linter.unusedSimpArgs false
set_option maxRecDepth 100000
set_option maxHeartbeats 4000000


theorem geneve_q4 (w : World) (A : Option Addr) (n : Nat) (c : Nat) (bs : List UInt8) (N : Nat) (hn : n ≤ 400) (ha : 8 ≤ n) (hb : nb bs 0 ≤ 61) (hc : n - 7 < 4 * nb bs 0) (hd : ∀ i, i < N → vof bs i + 4 ≤ n ∧ vof bs (i + 1) ≤ n) (he : n - vof bs N ≠ 3) (hf : n < vof bs N + 4 ∨ n < vof bs (N + 1)) (hst : St w [] [] [Byt A n c bs] w) : Calls Tryz.prog 64 #[(.slice A n c)] w (fun e w' => e = .returned (.bool true) ∧ Pres [] w w') := by
  have hnc00 : n ≤ c := (hst.fact (j := 0) rfl).2.1
  refine enter (vs := [(.slice A n c)]) Tryz.func64 rfl rfl rfl hst ?_
  refine HT.seq ?_
  refine HT.plain ?_
  refine sAs rfl rfl ?_
  refine send ?_
  refine eseq ?_
  refine HT.seq ?_
  refine HT.seq ?_
  refine HT.plain ?_
  refine sMv rfl rfl ?_
  refine sqS (q_len (len := n) rfl Tryz.underlying22) rfl ?_
  refine sqS (q_F (q_lt (p := n) (q := 8) rfl rfl) (by omega)) rfl ?_
  refine send ?_
  refine eseq ?_
  refine HT.no rfl ?_
  refine HT.skip ?_
  refine eseq ?_
  refine HT.seq ?_
  refine HT.plain ?_
  refine sAs rfl rfl ?_
  refine send ?_
  refine eseq ?_
  refine HT.seq ?_
  refine HT.seq ?_
  refine HT.plain ?_
  refine sMv rfl rfl ?_
  refine sqS (q_index (i := 0) (j := 0) rfl rfl Tryz.underlying22 nagg_5 (fun _ h => h) rfl (by omega)) rfl ?_
  refine sqS (q_byte (i := 0) (j := 0) rfl nagg_5 (fun _ h => h) rfl (by omega)) rfl ?_
  refine sqS (q_N (q_and (p := nb bs 0) (q := 63) rfl rfl rfl (show nb bs 0 < 256 by have := nb_lt bs 0; omega) (by decide)) (a := (nb bs 0) &&& 63) (b := nb bs 0) (by have := zm63 (nb bs 0); omega)) rfl ?_
  refine sqS (q_convn (p := nb bs 0) rfl Tryz.underlying5 Tryz.underlying3 (show nb bs 0 < 9223372036854775808 by have := nb_lt bs 0; omega)) rfl ?_
  refine sqS (q_mul (p := nb bs 0) (q := 4) rfl rfl (show (nb bs 0) * 4 < 9223372036854775808 by have := nb_lt bs 0; omega)) rfl ?_
  refine sAs rfl rfl ?_
  refine send ?_
  refine eseq ?_
  refine HT.block ?_
  refine HT.loop (ι := {p : Nat // p ≤ N}) (fun p => [(0, (.slice A n c)), (3, (.int .i64 ((vof bs p.1 : Nat) : Int))), (4, (.int .i64 (((8 + 4 * nb bs 0) - vof bs p.1 : Nat) : Int)))]) (fun p => St w [] [] [Byt A n c bs]) (fun p => N - p.1) ⟨0, by omega⟩ ⟨rfl, rfl, inc (n' := (8 + 4 * nb bs 0) - vof bs 0) (by have : vof bs 0 = 8 := rfl; omega), trivial⟩ (fun _ h => h) fun ⟨i, hil⟩ => ?_
  have ho := vof_succ bs i
  have hge := vof_ge bs i
  have hmo := vof_mod bs i
  have hmo2 := vof_mod bs (i + 1)
  have hma := vof_many bs i
  have h256 := nb_lt bs (vof bs i + 3)
  have hal := vof_le (e := n) (by omega) (fun j hj => (hd j hj).2) i (by omega)
  have hc := hd i
  have hz : i = N → n - vof bs i ≠ 3 ∧ (n < vof bs i + 4 ∨ n < vof bs (i + 1)) := fun e => by rw [e]; exact ⟨he, hf⟩
  have hz15 := zm15 (nb bs (vof bs i + 3))
  show HT _ _ _ [(0, (.slice A n c)), (3, (.int .i64 ((vof bs i : Nat) : Int))), (4, (.int .i64 (((8 + 4 * nb bs 0) - vof bs i : Nat) : Int)))] (St w [] [] [Byt A n c bs]) _
  refine HT.seq ?_
  refine HT.seq ?_
  refine HT.plain ?_
  refine sMv rfl rfl ?_
  refine sqS (q_T (q_gt (p := (8 + 4 * nb bs 0) - vof bs i) (q := 0) rfl rfl) (by omega)) rfl ?_
  refine send ?_
  refine eseq ?_
  refine HT.yes rfl ?_
  refine HT.skip ?_
  refine eseq ?_
  refine HT.block ?_
  refine HT.seq ?_
  refine HT.seq ?_
  refine HT.plain ?_
  refine sMv rfl rfl ?_
  refine sqS (q_len (len := n) rfl Tryz.underlying22) rfl ?_
  refine sMv rfl rfl ?_
  refine sqS (q_sub (p := n) (q := vof bs i) rfl rfl (by omega) (show n < 9223372036854775808 by omega)) rfl ?_
  refine sqS (q_F (q_eq (p := n - (vof bs i)) (q := 3) rfl rfl) (by omega)) rfl ?_
  refine send ?_
  refine eseq ?_
  refine HT.no rfl ?_
  refine HT.skip ?_
  refine eseq ?_
  refine HT.seq ?_
  refine HT.seq ?_
  refine HT.plain ?_
  refine sMv rfl rfl ?_
  refine sqS (q_len (len := n) rfl Tryz.underlying22) rfl ?_
  refine sMv rfl rfl ?_
  refine sqS (q_sub (p := n) (q := vof bs i) rfl rfl (by omega) (show n < 9223372036854775808 by omega)) rfl ?_
  by_cases h1 : n - (vof bs i) < 3
  · refine sqS (q_T (q_lt (p := n - (vof bs i)) (q := 3) rfl rfl) h1) rfl ?_
    refine send ?_
    refine eseq ?_
    refine HT.yes rfl ?_
    refine HT.seq ?_
    refine HT.plain ?_
    refine sAs rfl rfl ?_
    refine send ?_
    refine eseq ?_
    refine HT.ret ?_
    refine rt_then ?_
    refine rt_in ?_
    refine rt_then ?_
    refine rt_in ?_
    refine rt_then ?_
    exact fun a ha w' hw => fin_ ha (res1 ha Tryz.results64 rfl) ⟨rfl, hw.pres⟩
  · refine sqS (q_F (q_lt (p := n - (vof bs i)) (q := 3) rfl rfl) h1) rfl ?_
    refine send ?_
    refine eseq ?_
    refine HT.no rfl ?_
    refine HT.skip ?_
    refine eseq ?_
    refine HT.seq ?_
    refine HT.plain ?_
    refine sMv rfl rfl ?_
    refine sMv rfl rfl ?_
    refine sqS (q_add (p := vof bs i) (q := 3) rfl rfl (show (vof bs i) + 3 < 9223372036854775808 by omega)) rfl ?_
    refine sqS (q_index (i := (vof bs i) + 3) (j := 0) rfl rfl Tryz.underlying22 nagg_5 (fun _ h => h) rfl (by omega)) rfl ?_
    refine sqS (q_byte (i := (vof bs i) + 3) (j := 0) rfl nagg_5 (fun _ h => h) rfl (by omega)) rfl ?_
    refine sqS (q_and (p := nb bs ((vof bs i) + 3)) (q := 15) rfl rfl rfl (show nb bs ((vof bs i) + 3) < 256 by have := nb_lt bs ((vof bs i) + 3); omega) (by decide)) rfl ?_
    refine sqS (q_convn (p := (nb bs ((vof bs i) + 3)) &&& 15) rfl Tryz.underlying5 Tryz.underlying3 (show (nb bs ((vof bs i) + 3)) &&& 15 < 9223372036854775808 by have := nb_lt bs ((vof bs i) + 3); have := zm15 (nb bs ((vof bs i) + 3)); have := Nat.and_le_left (n := nb bs ((vof bs i) + 3)) (m := 15); have := Nat.and_le_right (n := nb bs ((vof bs i) + 3)) (m := 15); omega)) rfl ?_
    refine sqS (q_mul (p := (nb bs ((vof bs i) + 3)) &&& 15) (q := 4) rfl rfl (show ((nb bs ((vof bs i) + 3)) &&& 15) * 4 < 9223372036854775808 by have := nb_lt bs ((vof bs i) + 3); have := zm15 (nb bs ((vof bs i) + 3)); have := Nat.and_le_left (n := nb bs ((vof bs i) + 3)) (m := 15); have := Nat.and_le_right (n := nb bs ((vof bs i) + 3)) (m := 15); omega)) rfl ?_
    refine sqS (q_add (p := ((nb bs ((vof bs i) + 3)) &&& 15) * 4) (q := 4) rfl rfl (show (((nb bs ((vof bs i) + 3)) &&& 15) * 4) + 4 < 9223372036854775808 by have := nb_lt bs ((vof bs i) + 3); have := zm15 (nb bs ((vof bs i) + 3)); have := Nat.and_le_left (n := nb bs ((vof bs i) + 3)) (m := 15); have := Nat.and_le_right (n := nb bs ((vof bs i) + 3)) (m := 15); omega)) rfl ?_
    refine sAs rfl rfl ?_
    refine send ?_
    refine eseq ?_
    refine HT.seq ?_
    refine HT.seq ?_
    refine HT.plain ?_
    refine sMv rfl rfl ?_
    refine sqS (q_len (len := n) rfl Tryz.underlying22) rfl ?_
    refine sMv rfl rfl ?_
    refine sqS (q_sub (p := n) (q := vof bs i) rfl rfl (by omega) (show n < 9223372036854775808 by omega)) rfl ?_
    refine sMv rfl rfl ?_
    by_cases h2 : n - (vof bs i) < (((nb bs ((vof bs i) + 3)) &&& 15) * 4) + 4
    · refine sqS (q_T (q_lt (p := n - (vof bs i)) (q := (((nb bs ((vof bs i) + 3)) &&& 15) * 4) + 4) rfl rfl) h2) rfl ?_
      refine send ?_
      refine eseq ?_
      refine HT.yes rfl ?_
      refine HT.seq ?_
      refine HT.plain ?_
      refine sAs rfl rfl ?_
      refine send ?_
      refine eseq ?_
      refine HT.ret ?_
      refine rt_then ?_
      refine rt_in ?_
      refine rt_then ?_
      refine rt_in ?_
      refine rt_then ?_
      exact fun a ha w' hw => fin_ ha (res1 ha Tryz.results64 rfl) ⟨rfl, hw.pres⟩
    · refine sqS (q_F (q_lt (p := n - (vof bs i)) (q := (((nb bs ((vof bs i) + 3)) &&& 15) * 4) + 4) rfl rfl) h2) rfl ?_
      refine send ?_
      refine eseq ?_
      refine HT.no rfl ?_
      refine HT.skip ?_
      refine eseq ?_
      refine HT.seq ?_
      refine HT.plain ?_
      refine sMv rfl rfl ?_
      refine sMv rfl rfl ?_
      refine sqS (q_sub (p := (8 + 4 * nb bs 0) - vof bs i) (q := (((nb bs ((vof bs i) + 3)) &&& 15) * 4) + 4) rfl rfl (by have := nb_lt bs ((vof bs i) + 3); have := zm15 (nb bs ((vof bs i) + 3)); have := Nat.and_le_left (n := nb bs ((vof bs i) + 3)) (m := 15); have := Nat.and_le_right (n := nb bs ((vof bs i) + 3)) (m := 15); omega) (show (8 + 4 * nb bs 0) - vof bs i < 9223372036854775808 by omega)) rfl ?_
      refine sAs rfl rfl ?_
      refine send ?_
      refine eseq ?_
      refine HT.plain ?_
      refine sMv rfl rfl ?_
      refine sMv rfl rfl ?_
      refine sqS (q_add (p := vof bs i) (q := (((nb bs ((vof bs i) + 3)) &&& 15) * 4) + 4) rfl rfl (show (vof bs i) + ((((nb bs ((vof bs i) + 3)) &&& 15) * 4) + 4) < 9223372036854775808 by have := nb_lt bs ((vof bs i) + 3); have := zm15 (nb bs ((vof bs i) + 3)); have := Nat.and_le_left (n := nb bs ((vof bs i) + 3)) (m := 15); have := Nat.and_le_right (n := nb bs ((vof bs i) + 3)) (m := 15); omega)) rfl ?_
      refine sAs rfl rfl ?_
      refine send ?_
      refine ein ?_
      exact eround ⟨i + 1, by omega⟩ (show N - (i + 1) < N - i by omega) ⟨rfl, inc (n' := vof bs (i + 1)) (by omega), inc (n' := (8 + 4 * nb bs 0) - vof bs (i + 1)) (by omega), trivial⟩ (fun _ h => h)

theorem geneve_c4 (w : World) (A : Option Addr) (n : Nat) (c : Nat) (bs : List UInt8) (N : Nat) (hn : n ≤ 400) (ha : 8 ≤ n) (hb : nb bs 0 ≤ 61) (hc : n - 7 < 4 * nb bs 0) (hd : ∀ i, i < N → vof bs i + 4 ≤ n ∧ vof bs (i + 1) ≤ n) (he : n - vof bs N ≠ 3) (hf : n < vof bs N + 4 ∨ n < vof bs (N + 1)) (hst : St w [] [] [Byt A n c bs] w) : Calls Tryz.prog 57 #[(.string ⟨#[103, 101, 110, 101, 118, 101]⟩), (.slice A n c)] w (fun e w' => e = .returned (.bool true) ∧ Pres [] w w') := by
  have hnc00 : n ≤ c := (hst.fact (j := 0) rfl).2.1
  refine enter (vs := [(.string ⟨#[103, 101, 110, 101, 118, 101]⟩), (.slice A n c)]) Tryz.func57 rfl rfl rfl hst ?_
  refine HT.seq ?_
  refine HT.plain ?_
  refine sAs rfl rfl ?_
  refine send ?_
  refine eseq ?_
  refine HT.seq ?_
  refine HT.seq ?_
  refine HT.plain ?_
  refine sMv rfl rfl ?_
  refine send ?_
  refine eseq ?_
  refine HT.block ?_
  refine HT.seq ?_
  refine HT.plain ?_
  refine sqS (q_eqs rfl rfl (r := false) (by kernel_rfl)) rfl ?_
  refine sAs rfl rfl ?_
  refine send ?_
  refine eseq ?_
  refine HT.no rfl ?_
  refine HT.seq ?_
  refine HT.plain ?_
  refine sqS (q_eqs rfl rfl (r := false) (by kernel_rfl)) rfl ?_
  refine sAs rfl rfl ?_
  refine send ?_
  refine eseq ?_
  refine HT.no rfl ?_
  refine HT.seq ?_
  refine HT.plain ?_
  refine sqS (q_eqs rfl rfl (r := false) (by kernel_rfl)) rfl ?_
  refine sAs rfl rfl ?_
  refine send ?_
  refine eseq ?_
  refine HT.no rfl ?_
  refine HT.seq ?_
  refine HT.plain ?_
  refine sqS (q_eqs rfl rfl (r := false) (by kernel_rfl)) rfl ?_
  refine sAs rfl rfl ?_
  refine send ?_
  refine eseq ?_
  refine HT.no rfl ?_
  refine HT.seq ?_
  refine HT.plain ?_
  refine sqS (q_eqs rfl rfl (r := false) (by kernel_rfl)) rfl ?_
  refine sAs rfl rfl ?_
  refine send ?_
  refine eseq ?_
  refine HT.no rfl ?_
  refine HT.seq ?_
  refine HT.seq ?_
  refine HT.plain ?_
  refine sqS (q_eqs rfl rfl (r := false) (by kernel_rfl)) rfl ?_
  refine sAs rfl rfl ?_
  refine send ?_
  refine eseq ?_
  refine HT.no rfl ?_
  refine HT.seq ?_
  refine HT.plain ?_
  refine sqS (q_eqs rfl rfl (r := false) (by kernel_rfl)) rfl ?_
  refine sAs rfl rfl ?_
  refine send ?_
  refine eseq ?_
  refine HT.no rfl ?_
  refine HT.plain ?_
  refine sqS (q_eqs rfl rfl (r := false) (by kernel_rfl)) rfl ?_
  refine sAs rfl rfl ?_
  refine send ?_
  refine eseq ?_
  refine HT.no rfl ?_
  refine HT.seq ?_
  refine HT.plain ?_
  refine sqS (q_eqs rfl rfl (r := false) (by kernel_rfl)) rfl ?_
  refine sAs rfl rfl ?_
  refine send ?_
  refine eseq ?_
  refine HT.no rfl ?_
  refine HT.seq ?_
  refine HT.plain ?_
  refine sqS (q_eqs rfl rfl (r := false) (by kernel_rfl)) rfl ?_
  refine sAs rfl rfl ?_
  refine send ?_
  refine eseq ?_
  refine HT.no rfl ?_
  refine HT.seq ?_
  refine HT.plain ?_
  refine sqS (q_eqs rfl rfl (r := true) (by kernel_rfl)) rfl ?_
  refine sAs rfl rfl ?_
  refine send ?_
  refine eseq ?_
  refine HT.yes rfl ?_
  refine HT.seq ?_
  refine HT.plain ?_
  refine sMv rfl rfl ?_
  refine sqS (q_call (vs := [(.slice A n c)]) (v := (.bool true)) rfl ca_64 (fun w h => geneve_q4 w A n c bs N (by omega) (by omega) (by omega) (by omega) hd (by omega) (by omega) (St.enter (sp := []) (Kc := []) (bi := [0]) h rfl rfl rfl))) rfl ?_
  refine sAs rfl rfl ?_
  refine send ?_
  refine eseq ?_
  refine HT.ret ?_
  refine rt_in ?_
  refine rt_then ?_
  exact fun a ha w' hw => fin_ ha (res1 ha Tryz.results57 rfl) ⟨rfl, hw.pres⟩

abbrev geneve_m1_4_k0 (rb : Nat) (bs : List UInt8) : Kb := ⟨rb, 117, [some (.slice none 0 0), some (.slice none 0 0), some (.int .u8 (((nb bs 0) / 128 : Nat) : Int)), some (.int .u8 (((nb bs 0) * 4 : Nat) : Int)), some (.bool (decide (0 < (nb bs 1) &&& 128))), some (.bool (decide (0 < (nb bs 1) &&& 64))), some (.int .u16 ((bN bs 2 2 : Nat) : Int)), some (.int .u32 ((0 : Nat) : Int)), some (.slice none 0 0)], true⟩
abbrev geneve_m1_4_k1 (rb : Nat) (bs : List UInt8) : Kb := ⟨rb, 117, [some (.slice none 0 0), some (.slice none 0 0), some (.int .u8 (((nb bs 0) / 128 : Nat) : Int)), some (.int .u8 (((nb bs 0) * 4 : Nat) : Int)), some (.bool (decide (0 < (nb bs 1) &&& 128))), some (.bool (decide (0 < (nb bs 1) &&& 64))), some (.int .u16 ((bN bs 2 2 : Nat) : Int)), some (.int .u32 ((bN bs 4 3 : Nat) : Int)), some (.slice none 0 0)], true⟩
abbrev geneve_m1_4_k2 (b5 : Nat) : Kb := ⟨b5, 206, [some (.string (⟨#[103, 101, 110, 101, 118, 101, 32, 112, 97, 99, 107, 101, 116, 32, 116, 111, 111, 32, 115, 104, 111, 114, 116]⟩))], true⟩

theorem geneve_m1_4 (w : World) (A : Option Addr) (n : Nat) (c : Nat) (bs : List UInt8) (N : Nat) (rb : Nat) (kb : Nat) (hn : n ≤ 400) (ha : 8 ≤ n) (hb : nb bs 0 ≤ 61) (hc : n - 7 < 4 * nb bs 0) (hd : ∀ i, i < N → vof bs i + 4 ≤ n ∧ vof bs (i + 1) ≤ n) (he : n - vof bs N ≠ 3) (hf : n < vof bs N + 4 ∨ n < vof bs (N + 1)) (hst : St w [rb] [⟨rb, 117, [some (.slice none 0 0), some (.slice none 0 0), some (.int .u8 ((0 : Nat) : Int)), some (.int .u8 ((0 : Nat) : Int)), some (.bool false), some (.bool false), some (.int .u16 ((0 : Nat) : Int)), some (.int .u32 ((0 : Nat) : Int)), some (.slice none 0 0)], true⟩] [Byt A n c bs] w) : Calls Tryz.prog 144 #[(.pointer (some ⟨rb, 0, none⟩)), (.slice A n c), (.iface 199 (.pointer (some ⟨kb, 0, none⟩)))] w (CP1 w [rb] [Byt A n c bs] (fun b5 => (.iface 204 (.pointer (some ⟨b5, 0, none⟩)))) (fun b5 => [(geneve_m1_4_k1 rb bs), (geneve_m1_4_k2 b5)]) (fun b5 => [])) := by
  have hnc00 : n ≤ c := (hst.fact (j := 0) rfl).2.1
  have hbl : n = bs.length := (hst.fact (j := 0) rfl).1
  refine enter (vs := [(.pointer (some ⟨rb, 0, none⟩)), (.slice A n c), (.iface 199 (.pointer (some ⟨kb, 0, none⟩)))]) Tryz.func144 rfl rfl rfl hst ?_
  refine HT.seq ?_
  refine HT.plain ?_
  refine sAs rfl rfl ?_
  refine send ?_
  refine eseq ?_
  refine HT.seq ?_
  refine HT.seq ?_
  refine HT.plain ?_
  refine sMv rfl rfl ?_
  refine sqS (q_len (len := n) rfl Tryz.underlying22) rfl ?_
  refine sqS (q_F (q_lt (p := n) (q := 7) rfl rfl) (by omega)) rfl ?_
  refine send ?_
  refine eseq ?_
  refine HT.no rfl ?_
  refine HT.skip ?_
  refine eseq ?_
  refine HT.seq ?_
  refine HT.plain ?_
  refine sMv rfl rfl ?_
  refine sMv rfl rfl ?_
  refine sqS (q_index (i := 0) (j := 0) rfl rfl Tryz.underlying22 nagg_5 (fun _ h => h) rfl (by omega)) rfl ?_
  refine sqS (q_byte (i := 0) (j := 0) rfl nagg_5 (fun _ h => h) rfl (by omega)) rfl ?_
  refine sqS (q_shr (p := nb bs 0) (e := 7) (N := 128) rfl rfl (by decide) rfl) rfl ?_
  refine sqS (q_nil rfl) rfl ?_
  refine sqS (q_field (b := rb) (off := 0) rfl fo_117_1) rfl ?_
  refine sl_ (l_store (b := rb) (off := 2) (j := 0) rfl rfl nagg_5 rfl rfl rfl rfl (dlt rfl) ?_)
  refine send ?_
  refine eseq ?_
  refine HT.norm [⟨rb, 117, [some (.slice none 0 0), some (.slice none 0 0), some (.int .u8 (((nb bs 0) / 128 : Nat) : Int)), some (.int .u8 ((0 : Nat) : Int)), some (.bool false), some (.bool false), some (.int .u16 ((0 : Nat) : Int)), some (.int .u32 ((0 : Nat) : Int)), some (.slice none 0 0)], true⟩] [Byt A n c bs] rfl rfl ?_
  refine HT.seq ?_
  refine HT.plain ?_
  refine sMv rfl rfl ?_
  refine sMv rfl rfl ?_
  refine sqS (q_index (i := 0) (j := 0) rfl rfl Tryz.underlying22 nagg_5 (fun _ h => h) rfl (by omega)) rfl ?_
  refine sqS (q_byte (i := 0) (j := 0) rfl nagg_5 (fun _ h => h) rfl (by omega)) rfl ?_
  refine sqS (q_N (q_and (p := nb bs 0) (q := 63) rfl rfl rfl (show nb bs 0 < 256 by have := nb_lt bs 0; omega) (by decide)) (a := (nb bs 0) &&& 63) (b := nb bs 0) (by have := zm63 (nb bs 0); omega)) rfl ?_
  refine sqS (q_mul (p := nb bs 0) (q := 4) rfl rfl (show (nb bs 0) * 4 < 256 by have := nb_lt bs 0; omega)) rfl ?_
  refine sqS (q_nil rfl) rfl ?_
  refine sqS (q_field (b := rb) (off := 0) rfl fo_117_2) rfl ?_
  refine sl_ (l_store (b := rb) (off := 3) (j := 0) rfl rfl nagg_5 rfl rfl rfl rfl (dlt rfl) ?_)
  refine send ?_
  refine eseq ?_
  refine HT.norm [⟨rb, 117, [some (.slice none 0 0), some (.slice none 0 0), some (.int .u8 (((nb bs 0) / 128 : Nat) : Int)), some (.int .u8 (((nb bs 0) * 4 : Nat) : Int)), some (.bool false), some (.bool false), some (.int .u16 ((0 : Nat) : Int)), some (.int .u32 ((0 : Nat) : Int)), some (.slice none 0 0)], true⟩] [Byt A n c bs] rfl rfl ?_
  refine HT.seq ?_
  refine HT.plain ?_
  refine sMv rfl rfl ?_
  refine sMv rfl rfl ?_
  refine sqS (q_index (i := 1) (j := 0) rfl rfl Tryz.underlying22 nagg_5 (fun _ h => h) rfl (by omega)) rfl ?_
  refine sqS (q_byte (i := 1) (j := 0) rfl nagg_5 (fun _ h => h) rfl (by omega)) rfl ?_
  refine sqS (q_and (p := nb bs 1) (q := 128) rfl rfl rfl (show nb bs 1 < 256 by have := nb_lt bs 1; omega) (by decide)) rfl ?_
  refine sqS (q_gt (p := (nb bs 1) &&& 128) (q := 0) rfl rfl) rfl ?_
  refine sqS (q_nil rfl) rfl ?_
  refine sqS (q_field (b := rb) (off := 0) rfl fo_117_3) rfl ?_
  refine sl_ (l_store (b := rb) (off := 4) (j := 0) rfl rfl nagg_4 rfl rfl rfl rfl (dlt rfl) ?_)
  refine send ?_
  refine eseq ?_
  refine HT.norm [⟨rb, 117, [some (.slice none 0 0), some (.slice none 0 0), some (.int .u8 (((nb bs 0) / 128 : Nat) : Int)), some (.int .u8 (((nb bs 0) * 4 : Nat) : Int)), some (.bool (decide (0 < (nb bs 1) &&& 128))), some (.bool false), some (.int .u16 ((0 : Nat) : Int)), some (.int .u32 ((0 : Nat) : Int)), some (.slice none 0 0)], true⟩] [Byt A n c bs] rfl rfl ?_
  refine HT.seq ?_
  refine HT.plain ?_
  refine sMv rfl rfl ?_
  refine sMv rfl rfl ?_
  refine sqS (q_index (i := 1) (j := 0) rfl rfl Tryz.underlying22 nagg_5 (fun _ h => h) rfl (by omega)) rfl ?_
  refine sqS (q_byte (i := 1) (j := 0) rfl nagg_5 (fun _ h => h) rfl (by omega)) rfl ?_
  refine sqS (q_and (p := nb bs 1) (q := 64) rfl rfl rfl (show nb bs 1 < 256 by have := nb_lt bs 1; omega) (by decide)) rfl ?_
  refine sqS (q_gt (p := (nb bs 1) &&& 64) (q := 0) rfl rfl) rfl ?_
  refine sqS (q_nil rfl) rfl ?_
  refine sqS (q_field (b := rb) (off := 0) rfl fo_117_4) rfl ?_
  refine sl_ (l_store (b := rb) (off := 5) (j := 0) rfl rfl nagg_4 rfl rfl rfl rfl (dlt rfl) ?_)
  refine send ?_
  refine eseq ?_
  refine HT.norm [⟨rb, 117, [some (.slice none 0 0), some (.slice none 0 0), some (.int .u8 (((nb bs 0) / 128 : Nat) : Int)), some (.int .u8 (((nb bs 0) * 4 : Nat) : Int)), some (.bool (decide (0 < (nb bs 1) &&& 128))), some (.bool (decide (0 < (nb bs 1) &&& 64))), some (.int .u16 ((0 : Nat) : Int)), some (.int .u32 ((0 : Nat) : Int)), some (.slice none 0 0)], true⟩] [Byt A n c bs] rfl rfl ?_
  refine HT.seq ?_
  refine HT.drawn mixed (St.closed _ _ _ _) (St w [rb] [⟨rb, 117, [some (.slice none 0 0), some (.slice none 0 0), some (.int .u8 (((nb bs 0) / 128 : Nat) : Int)), some (.int .u8 (((nb bs 0) * 4 : Nat) : Int)), some (.bool (decide (0 < (nb bs 1) &&& 128))), some (.bool (decide (0 < (nb bs 1) &&& 64))), none, some (.int .u32 ((0 : Nat) : Int)), some (.slice none 0 0)], true⟩] [Byt A n c bs]) ?_
  refine dtake (f := 1) [0, 1, 2, 3, 4, 5, 6] (by kernel_rfl) (St.closed _ _ _ _) (fun _ h => (h.wk [(0, [6])] rfl)) (by kernel_rfl) ?_
  refine dq rfl (q_move rfl) ?_
  refine dq rfl (q_loadEmpty rfl aggs_210) ?_
  refine dq rfl (q_move rfl) ?_
  refine dq rfl (q_slice (lo := 2) (hi := 4) rfl Tryz.underlying22 nagg_5 (.inr ⟨_, _, rfl, rfl⟩) (.inr ⟨_, _, rfl, rfl⟩) (by omega) (by omega)) ?_
  refine dq rfl (q_call (vs := [(.agg #[]), (.slice (cutA A c 2) (4 - 2) (c - 2))]) (v := (.int .u16 ((bN bs 2 2 : Nat) : Int))) rfl ca_91 (fun w h => U16 w A n c bs (lo := 2) (hi := 4) (h.fact (j := 0) rfl) (by omega) (by omega))) ?_
  refine dq rfl (q_nil rfl) ?_
  refine dq rfl (q_field (b := rb) (off := 0) rfl fo_117_5) ?_
  refine QL.nil ?_
  refine RG.step1 7 (by kernel_rfl) ?_
  refine dop rfl (l_store (b := rb) (off := 6) (j := 0) rfl rfl nagg_82 rfl rfl rfl rfl (dlt rfl) ⟨(fun _ h => (h.wk [(0, [6])] rfl)), ?_⟩)
  refine dend (by kernel_rfl) ?_
  refine eseq ?_
  refine HT.norm [(geneve_m1_4_k0 rb bs)] [Byt A n c bs] rfl rfl ?_
  refine HT.seq ?_
  refine HT.plain ?_
  refine sl_ (l_alloc (by decide) zero_242 fun b7 => ?_)
  refine send ?_
  refine eseq ?_
  refine HT.norm [(geneve_m1_4_k0 rb bs), ⟨b7, 242, [some (.int .u8 ((0 : Nat) : Int)), some (.int .u8 ((0 : Nat) : Int)), some (.int .u8 ((0 : Nat) : Int)), some (.int .u8 ((0 : Nat) : Int))], true⟩] [Byt A n c bs] rfl rfl ?_
  refine HT.seq ?_
  refine HT.drawn mixed (St.closed _ _ _ _) (St w [rb] [(geneve_m1_4_k0 rb bs)] [Byt A n c bs]) ?_
  refine dtake (f := 1) [0, 1, 2] (by kernel_rfl) (St.closed _ _ _ _) (fun _ h => (h.wk [(0, [])] rfl)) (by kernel_rfl) ?_
  refine dq rfl (q_sliceArr (N := 4) (lo := 1) rfl Tryz.underlying242 nagg_5 (.inr ⟨_, _, rfl, rfl⟩) (by decide)) ?_
  refine dq rfl (q_move rfl) ?_
  refine dq rfl (q_slice (lo := 4) (hi := 7) rfl Tryz.underlying22 nagg_5 (.inr ⟨_, _, rfl, rfl⟩) (.inr ⟨_, _, rfl, rfl⟩) (by omega) (by omega)) ?_
  refine QL.nil ?_
  refine RG.step1 3 (by kernel_rfl) ?_
  refine dop rfl (l_copyB (j := 1) (q := 1) (sn := 3) (off := 1) (K' := [(geneve_m1_4_k0 rb bs), ⟨b7, 242, [some (.int .u8 ((0 : Nat) : Int))] ++ cb (sl bs 4 7) ++ [], true⟩]) [some (.int .u8 ((0 : Nat) : Int))] [some (.int .u8 ((0 : Nat) : Int)), some (.int .u8 ((0 : Nat) : Int)), some (.int .u8 ((0 : Nat) : Int))] [] rfl rfl Tryz.underlying22 byteT_5 rfl rfl rfl rfl rfl (Bx := [Byt A n c bs, Byt (cutA A c 4) (7 - 4) (c - 4) (sl bs 4 7)]) (fun _ h => h.cut (j := 0) (lo := 4) (hi := 7) rfl (by omega) (by omega)) rfl rfl (ht := by simp) ⟨(fun _ h => (h.wk [(0, [])] rfl)), ?_⟩)
  refine dend (by kernel_rfl) ?_
  refine eseq ?_
  refine HT.norm [(geneve_m1_4_k0 rb bs), ⟨b7, 242, [some (.int .u8 ((0 : Nat) : Int))] ++ cb (sl bs 4 7) ++ [], true⟩] [Byt A n c bs] rfl rfl ?_
  refine HT.seq ?_
  refine HT.drawn mixed (St.closed _ _ _ _) (St w [rb] [⟨rb, 117, [some (.slice none 0 0), some (.slice none 0 0), some (.int .u8 (((nb bs 0) / 128 : Nat) : Int)), some (.int .u8 (((nb bs 0) * 4 : Nat) : Int)), some (.bool (decide (0 < (nb bs 1) &&& 128))), some (.bool (decide (0 < (nb bs 1) &&& 64))), some (.int .u16 ((bN bs 2 2 : Nat) : Int)), none, some (.slice none 0 0)], true⟩, ⟨b7, 242, [some (.int .u8 ((0 : Nat) : Int))] ++ cb (sl bs 4 7) ++ [], true⟩] [Byt A n c bs]) ?_
  refine dtake (f := 1) [0, 1, 2, 3, 4, 5] (by kernel_rfl) (St.closed _ _ _ _) (fun _ h => (h.wk [(0, [7]), (1, [])] rfl)) (by kernel_rfl) ?_
  refine dq rfl (q_move rfl) ?_
  refine dq rfl (q_loadEmpty rfl aggs_210) ?_
  refine dq rfl (q_sliceArr (N := 4) (lo := 0) rfl Tryz.underlying242 nagg_5 (.inl ⟨rfl, rfl⟩) (by decide)) ?_
  refine dq rfl (q_call (vs := [(.agg #[]), (.slice (some ⟨b7, 0, none⟩) 4 4)]) (v := (.int .u32 ((bN bs 4 3 : Nat) : Int))) rfl ca_97 (fun w h => U32buf h bs b7 242 (j := 1) rfl (by omega))) ?_
  refine dq rfl (q_nil rfl) ?_
  refine dq rfl (q_field (b := rb) (off := 0) rfl fo_117_6) ?_
  refine QL.nil ?_
  refine RG.step1 6 (by kernel_rfl) ?_
  refine dop rfl (l_store (b := rb) (off := 7) (j := 0) rfl rfl nagg_111 rfl rfl rfl rfl (dlt rfl) ⟨(fun _ h => (h.wk [(0, [7]), (1, [])] rfl)), ?_⟩)
  refine dend (by kernel_rfl) ?_
  refine eseq ?_
  refine HT.norm [(geneve_m1_4_k1 rb bs), ⟨b7, 242, [some (.int .u8 ((0 : Nat) : Int))] ++ cb (sl bs 4 7) ++ [], true⟩] [Byt A n c bs] rfl rfl ?_
  refine HT.seq ?_
  refine HT.drawnS mixed (St.closed _ _ _ _) ?_
  refine dtake (f := 0) [0, 1, 2, 3, 4, 5, 6] (by kernel_rfl) (St.closed _ _ _ _) (fun _ h => h) (by kernel_rfl) ?_
  refine dq rfl (q_move rfl) ?_
  refine dq rfl (q_nil rfl) ?_
  refine dq rfl (q_field (b := rb) (off := 0) rfl fo_117_2) ?_
  refine dq rfl (q_load (b := rb) (off := 3) (j := 0) rfl nagg_5 (fun _ h => h) rfl rfl rfl) ?_
  refine dq rfl (q_convn (p := (nb bs 0) * 4) rfl Tryz.underlying5 Tryz.underlying21 (show (nb bs 0) * 4 < 2147483648 by have := nb_lt bs 0; omega)) ?_
  refine dq rfl (q_assign rfl) ?_
  refine dq rfl (q_assign rfl) ?_
  refine QL.nil ?_
  refine dend (by kernel_rfl) ?_
  refine eseq ?_
  refine HT.seq ?_
  refine HT.seq ?_
  refine HT.plain ?_
  refine sMv rfl rfl ?_
  refine sqS (q_len (len := n) rfl Tryz.underlying22) rfl ?_
  refine sMv rfl rfl ?_
  refine sqS (q_add (p := (nb bs 0) * 4) (q := 7) rfl rfl (show ((nb bs 0) * 4) + 7 < 2147483648 by have := nb_lt bs 0; omega)) rfl ?_
  refine sqS (q_convn (p := ((nb bs 0) * 4) + 7) rfl Tryz.underlying21 Tryz.underlying3 (show ((nb bs 0) * 4) + 7 < 9223372036854775808 by have := nb_lt bs 0; omega)) rfl ?_
  refine sqS (q_T (q_lt (p := n) (q := ((nb bs 0) * 4) + 7) rfl rfl) (by have := nb_lt bs 0; omega)) rfl ?_
  refine send ?_
  refine eseq ?_
  refine HT.yes rfl ?_
  refine HT.seq ?_
  refine HT.plain ?_
  refine sMv rfl rfl ?_
  refine sqS (q_invoke (vs := []) (v := (.tuple #[])) rfl (fun w => me_199_SetTruncated _ w) rfl ca_167 (fun w h => setTrunc w kb  (St.enter (sp := []) (Kc := []) (bi := []) h rfl rfl rfl))) rfl ?_
  refine send ?_
  refine eseq ?_
  refine HT.seq ?_
  refine HT.plain ?_
  refine sl_ (l_callX1 (vs := [(.string ⟨#[103, 101, 110, 101, 118, 101, 32, 112, 97, 99, 107, 101, 116, 32, 116, 111, 111, 32, 115, 104, 111, 114, 116]⟩)]) (Kc := []) (Bc := []) [] [] [Byt A n c bs] (fun b5 => [(geneve_m1_4_k1 rb bs), ⟨b7, 242, [some (.int .u8 ((0 : Nat) : Int))] ++ cb (sl bs 4 7) ++ [], true⟩, (geneve_m1_4_k2 b5)]) (fun b5 => [Byt A n c bs]) (by decide) rfl ca_67 (fun _ h => h) rfl rfl rfl rfl (fun w h => errNew w (⟨#[103, 101, 110, 101, 118, 101, 32, 112, 97, 99, 107, 101, 116, 32, 116, 111, 111, 32, 115, 104, 111, 114, 116]⟩)  h) (fun _ => rfl) (fun _ => rfl) (fun _ => rfl) (fun _ => rfl) fun b5 hf1 he2 => ?_)
  refine sAs rfl rfl ?_
  refine send ?_
  refine eseq ?_
  refine HT.norm [(geneve_m1_4_k1 rb bs), ⟨b7, 242, [some (.int .u8 ((0 : Nat) : Int))] ++ cb (sl bs 4 7) ++ [], true⟩, (geneve_m1_4_k2 b5)] [Byt A n c bs] rfl rfl ?_
  refine HT.ret ?_
  refine rt_then ?_
  exact fun a ha w' hw => fin_ ha (res1 ha Tryz.results144 rfl) ⟨b5, rfl, (hw.wk [(0, []), (2, [])] rfl), fr0⟩

theorem geneve_dd4 (w : World) (A : Option Addr) (n : Nat) (c : Nat) (bs : List UInt8) (N : Nat) (rb : Nat) (kb : Nat) (hn : n ≤ 400) (ha : 8 ≤ n) (hb : nb bs 0 ≤ 61) (hc : n - 7 < 4 * nb bs 0) (hd : ∀ i, i < N → vof bs i + 4 ≤ n ∧ vof bs (i + 1) ≤ n) (he : n - vof bs N ≠ 3) (hf : n < vof bs N + 4 ∨ n < vof bs (N + 1)) (hst : St w [rb, kb] [⟨rb, 117, [some (.slice none 0 0), some (.slice none 0 0), some (.int .u8 ((0 : Nat) : Int)), some (.int .u8 ((0 : Nat) : Int)), some (.bool false), some (.bool false), some (.int .u16 ((0 : Nat) : Int)), some (.int .u32 ((0 : Nat) : Int)), some (.slice none 0 0)], true⟩, ⟨kb, 201, [some .nilIface], true⟩] [Byt A n c bs] w) : Calls Tryz.prog 96 #[(.iface 114 (.pointer (some ⟨rb, 0, none⟩))), (.slice A n c), (.iface 199 (.pointer (some ⟨kb, 0, none⟩)))] w (CP1 w [rb, kb] [Byt A n c bs] (fun b5 => (.iface 204 (.pointer (some ⟨b5, 0, none⟩)))) (fun b5 => [⟨rb, 117, [some (.slice none 0 0), some (.slice none 0 0), some (.int .u8 (((nb bs 0) / 128 : Nat) : Int)), some (.int .u8 (((nb bs 0) * 4 : Nat) : Int)), some (.bool (decide (0 < (nb bs 1) &&& 128))), some (.bool (decide (0 < (nb bs 1) &&& 64))), some (.int .u16 ((bN bs 2 2 : Nat) : Int)), some (.int .u32 ((bN bs 4 3 : Nat) : Int)), some (.slice none 0 0)], true⟩, ⟨kb, 201, [some .nilIface], true⟩, ⟨b5, 206, [some (.string (⟨#[103, 101, 110, 101, 118, 101, 32, 112, 97, 99, 107, 101, 116, 32, 116, 111, 111, 32, 115, 104, 111, 114, 116]⟩))], true⟩]) (fun b5 => [])) := by
  have hnc00 : n ≤ c := (hst.fact (j := 0) rfl).2.1
  refine enter (vs := [(.iface 114 (.pointer (some ⟨rb, 0, none⟩))), (.slice A n c), (.iface 199 (.pointer (some ⟨kb, 0, none⟩)))]) Tryz.func96 rfl rfl rfl hst ?_
  refine HT.seq ?_
  refine HT.plain ?_
  refine sAs rfl rfl ?_
  refine send ?_
  refine eseq ?_
  refine HT.seq ?_
  refine HT.plain ?_
  refine sMv rfl rfl ?_
  refine sMv rfl rfl ?_
  refine sMv rfl rfl ?_
  refine sl_ (l_invX1 (vs := [(.slice A n c), (.iface 199 (.pointer (some ⟨kb, 0, none⟩)))]) (Kc := [⟨rb, 117, [some (.slice none 0 0), some (.slice none 0 0), some (.int .u8 ((0 : Nat) : Int)), some (.int .u8 ((0 : Nat) : Int)), some (.bool false), some (.bool false), some (.int .u16 ((0 : Nat) : Int)), some (.int .u32 ((0 : Nat) : Int)), some (.slice none 0 0)], true⟩]) (Bc := [Byt A n c bs]) [0] [0] [Byt A n c bs] (fun b5 => [⟨kb, 201, [some .nilIface], true⟩, ⟨rb, 117, [some (.slice none 0 0), some (.slice none 0 0), some (.int .u8 (((nb bs 0) / 128 : Nat) : Int)), some (.int .u8 (((nb bs 0) * 4 : Nat) : Int)), some (.bool (decide (0 < (nb bs 1) &&& 128))), some (.bool (decide (0 < (nb bs 1) &&& 64))), some (.int .u16 ((bN bs 2 2 : Nat) : Int)), some (.int .u32 ((bN bs 4 3 : Nat) : Int)), some (.slice none 0 0)], true⟩, ⟨b5, 206, [some (.string (⟨#[103, 101, 110, 101, 118, 101, 32, 112, 97, 99, 107, 101, 116, 32, 116, 111, 111, 32, 115, 104, 111, 114, 116]⟩))], true⟩]) (fun b5 => [Byt A n c bs]) (by decide) rfl (fun w => me_114_DecodeFromBytes _ w) rfl ca_144 (fun _ h => h) rfl rfl rfl rfl (fun w h => geneve_m1_4 w A n c bs N rb kb (by omega) (by omega) (by omega) (by omega) hd (by omega) (by omega) h) (fun _ => rfl) (fun _ => rfl) (fun _ => rfl) (fun _ => rfl) fun b5 hf1 he2 => ?_)
  refine sAs rfl rfl ?_
  refine send ?_
  refine eseq ?_
  refine HT.seq ?_
  refine HT.seq ?_
  refine HT.plain ?_
  refine sMv rfl rfl ?_
  refine sqS (q_notNil' rfl rfl Tryz.underlying59) rfl ?_
  refine send ?_
  refine eseq ?_
  refine HT.yes rfl ?_
  refine HT.seq ?_
  refine HT.plain ?_
  refine sMv rfl rfl ?_
  refine sAs rfl rfl ?_
  refine send ?_
  refine eseq ?_
  refine HT.ret ?_
  refine rt_then ?_
  exact fun a ha w' hw => fin_ ha (res1 ha Tryz.results96 rfl) ⟨b5, rfl, (hw.wk [(1, []), (0, []), (2, [])] rfl), fr0⟩

theorem geneve_d4 (w : World) (A : Option Addr) (n : Nat) (c : Nat) (bs : List UInt8) (N : Nat) (kb : Nat) (hn : n ≤ 400) (ha : 8 ≤ n) (hb : nb bs 0 ≤ 61) (hc : n - 7 < 4 * nb bs 0) (hd : ∀ i, i < N → vof bs i + 4 ≤ n ∧ vof bs (i + 1) ≤ n) (he : n - vof bs N ≠ 3) (hf : n < vof bs N + 4 ∨ n < vof bs (N + 1)) (hst : St w [kb] [⟨kb, 201, [some .nilIface], true⟩] [Byt A n c bs] w) : Calls Tryz.prog 79 #[(.slice A n c), (.iface 199 (.pointer (some ⟨kb, 0, none⟩)))] w (CP1 w [kb] [Byt A n c bs] (fun b5 => (.iface 204 (.pointer (some ⟨b5, 0, none⟩)))) (fun b5 => [⟨kb, 201, [some .nilIface], true⟩, ⟨b5, 206, [some (.string (⟨#[103, 101, 110, 101, 118, 101, 32, 112, 97, 99, 107, 101, 116, 32, 116, 111, 111, 32, 115, 104, 111, 114, 116]⟩))], true⟩]) (fun b5 => [])) := by
  have hnc00 : n ≤ c := (hst.fact (j := 0) rfl).2.1
  refine enter (vs := [(.slice A n c), (.iface 199 (.pointer (some ⟨kb, 0, none⟩)))]) Tryz.func79 rfl rfl rfl hst ?_
  refine HT.seq ?_
  refine HT.plain ?_
  refine sAs rfl rfl ?_
  refine send ?_
  refine eseq ?_
  refine HT.seq ?_
  refine HT.plain ?_
  refine sqS (q_build (vs := []) (v := (.agg #[(.slice none 0 0), (.slice none 0 0), (.int .u8 ((0 : Nat) : Int)), (.int .u8 ((0 : Nat) : Int)), (.bool false), (.bool false), (.int .u16 ((0 : Nat) : Int)), (.int .u32 ((0 : Nat) : Int)), (.slice none 0 0)])) rfl (fun _ => by kernel_rfl)) rfl ?_
  refine sl_ (l_box (by decide) rfl fun b7 => ?_)
  refine sAs rfl rfl ?_
  refine send ?_
  refine eseq ?_
  refine HT.seq ?_
  refine HT.plain ?_
  refine sMv rfl rfl ?_
  refine sqS (q_iface rfl Tryz.underlying114 (fun _ h => nomatch h)) rfl ?_
  refine sMv rfl rfl ?_
  refine sMv rfl rfl ?_
  refine sl_ (l_callX1 (vs := [(.iface 114 (.pointer (some ⟨b7, 0, none⟩))), (.slice A n c), (.iface 199 (.pointer (some ⟨kb, 0, none⟩)))]) (Kc := [⟨b7, 117, [some (.slice none 0 0), some (.slice none 0 0), some (.int .u8 ((0 : Nat) : Int)), some (.int .u8 ((0 : Nat) : Int)), some (.bool false), some (.bool false), some (.int .u16 ((0 : Nat) : Int)), some (.int .u32 ((0 : Nat) : Int)), some (.slice none 0 0)], true⟩, ⟨kb, 201, [some .nilIface], true⟩]) (Bc := [Byt A n c bs]) [1, 0] [0] [Byt A n c bs] (fun b5 => [⟨b7, 117, [some (.slice none 0 0), some (.slice none 0 0), some (.int .u8 (((nb bs 0) / 128 : Nat) : Int)), some (.int .u8 (((nb bs 0) * 4 : Nat) : Int)), some (.bool (decide (0 < (nb bs 1) &&& 128))), some (.bool (decide (0 < (nb bs 1) &&& 64))), some (.int .u16 ((bN bs 2 2 : Nat) : Int)), some (.int .u32 ((bN bs 4 3 : Nat) : Int)), some (.slice none 0 0)], true⟩, ⟨kb, 201, [some .nilIface], true⟩, ⟨b5, 206, [some (.string (⟨#[103, 101, 110, 101, 118, 101, 32, 112, 97, 99, 107, 101, 116, 32, 116, 111, 111, 32, 115, 104, 111, 114, 116]⟩))], true⟩]) (fun b5 => [Byt A n c bs]) (by decide) rfl ca_96 (fun _ h => h) rfl rfl rfl rfl (fun w h => geneve_dd4 w A n c bs N b7 kb (by omega) (by omega) (by omega) (by omega) hd (by omega) (by omega) h) (fun _ => rfl) (fun _ => rfl) (fun _ => rfl) (fun _ => rfl) fun b5 hf1 he2 => ?_)
  refine sAs rfl rfl ?_
  refine send ?_
  refine eseq ?_
  refine HT.ret ?_
  exact fun a ha w' hw => fin_ ha (res1 ha Tryz.results79 rfl) ⟨b5, rfl, (hw.wk [(1, []), (2, [])] rfl), fr0⟩

theorem geneve_z4 (w : World) (A : Option Addr) (n : Nat) (c : Nat) (bs : List UInt8) (N : Nat) (hn : n ≤ 400) (ha : 8 ≤ n) (hb : nb bs 0 ≤ 61) (hc : n - 7 < 4 * nb bs 0) (hd : ∀ i, i < N → vof bs i + 4 ≤ n ∧ vof bs (i + 1) ≤ n) (he : n - vof bs N ≠ 3) (hf : n < vof bs N + 4 ∨ n < vof bs (N + 1)) (hst : St w [] [] [Byt A n c bs] w) : Calls Tryz.prog 58 #[(.string ⟨#[103, 101, 110, 101, 118, 101]⟩), (.slice A n c)] w (CP1 w [] [Byt A n c bs] (fun b5_1 => (.tuple #[.nilIface, (.iface 204 (.pointer (some ⟨b5_1, 0, none⟩)))])) (fun b5_1 => [⟨b5_1, 206, [some (.string (⟨#[103, 101, 110, 101, 118, 101, 32, 112, 97, 99, 107, 101, 116, 32, 116, 111, 111, 32, 115, 104, 111, 114, 116]⟩))], true⟩]) (fun b5_1 => [])) := by
  have hnc00 : n ≤ c := (hst.fact (j := 0) rfl).2.1
  refine enter (vs := [(.string ⟨#[103, 101, 110, 101, 118, 101]⟩), (.slice A n c)]) Tryz.func58 rfl rfl rfl hst ?_
  refine HT.seq ?_
  refine HT.plain ?_
  refine sAs rfl rfl ?_
  refine sAs rfl rfl ?_
  refine send ?_
  refine eseq ?_
  refine HT.seq ?_
  refine HT.plain ?_
  refine sqS (q_build (vs := []) (v := (.agg #[.nilIface])) rfl (fun _ => by kernel_rfl)) rfl ?_
  refine sl_ (l_box (by decide) rfl fun b9 => ?_)
  refine sAs rfl rfl ?_
  refine send ?_
  refine eseq ?_
  refine HT.seq ?_
  refine HT.plain ?_
  refine sl_ (l_callX1 (vs := [(.string ⟨#[110, 111, 32, 107, 105, 110, 100]⟩)]) (Kc := []) (Bc := []) [] [] [Byt A n c bs] (fun b5 => [⟨b9, 201, [some .nilIface], true⟩, ⟨b5, 206, [some (.string (⟨#[110, 111, 32, 107, 105, 110, 100]⟩))], true⟩]) (fun b5 => [Byt A n c bs]) (by decide) rfl ca_67 (fun _ h => h) rfl rfl rfl rfl (fun w h => errNew w (⟨#[110, 111, 32, 107, 105, 110, 100]⟩)  h) (fun _ => rfl) (fun _ => rfl) (fun _ => rfl) (fun _ => rfl) fun b5 hf1 he2 => ?_)
  refine sAs rfl rfl ?_
  refine send ?_
  refine eseq ?_
  refine HT.seq ?_
  refine HT.seq ?_
  refine HT.plain ?_
  refine sMv rfl rfl ?_
  refine send ?_
  refine eseq ?_
  refine HT.block ?_
  refine HT.seq ?_
  refine HT.plain ?_
  refine sqS (q_eqs rfl rfl (r := false) (by kernel_rfl)) rfl ?_
  refine sAs rfl rfl ?_
  refine send ?_
  refine eseq ?_
  refine HT.no rfl ?_
  refine HT.seq ?_
  refine HT.plain ?_
  refine sqS (q_eqs rfl rfl (r := false) (by kernel_rfl)) rfl ?_
  refine sAs rfl rfl ?_
  refine send ?_
  refine eseq ?_
  refine HT.no rfl ?_
  refine HT.seq ?_
  refine HT.plain ?_
  refine sqS (q_eqs rfl rfl (r := false) (by kernel_rfl)) rfl ?_
  refine sAs rfl rfl ?_
  refine send ?_
  refine eseq ?_
  refine HT.no rfl ?_
  refine HT.seq ?_
  refine HT.plain ?_
  refine sqS (q_eqs rfl rfl (r := false) (by kernel_rfl)) rfl ?_
  refine sAs rfl rfl ?_
  refine send ?_
  refine eseq ?_
  refine HT.no rfl ?_
  refine HT.seq ?_
  refine HT.plain ?_
  refine sqS (q_eqs rfl rfl (r := false) (by kernel_rfl)) rfl ?_
  refine sAs rfl rfl ?_
  refine send ?_
  refine eseq ?_
  refine HT.no rfl ?_
  refine HT.seq ?_
  refine HT.plain ?_
  refine sqS (q_eqs rfl rfl (r := false) (by kernel_rfl)) rfl ?_
  refine sAs rfl rfl ?_
  refine send ?_
  refine eseq ?_
  refine HT.no rfl ?_
  refine HT.seq ?_
  refine HT.plain ?_
  refine sqS (q_eqs rfl rfl (r := false) (by kernel_rfl)) rfl ?_
  refine sAs rfl rfl ?_
  refine send ?_
  refine eseq ?_
  refine HT.no rfl ?_
  refine HT.seq ?_
  refine HT.plain ?_
  refine sqS (q_eqs rfl rfl (r := false) (by kernel_rfl)) rfl ?_
  refine sAs rfl rfl ?_
  refine send ?_
  refine eseq ?_
  refine HT.no rfl ?_
  refine HT.seq ?_
  refine HT.plain ?_
  refine sqS (q_eqs rfl rfl (r := false) (by kernel_rfl)) rfl ?_
  refine sAs rfl rfl ?_
  refine send ?_
  refine eseq ?_
  refine HT.no rfl ?_
  refine HT.seq ?_
  refine HT.plain ?_
  refine sqS (q_eqs rfl rfl (r := false) (by kernel_rfl)) rfl ?_
  refine sAs rfl rfl ?_
  refine send ?_
  refine eseq ?_
  refine HT.no rfl ?_
  refine HT.seq ?_
  refine HT.plain ?_
  refine sqS (q_eqs rfl rfl (r := false) (by kernel_rfl)) rfl ?_
  refine sAs rfl rfl ?_
  refine send ?_
  refine eseq ?_
  refine HT.no rfl ?_
  refine HT.seq ?_
  refine HT.plain ?_
  refine sqS (q_eqs rfl rfl (r := true) (by kernel_rfl)) rfl ?_
  refine sAs rfl rfl ?_
  refine send ?_
  refine eseq ?_
  refine HT.yes rfl ?_
  refine HT.plain ?_
  refine sMv rfl rfl ?_
  refine sMv rfl rfl ?_
  refine sqS (q_iface rfl Tryz.underlying199 (fun _ h => nomatch h)) rfl ?_
  refine sl_ (l_callX1 (vs := [(.slice A n c), (.iface 199 (.pointer (some ⟨b9, 0, none⟩)))]) (Kc := [⟨b9, 201, [some .nilIface], true⟩]) (Bc := [Byt A n c bs]) [0] [0] [Byt A n c bs] (fun b5_1 => [⟨b5, 206, [some (.string (⟨#[110, 111, 32, 107, 105, 110, 100]⟩))], true⟩, ⟨b9, 201, [some .nilIface], true⟩, ⟨b5_1, 206, [some (.string (⟨#[103, 101, 110, 101, 118, 101, 32, 112, 97, 99, 107, 101, 116, 32, 116, 111, 111, 32, 115, 104, 111, 114, 116]⟩))], true⟩]) (fun b5_1 => [Byt A n c bs]) (by decide) rfl ca_79 (fun _ h => h) rfl rfl rfl rfl (fun w h => geneve_d4 w A n c bs N b9 (by omega) (by omega) (by omega) (by omega) hd (by omega) (by omega) h) (fun _ => rfl) (fun _ => rfl) (fun _ => rfl) (fun _ => rfl) fun b5_1 hf3 he4 => ?_)
  refine sAs rfl rfl ?_
  refine send ?_
  refine ein ?_
  refine eseq ?_
  refine HT.seq ?_
  refine HT.seq ?_
  refine HT.plain ?_
  refine sMv rfl rfl ?_
  refine sqS (q_notNil' rfl rfl Tryz.underlying59) rfl ?_
  refine send ?_
  refine eseq ?_
  refine HT.yes rfl ?_
  refine HT.seq ?_
  refine HT.plain ?_
  refine sMv rfl rfl ?_
  refine sAs rfl rfl ?_
  refine sAs rfl rfl ?_
  refine send ?_
  refine eseq ?_
  refine HT.ret ?_
  refine rt_then ?_
  exact fun a ha w' hw => fin_ ha (res2 ha Tryz.results58 rfl rfl) ⟨b5_1, rfl, (hw.wk [(2, [])] rfl), fr0⟩

theorem geneve_e4 (w : World) (A : Option Addr) (n : Nat) (c : Nat) (bs : List UInt8) (N : Nat) (hn : n ≤ 400) (ha : 8 ≤ n) (hb : nb bs 0 ≤ 61) (hc : n - 7 < 4 * nb bs 0) (hd : ∀ i, i < N → vof bs i + 4 ≤ n ∧ vof bs (i + 1) ≤ n) (he : n - vof bs N ≠ 3) (hf : n < vof bs N + 4 ∨ n < vof bs (N + 1)) (hst : St w [] [] [Byt A n c bs] w) : Calls Tryz.prog 46 #[(.string ⟨#[103, 101, 110, 101, 118, 101]⟩), (.slice A n c)] w (fun e w' => e = .returned (.tuple #[.nilIface, (.bool false)]) ∧ Pres [] w w') := by
  have hnc00 : n ≤ c := (hst.fact (j := 0) rfl).2.1
  refine enter (vs := [(.string ⟨#[103, 101, 110, 101, 118, 101]⟩), (.slice A n c)]) Tryz.func46 rfl rfl rfl hst ?_
  refine HT.seq ?_
  refine HT.plain ?_
  refine sAs rfl rfl ?_
  refine sAs rfl rfl ?_
  refine send ?_
  refine eseq ?_
  refine HT.seq ?_
  refine HT.seq ?_
  refine HT.plain ?_
  refine sMv rfl rfl ?_
  refine sqS (q_len (len := n) rfl Tryz.underlying22) rfl ?_
  refine sqS (q_F (q_gt (p := n) (q := 2000) rfl rfl) (by omega)) rfl ?_
  refine send ?_
  refine eseq ?_
  refine HT.no rfl ?_
  refine HT.skip ?_
  refine eseq ?_
  refine HT.seq ?_
  refine HT.plain ?_
  refine sMv rfl rfl ?_
  refine sAs rfl rfl ?_
  refine send ?_
  refine eseq ?_
  refine HT.seq ?_
  refine HT.seq ?_
  refine HT.plain ?_
  refine sMv rfl rfl ?_
  refine sqS (q_eqs rfl rfl (r := false) (by kernel_rfl)) rfl ?_
  refine sMv rfl rfl ?_
  refine sgqS rfl (q_move rfl) rfl ?_
  refine sgqS rfl (q_eqs rfl rfl (r := false) (by kernel_rfl)) rfl ?_
  refine sqS (q_pick rfl (fun h => nomatch h) (fun _ => rfl)) rfl ?_
  refine send ?_
  refine eseq ?_
  refine HT.no rfl ?_
  refine HT.seq ?_
  refine HT.plain ?_
  refine sMv rfl rfl ?_
  refine sqS (q_eqs rfl rfl (r := false) (by kernel_rfl)) rfl ?_
  refine send ?_
  refine eseq ?_
  refine HT.no rfl ?_
  refine HT.skip ?_
  refine eseq ?_
  refine HT.seq ?_
  refine HT.seq ?_
  refine HT.plain ?_
  refine sMv rfl rfl ?_
  refine sMv rfl rfl ?_
  refine sqS (q_call (vs := [(.string ⟨#[103, 101, 110, 101, 118, 101]⟩), (.slice A n c)]) (v := (.bool true)) rfl ca_57 (fun w h => geneve_c4 w A n c bs N (by omega) (by omega) (by omega) (by omega) hd (by omega) (by omega) (St.enter (sp := []) (Kc := []) (bi := [0]) h rfl rfl rfl))) rfl ?_
  refine sqS (q_not rfl) rfl ?_
  refine send ?_
  refine eseq ?_
  refine HT.no rfl ?_
  refine HT.skip ?_
  refine eseq ?_
  refine HT.seq ?_
  refine HT.plain ?_
  refine sMv rfl rfl ?_
  refine sMv rfl rfl ?_
  refine sl_ (l_callX2 (vs := [(.slice A n c)]) (Kc := []) (Bc := [Byt A n c bs]) [] [0] [Byt A n c bs] (fun A5 c5 => []) (fun A5 c5 => [Byt A n c bs, Byt A5 n c5 bs]) (by decide) rfl ca_59 (fun _ h => h) rfl rfl rfl rfl (fun w h => Clone w A n c bs (by omega) h) (fun _ _ => rfl) (fun _ _ => rfl) (fun _ _ => rfl) (fun _ _ => rfl) fun A5 c5 hf1 he2 => ?_)
  have hnc3 : n ≤ c5 := by obtain ⟨w, h⟩ := he2; exact (h _ List.mem_cons_self).2.1
  refine sl_ (l_callX1 (vs := [(.string ⟨#[103, 101, 110, 101, 118, 101]⟩), (.slice A5 n c5)]) (Kc := []) (Bc := [Byt A5 n c5 bs]) [] [1] [Byt A n c bs, Byt A5 n c5 bs] (fun b5_1 => [⟨b5_1, 206, [some (.string (⟨#[103, 101, 110, 101, 118, 101, 32, 112, 97, 99, 107, 101, 116, 32, 116, 111, 111, 32, 115, 104, 111, 114, 116]⟩))], true⟩]) (fun b5_1 => [Byt A n c bs, Byt A5 n c5 bs]) (by decide) rfl ca_58 (fun _ h => h) rfl rfl rfl rfl (fun w h => geneve_z4 w A5 n c5 bs N (by omega) (by omega) (by omega) (by omega) hd (by omega) (by omega) h) (fun _ => rfl) (fun _ => rfl) (fun _ => rfl) (fun _ => rfl) fun b5_1 hf4 he5 => ?_)
  refine sMv rfl rfl ?_
  refine sqS (q_extract (vs := [.nilIface, (.iface 204 (.pointer (some ⟨b5_1, 0, none⟩)))]) (i := 0) rfl rfl) rfl ?_
  refine sqS (q_extract (vs := [.nilIface, (.iface 204 (.pointer (some ⟨b5_1, 0, none⟩)))]) (i := 1) rfl rfl) rfl ?_
  refine sAs rfl rfl ?_
  refine sAs rfl rfl ?_
  refine send ?_
  refine eseq ?_
  refine HT.seq ?_
  refine HT.seq ?_
  refine HT.plain ?_
  refine sMv rfl rfl ?_
  refine sqS (q_notNil' rfl rfl Tryz.underlying59) rfl ?_
  refine sMv rfl rfl ?_
  refine sskip rfl rfl ?_
  refine sskip rfl rfl ?_
  refine sqS (q_pick rfl (fun _ => rfl) (fun h => nomatch h)) rfl ?_
  refine send ?_
  refine eseq ?_
  refine HT.yes rfl ?_
  refine HT.seq ?_
  refine HT.plain ?_
  refine sAs rfl rfl ?_
  refine sAs rfl rfl ?_
  refine send ?_
  refine eseq ?_
  refine HT.ret ?_
  refine rt_then ?_
  exact fun a ha w' hw => fin_ ha (res2 ha Tryz.results46 rfl rfl) ⟨rfl, hw.pres⟩

theorem geneve_I4 (w : World) (A : Option Addr) (n : Nat) (c : Nat) (bs : List UInt8) (N : Nat) (hn : n ≤ 400) (ha : 8 ≤ n) (hb : nb bs 0 ≤ 61) (hc : n - 7 < 4 * nb bs 0) (hd : ∀ i, i < N → vof bs i + 4 ≤ n ∧ vof bs (i + 1) ≤ n) (he : n - vof bs N ≠ 3) (hf : n < vof bs N + 4 ∨ n < vof bs (N + 1)) (hst : St w [] [] [Byt A n c bs] w) : Calls Tryz.prog 27 #[(.string ⟨#[103, 101, 110, 101, 118, 101]⟩), (.slice A n c)] w (IP w (Byt A n c bs) (some none)) := by
  have hnc00 : n ≤ c := (hst.fact (j := 0) rfl).2.1
  refine enter (vs := [(.string ⟨#[103, 101, 110, 101, 118, 101]⟩), (.slice A n c)]) Tryz.func27 rfl rfl rfl hst ?_
  refine HT.seq ?_
  refine HT.plain ?_
  refine sl_ (l_alloc (by decide) zero_29 fun b4 => ?_)
  refine sAs rfl rfl ?_
  refine send ?_
  refine eseq ?_
  refine HT.seq ?_
  refine HT.plain ?_
  refine sMv rfl rfl ?_
  refine sMv rfl rfl ?_
  refine sqS (q_call (vs := [(.string ⟨#[103, 101, 110, 101, 118, 101]⟩), (.slice A n c)]) (v := (.tuple #[.nilIface, (.bool false)])) rfl ca_46 (fun w h => geneve_e4 w A n c bs N (by omega) (by omega) (by omega) (by omega) hd (by omega) (by omega) (St.enter (sp := []) (Kc := []) (bi := [0]) h rfl rfl rfl))) rfl ?_
  refine sMv rfl rfl ?_
  refine sqS (q_extract (vs := [.nilIface, (.bool false)]) (i := 0) rfl rfl) rfl ?_
  refine sqS (q_extract (vs := [.nilIface, (.bool false)]) (i := 1) rfl rfl) rfl ?_
  refine sAs rfl rfl ?_
  refine sAs rfl rfl ?_
  refine send ?_
  refine eseq ?_
  refine HT.seq ?_
  refine HT.seq ?_
  refine HT.plain ?_
  refine sMv rfl rfl ?_
  refine sqS (q_not rfl) rfl ?_
  refine send ?_
  refine eseq ?_
  refine HT.yes rfl ?_
  refine HT.seq ?_
  refine HT.plain ?_
  refine sqS (q_build (vs := []) (v := (.agg #[(.slice none 0 0), (.slice none 0 0), (.slice none 0 0), (.slice none 0 0)])) rfl (fun _ => by kernel_rfl)) rfl ?_
  refine sl_ (l_storeAgg (b := b4) (off := 0) (j := 0) (vs := [(.slice none 0 0), (.slice none 0 0), (.slice none 0 0), (.slice none 0 0)]) rfl rfl aggs_29 (by simp [Value.one1]) rfl rfl rfl (Nat.le_of_ble_eq_true rfl) ?_)
  refine sAs rfl rfl ?_
  refine send ?_
  refine eseq ?_
  refine HT.ret ?_
  refine rt_then ?_
  exact fun a ha w' hw => fin_ ha (resc2 ha Tryz.results27 rfl (ld_ aggs_29 hw (j := 0) rfl rfl (vs := [(.slice none 0 0), (.slice none 0 0), (.slice none 0 0), (.slice none 0 0)]) rfl) rfl) ⟨rfl, hw.pres⟩
end Go.Proofs.YtfkaafbeeegenaaGreat.Zed
