/- FnReadGeneve -/
import Derived.Test.YtfkaafbeeegenaaGreatRead
import Derived.Test.YtfkaafbeeegenaaGreatRow
import Derived.Test.YtfkaafbeeegenaaGreatGeneve0
import Derived.Test.YtfkaafbeeegenaaGreatGenevea
import Derived.Test.YtfkaafbeeegenaaGreatGeneved
import Derived.Test.YtfkaafbeeegenaaGreatGenevee
import Derived.Test.YtfkaafbeeegenaaGreatGenevef
import Derived.Test.YtfkaafbeeegenaaGreatGeneveg
import Derived.KernelRfl
namespace Go.Proofs.YtfkaafbeeegenaaGreat.Zed
set_option linter.unusedVariables false
set_option linter.unusedSimpArgs false
set_option maxRecDepth 100000
set_option maxHeartbeats 4000000
theorem ca_25 : callable Tryz.prog 25 = true := by kernel_rfl

theorem read_geneve (w : World) (A : Option Addr) (n c : Nat) (bs : List UInt8) (hn : n ≤ 2147483647) (hst : St w [] [] [Byt A n c bs] w) : Calls Tryz.prog 25 #[(.string ⟨#[103, 101, 110, 101, 118, 101]⟩), (.slice A n c)] w (fun e w' => e = .returned (.bool true) ∧ Pres [] w w') := by
  by_cases x1 : n < 8
  · exact readC w A n c bs _ (some none) (fun D h _ => by cases h) (fun w hB0 => geneve_S0 w A n c bs hn (by omega) (St.start1 (M := []) hB0)) (fun h4 x h w hB0 => by cases h; exact geneve_I0 w A n c bs h4 (by omega) (St.start1 (M := []) hB0)) hst
  by_cases x2 : 64 ≤ nb bs 0
  · exact readC w A n c bs _ none (fun D h _ => by cases h) (fun w hB0 => geneve_S1 w A n c bs hn (by omega) (by omega) (St.start1 (M := []) hB0)) (fun _ x h => by cases h) hst
  by_cases x3 : 61 < nb bs 0
  · exact readC w A n c bs _ none (fun D h _ => by cases h) (fun w hB0 => geneve_S2 w A n c bs hn (by omega) (by omega) (by omega) (St.start1 (M := []) hB0)) (fun _ x h => by cases h) hst
  by_cases x4 : n - 8 < 4 * nb bs 0
  · obtain ⟨N, hE, hN⟩ := og_end (fun p => 4 + 4 * (nb bs (p + 3) % 16)) 8 (fun i => vof bs i + 4 ≤ n ∧ vof bs (i + 1) ≤ n) (n + 512) (fun i h => by have h2 := vof_succ bs i; have h1 : vof bs i + 4 ≤ n ∧ vof bs (i + 1) ≤ n := h; show vof bs i < vof bs (i + 1) ∧ vof bs (i + 1) ≤ n + 512; omega)
    replace hE : ∀ i, i < N → vof bs i + 4 ≤ n ∧ vof bs (i + 1) ≤ n := hE
    replace hN : ¬ (vof bs N + 4 ≤ n ∧ vof bs (N + 1) ≤ n) := hN
    have hL := vof_le (e := n) (by omega) (fun j hj => (hE j hj).2) N (Nat.le_refl N)
    by_cases x5 : n - vof bs N = 3
    · exact readC w A n c bs _ (some none) (fun D h _ => by cases h) (fun w hB0 => geneve_S3 w A n c bs N hn (by omega) (by omega) (by omega) (St.start1 (M := []) hB0)) (fun h4 x h w hB0 => by cases h; exact geneve_I3 w A n c bs N h4 (by omega) (by omega) (by omega) hE (by omega) (St.start1 (M := []) hB0)) hst
    by_cases x6 : n - 7 < 4 * nb bs 0
    · exact readC w A n c bs _ (some none) (fun D h _ => by cases h) (fun w hB0 => geneve_S3 w A n c bs N hn (by omega) (by omega) (by omega) (St.start1 (M := []) hB0)) (fun h4 x h w hB0 => by cases h; exact geneve_I4 w A n c bs N h4 (by omega) (by omega) (by omega) hE (by omega) (by omega) (St.start1 (M := []) hB0)) hst
    · exact readC w A n c bs _ (some none) (fun D h _ => by cases h) (fun w hB0 => geneve_S3 w A n c bs N hn (by omega) (by omega) (by omega) (St.start1 (M := []) hB0)) (fun h4 x h w hB0 => by cases h; exact geneve_I5 w A n c bs N h4 (by omega) (by omega) (by omega) hE (by omega) (by omega) (St.start1 (M := []) hB0)) hst
  obtain ⟨N, hE, hN⟩ := og_end (fun p => 4 + 4 * (nb bs (p + 3) % 16)) 8 (fun i => vof bs i < 8 + 4 * nb bs 0 ∧ vof bs (i + 1) ≤ 8 + 4 * nb bs 0 ∧ nb bs (vof bs i + 3) / 16 % 2 = 0) (n + 512) (fun i h => by have h2 := vof_succ bs i; have h1 : vof bs i < 8 + 4 * nb bs 0 ∧ vof bs (i + 1) ≤ 8 + 4 * nb bs 0 ∧ nb bs (vof bs i + 3) / 16 % 2 = 0 := h; show vof bs i < vof bs (i + 1) ∧ vof bs (i + 1) ≤ n + 512; omega)
  replace hE : ∀ i, i < N → vof bs i < 8 + 4 * nb bs 0 ∧ vof bs (i + 1) ≤ 8 + 4 * nb bs 0 ∧ nb bs (vof bs i + 3) / 16 % 2 = 0 := hE
  replace hN : ¬ (vof bs N < 8 + 4 * nb bs 0 ∧ vof bs (N + 1) ≤ 8 + 4 * nb bs 0 ∧ nb bs (vof bs N + 3) / 16 % 2 = 0) := hN
  have hL := vof_le (e := 8 + 4 * nb bs 0) (by omega) (fun j hj => (hE j hj).2.1) N (Nat.le_refl N)
  by_cases x7 : vof bs N = 8 + 4 * nb bs 0
  · exact readC w A n c bs _ (some (some ⟨[0, 4 * (nb bs 0), bitN (decide (((nb bs 1) &&& 128) ≠ 0)), bitN (decide (((nb bs 1) &&& 64) ≠ 0)), bN bs 2 2, bN bs 4 3], [], ((List.range N).map (fun j => ([bN bs (vof bs j) 2, nb bs (vof bs j + 2), nb bs (vof bs j + 3) / 16, 4 + 4 * (nb bs (vof bs j + 3) % 16)], sl bs (vof bs j + 4) (vof bs (j + 1))))), sl bs (8 + (4 * (nb bs 0))) n⟩)) (fun D h hp => by cases h; refine ⟨by simp, by simp, Nat.le_trans hp (by decide), fun p hm => ?_⟩; obtain ⟨j, _, rfl⟩ := List.mem_map.1 hm; simp) (fun w hB0 => geneve_S6 w A n c bs N hn (by omega) (by omega) (by omega) hE (by omega) (St.start1 (M := []) hB0)) (fun h4 x h w hB0 => by cases h; exact geneve_I6 w A n c bs N h4 (by omega) (by omega) (by omega) hE (by omega) (St.start1 (M := []) hB0)) hst
  · exact readC w A n c bs _ none (fun D h _ => by cases h) (fun w hB0 => geneve_S7 w A n c bs N hn (by omega) (by omega) (by omega) hE (by omega) (by omega) (St.start1 (M := []) hB0)) (fun _ x h => by cases h) hst

theorem fn_geneveB (w : World) (A : Option Addr) (n : Nat) (c : Nat) (bs : List UInt8) (hn : 2147483647 < n) (hst : St w [] [] [Byt A n c bs] w) : Calls Tryz.prog 10 #[(.slice A n c)] w (fun e w' => e = .returned (.bool true) ∧ Pres [] w w') := by
  have hnc00 : n ≤ c := (hst.fact (j := 0) rfl).2.1
  refine enter (vs := [(.slice A n c)]) Tryz.func10 rfl rfl rfl hst ?_
  refine HT.seq ?_
  refine HT.plain ?_
  refine sq (St.closed _ _ _ _) (q_assign rfl) rfl ?_
  refine send ?_
  refine eseq ?_
  refine HT.seq ?_
  refine HT.seq ?_
  refine HT.plain ?_
  refine sq (St.closed _ _ _ _) (q_move rfl) rfl ?_
  refine sq (St.closed _ _ _ _) (q_len (len := n) rfl Tryz.underlying22) rfl ?_
  refine sq (St.closed _ _ _ _) (q_T (q_gt (p := n) (q := 2147483647) rfl rfl) (by omega)) rfl ?_
  refine send ?_
  refine eseq ?_
  refine HT.yes rfl ?_
  refine HT.seq ?_
  refine HT.plain ?_
  refine sq (St.closed _ _ _ _) (q_assign rfl) rfl ?_
  refine send ?_
  refine eseq ?_
  refine HT.ret ?_
  refine rt_then ?_
  exact fun a ha w' hw => fin_ ha (res1 ha Tryz.results10 rfl) ⟨rfl, hw.pres⟩

theorem fn_geneveL (w : World) (A : Option Addr) (n : Nat) (c : Nat) (bs : List UInt8) (hn : n ≤ 2147483647) (hst : St w [] [] [Byt A n c bs] w) : Calls Tryz.prog 10 #[(.slice A n c)] w (fun e w' => e = .returned (.bool true) ∧ Pres [] w w') := by
  have hnc00 : n ≤ c := (hst.fact (j := 0) rfl).2.1
  refine enter (vs := [(.slice A n c)]) Tryz.func10 rfl rfl rfl hst ?_
  refine HT.seq ?_
  refine HT.plain ?_
  refine sq (St.closed _ _ _ _) (q_assign rfl) rfl ?_
  refine send ?_
  refine eseq ?_
  refine HT.seq ?_
  refine HT.seq ?_
  refine HT.plain ?_
  refine sq (St.closed _ _ _ _) (q_move rfl) rfl ?_
  refine sq (St.closed _ _ _ _) (q_len (len := n) rfl Tryz.underlying22) rfl ?_
  refine sq (St.closed _ _ _ _) (q_F (q_gt (p := n) (q := 2147483647) rfl rfl) (by omega)) rfl ?_
  refine send ?_
  refine eseq ?_
  refine HT.no rfl ?_
  refine HT.skip ?_
  refine eseq ?_
  refine HT.seq ?_
  refine HT.plain ?_
  refine sq (St.closed _ _ _ _) (q_move rfl) rfl ?_
  refine sq (St.closed _ _ _ _) (q_call (vs := [(.string ⟨#[103, 101, 110, 101, 118, 101]⟩), (.slice A n c)]) (v := (.bool true)) rfl ca_25 (fun w h => read_geneve w A n c bs (by omega) (St.enter (sp := []) (Kc := []) (bi := [0]) h rfl rfl rfl))) rfl ?_
  refine sq (St.closed _ _ _ _) (q_assign rfl) rfl ?_
  refine send ?_
  refine eseq ?_
  refine HT.ret ?_
  exact fun a ha w' hw => fin_ ha (res1 ha Tryz.results10 rfl) ⟨rfl, hw.pres⟩

theorem fn_geneve (w : World) (A : Option Addr) (n c : Nat) (bs : List UInt8) (hst : St w [] [] [Byt A n c bs] w) : Calls Tryz.prog 10 #[(.slice A n c)] w (fun e w' => e = .returned (.bool true) ∧ Pres [] w w') := by
  rcases Nat.lt_or_ge 2147483647 n with hn | hn
  · exact fn_geneveB w A n c bs hn hst
  · exact fn_geneveL w A n c bs hn hst
end Go.Proofs.YtfkaafbeeegenaaGreat.Zed
