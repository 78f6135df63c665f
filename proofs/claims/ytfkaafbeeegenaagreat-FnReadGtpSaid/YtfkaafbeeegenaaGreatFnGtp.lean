/- FnReadGtp -/
import Derived.Test.YtfkaafbeeegenaaGreatRead
import Derived.Test.YtfkaafbeeegenaaGreatRow
import Derived.Test.YtfkaafbeeegenaaGreatGtp0x
import Derived.Test.YtfkaafbeeegenaaGreatGtp0
import Derived.Test.YtfkaafbeeegenaaGreatGtpa
import Derived.Test.YtfkaafbeeegenaaGreatGtpb
import Derived.Test.YtfkaafbeeegenaaGreatGtpc
import Derived.Test.YtfkaafbeeegenaaGreatGtpd
import Derived.Test.YtfkaafbeeegenaaGreatGtpe
import Derived.Test.YtfkaafbeeegenaaGreatGtpg
import Derived.Test.YtfkaafbeeegenaaGreatGtpl
import Derived.Test.YtfkaafbeeegenaaGreatGtpn
import Derived.KernelRfl
namespace Go.Proofs.YtfkaafbeeegenaaGreat.Zed
set_option linter.unusedVariables false
set_option linter.unusedSimpArgs false
set_option maxRecDepth 100000
set_option maxHeartbeats 4000000
theorem ca_25 : callable Tryz.prog 25 = true := by kernel_rfl

theorem read_gtp (w : World) (A : Option Addr) (n c : Nat) (bs : List UInt8) (hn : n ≤ 2147483647) (hst : St w [] [] [Byt A n c bs] w) : Calls Tryz.prog 25 #[(.string ⟨#[103, 116, 112]⟩), (.slice A n c)] w (fun e w' => e = .returned (.bool true) ∧ Pres [] w w') := by
  by_cases x1 : n < 8
  · exact readC w A n c bs _ (some none) (fun D h _ => by cases h) (fun w hB0 => gtp_S0 w A n c bs hn (by omega) (St.start1 (M := []) hB0)) (fun h4 x h w hB0 => by cases h; exact gtp_I0 w A n c bs h4 (by omega) (St.start1 (M := []) hB0)) hst
  by_cases x2 : n - 8 < bN bs 2 2
  · by_cases x3 : 65528 ≤ bN bs 2 2
    · exact readC w A n c bs _ none (fun D h _ => by cases h) (fun w hB0 => gtp_S5 w A n c bs hn (by omega) (by omega) (by omega) (St.start1 (M := []) hB0)) (fun _ x h => by cases h) hst
    by_cases x4 : n < 12
    · exact readC w A n c bs _ (some none) (fun D h _ => by cases h) (fun w hB0 => gtp_S1 w A n c bs hn (by omega) (by omega) (by omega) (St.start1 (M := []) hB0)) (fun h4 x h w hB0 => by cases h; exact gtp_I1 w A n c bs h4 (by omega) (by omega) (by omega) (by omega) (St.start1 (M := []) hB0)) hst
    by_cases x5 : nb bs 0 / 4 % 2 = 0
    · exact readC w A n c bs _ (some none) (fun D h _ => by cases h) (fun w hB0 => gtp_S1 w A n c bs hn (by omega) (by omega) (by omega) (St.start1 (M := []) hB0)) (fun h4 x h w hB0 => by cases h; exact gtp_I2 w A n c bs h4 (by omega) (by omega) (by omega) (by omega) (by omega) (St.start1 (M := []) hB0)) hst
    obtain ⟨N, hE, hN⟩ := og_end (fun p => 4 * nb bs p) 12 (fun i => tof bs i < n ∧ nb bs (tof bs i) ≠ 0 ∧ tof bs i + 4 * nb bs (tof bs i) ≤ n ∧ nb bs (tof bs (i + 1) - 1) ≠ 0) n (fun i h => by have h2 := tof_succ bs i; have h1 : tof bs i < n ∧ nb bs (tof bs i) ≠ 0 ∧ tof bs i + 4 * nb bs (tof bs i) ≤ n ∧ nb bs (tof bs (i + 1) - 1) ≠ 0 := h; show tof bs i < tof bs (i + 1) ∧ tof bs (i + 1) ≤ n; omega)
    replace hE : ∀ i, i < N → tof bs i < n ∧ nb bs (tof bs i) ≠ 0 ∧ tof bs i + 4 * nb bs (tof bs i) ≤ n ∧ nb bs (tof bs (i + 1) - 1) ≠ 0 := hE
    replace hN : ¬ (tof bs N < n ∧ nb bs (tof bs N) ≠ 0 ∧ tof bs N + 4 * nb bs (tof bs N) ≤ n ∧ nb bs (tof bs (N + 1) - 1) ≠ 0) := hN
    by_cases x6 : n ≤ tof bs N
    · exact readC w A n c bs _ (some none) (fun D h _ => by cases h) (fun w hB0 => gtp_S1 w A n c bs hn (by omega) (by omega) (by omega) (St.start1 (M := []) hB0)) (fun h4 x h w hB0 => by cases h; exact gtp_I3 w A n c bs N h4 (by omega) (by omega) (by omega) (by omega) (by omega) hE (by omega) (St.start1 (M := []) hB0)) hst
    · exact readC w A n c bs _ (some none) (fun D h _ => by cases h) (fun w hB0 => gtp_S1 w A n c bs hn (by omega) (by omega) (by omega) (St.start1 (M := []) hB0)) (fun h4 x h w hB0 => by cases h; exact gtp_I4 w A n c bs N h4 (by omega) (by omega) (by omega) (by omega) (by omega) hE (by omega) (by omega) (St.start1 (M := []) hB0)) hst
  by_cases y1 : nb bs 0 % 8 = 0
  · exact readC w A n c bs _ (some (some ⟨[(nb bs 0) / 32, ((nb bs 0) / 16) &&& 1, ((nb bs 0) / 8) &&& 1, ((nb bs 0) / 4) &&& 1, ((nb bs 0) / 2) &&& 1, (nb bs 0) &&& 1, nb bs 1, bN bs 2 2, bN bs 4 4, 0, 0], [], [], sl bs 8 n⟩)) (fun D h _ => by cases h; simp [LD.small]) (fun w hB0 => gtp_S6 w A n c bs hn (by omega) (by omega) (by omega) (St.start1 (M := []) hB0)) (fun h4 x h w hB0 => by cases h; exact gtp_I6 w A n c bs h4 (by omega) (by omega) (by omega) (St.start1 (M := []) hB0)) hst
  by_cases y2 : n < 12
  · exact readC w A n c bs _ none (fun D h _ => by cases h) (fun w hB0 => gtp_S7 w A n c bs hn (by omega) (by omega) (by omega) (by omega) (St.start1 (M := []) hB0)) (fun _ x h => by cases h) hst
  by_cases y3 : bN bs 2 2 < 4
  · exact readC w A n c bs _ none (fun D h _ => by cases h) (fun w hB0 => gtp_S8 w A n c bs hn (by omega) (by omega) (by omega) (by omega) (by omega) (St.start1 (M := []) hB0)) (fun _ x h => by cases h) hst
  by_cases y4 : nb bs 0 / 2 % 2 = 0
  · exact readC w A n c bs _ none (fun D h _ => by cases h) (fun w hB0 => gtp_S9 w A n c bs hn (by omega) (by omega) (by omega) (by omega) (by omega) (by omega) (St.start1 (M := []) hB0)) (fun _ x h => by cases h) hst
  by_cases y5 : nb bs 0 % 2 = 0
  · exact readC w A n c bs _ none (fun D h _ => by cases h) (fun w hB0 => gtp_S10 w A n c bs hn (by omega) (by omega) (by omega) (by omega) (by omega) (by omega) (by omega) (St.start1 (M := []) hB0)) (fun _ x h => by cases h) hst
  by_cases y6 : nb bs 0 % 8 = 3
  · exact readC w A n c bs _ (some (some ⟨[(nb bs 0) / 32, ((nb bs 0) / 16) &&& 1, ((nb bs 0) / 8) &&& 1, ((nb bs 0) / 4) &&& 1, ((nb bs 0) / 2) &&& 1, (nb bs 0) &&& 1, nb bs 1, bN bs 2 2, bN bs 4 4, bN bs 8 2, nb bs 10], [], [], sl bs 12 n⟩)) (fun D h _ => by cases h; simp [LD.small]) (fun w hB0 => gtp_S11 w A n c bs hn (by omega) (by omega) (by omega) (by omega) (by omega) (St.start1 (M := []) hB0)) (fun h4 x h w hB0 => by cases h; exact gtp_I11 w A n c bs h4 (by omega) (by omega) (by omega) (by omega) (by omega) (St.start1 (M := []) hB0)) hst
  by_cases y7 : nb bs 11 = 0
  · exact readC w A n c bs _ none (fun D h _ => by cases h) (fun w hB0 => gtp_S12 w A n c bs hn (by omega) (by omega) (by omega) (by omega) (by omega) (by omega) (St.start1 (M := []) hB0)) (fun _ x h => by cases h) hst
  obtain ⟨N, hE, hN⟩ := og_end (fun p => 4 * nb bs p) 12 (fun i => nb bs (tof bs i - 1) ≠ 0 ∧ tof bs i < n ∧ nb bs (tof bs i) ≠ 0 ∧ tof bs i + 4 * nb bs (tof bs i) ≤ n) n (fun i h => by have h2 := tof_succ bs i; have h1 : nb bs (tof bs i - 1) ≠ 0 ∧ tof bs i < n ∧ nb bs (tof bs i) ≠ 0 ∧ tof bs i + 4 * nb bs (tof bs i) ≤ n := h; show tof bs i < tof bs (i + 1) ∧ tof bs (i + 1) ≤ n; omega)
  replace hE : ∀ i, i < N → nb bs (tof bs i - 1) ≠ 0 ∧ tof bs i < n ∧ nb bs (tof bs i) ≠ 0 ∧ tof bs i + 4 * nb bs (tof bs i) ≤ n := hE
  replace hN : ¬ (nb bs (tof bs N - 1) ≠ 0 ∧ tof bs N < n ∧ nb bs (tof bs N) ≠ 0 ∧ tof bs N + 4 * nb bs (tof bs N) ≤ n) := hN
  by_cases y8 : nb bs (tof bs N - 1) = 0
  · exact readC w A n c bs _ (some (some ⟨[(nb bs 0) / 32, ((nb bs 0) / 16) &&& 1, ((nb bs 0) / 8) &&& 1, ((nb bs 0) / 4) &&& 1, ((nb bs 0) / 2) &&& 1, (nb bs 0) &&& 1, nb bs 1, bN bs 2 2, bN bs 4 4, bN bs 8 2, nb bs 10], [], ((List.range N).map (fun j => ([nb bs (tof bs j - 1)], sl bs (tof bs j + 1) (tof bs j + (4 * (nb bs (tof bs j)) - 1))))), sl bs (tof bs N) n⟩)) (fun D h hp => by cases h; refine ⟨by simp, by simp, Nat.le_trans hp (by decide), fun p hm => ?_⟩; obtain ⟨j, _, rfl⟩ := List.mem_map.1 hm; simp) (fun w hB0 => gtp_S13 w A n c bs N hn (by omega) (by omega) (by omega) (by omega) (by omega) (by omega) hE (by omega) (St.start1 (M := []) hB0)) (fun h4 x h w hB0 => by cases h; exact gtp_I13 w A n c bs N h4 (by omega) (by omega) (by omega) (by omega) (by omega) (by omega) hE (by omega) (St.start1 (M := []) hB0)) hst
  · exact readC w A n c bs _ none (fun D h _ => by cases h) (fun w hB0 => gtp_S14 w A n c bs N hn (by omega) (by omega) (by omega) (by omega) (by omega) (by omega) hE (by omega) (by omega) (St.start1 (M := []) hB0)) (fun _ x h => by cases h) hst

theorem fn_gtpB (w : World) (A : Option Addr) (n : Nat) (c : Nat) (bs : List UInt8) (hn : 2147483647 < n) (hst : St w [] [] [Byt A n c bs] w) : Calls Tryz.prog 11 #[(.slice A n c)] w (fun e w' => e = .returned (.bool true) ∧ Pres [] w w') := by
  have hnc00 : n ≤ c := (hst.fact (j := 0) rfl).2.1
  refine enter (vs := [(.slice A n c)]) Tryz.func11 rfl rfl rfl hst ?_
  refine HT.seq ?_
  refine HT.plain ?_
  refine sq (St.closed _ _ _ _) (q_assign rfl) rfl ?_
  refine send ?_
  refine eseq ?_
  refine HT.seq ?_
  refine HT.seq ?_
  refine HT.plain ?_
  refine sq (St.closed _ _ _ _) (q_move rfl) rfl ?_
  refine sq (St.closed _ _ _ _) (q_len (len := n) rfl Tryz.underlying22) rfl ?_
  refine sq (St.closed _ _ _ _) (q_T (q_gt (p := n) (q := 2147483647) rfl rfl) (by omega)) rfl ?_
  refine send ?_
  refine eseq ?_
  refine HT.yes rfl ?_
  refine HT.seq ?_
  refine HT.plain ?_
  refine sq (St.closed _ _ _ _) (q_assign rfl) rfl ?_
  refine send ?_
  refine eseq ?_
  refine HT.ret ?_
  refine rt_then ?_
  exact fun a ha w' hw => fin_ ha (res1 ha Tryz.results11 rfl) ⟨rfl, hw.pres⟩

theorem fn_gtpL (w : World) (A : Option Addr) (n : Nat) (c : Nat) (bs : List UInt8) (hn : n ≤ 2147483647) (hst : St w [] [] [Byt A n c bs] w) : Calls Tryz.prog 11 #[(.slice A n c)] w (fun e w' => e = .returned (.bool true) ∧ Pres [] w w') := by
  have hnc00 : n ≤ c := (hst.fact (j := 0) rfl).2.1
  refine enter (vs := [(.slice A n c)]) Tryz.func11 rfl rfl rfl hst ?_
  refine HT.seq ?_
  refine HT.plain ?_
  refine sq (St.closed _ _ _ _) (q_assign rfl) rfl ?_
  refine send ?_
  refine eseq ?_
  refine HT.seq ?_
  refine HT.seq ?_
  refine HT.plain ?_
  refine sq (St.closed _ _ _ _) (q_move rfl) rfl ?_
  refine sq (St.closed _ _ _ _) (q_len (len := n) rfl Tryz.underlying22) rfl ?_
  refine sq (St.closed _ _ _ _) (q_F (q_gt (p := n) (q := 2147483647) rfl rfl) (by omega)) rfl ?_
  refine send ?_
  refine eseq ?_
  refine HT.no rfl ?_
  refine HT.skip ?_
  refine eseq ?_
  refine HT.seq ?_
  refine HT.plain ?_
  refine sq (St.closed _ _ _ _) (q_move rfl) rfl ?_
  refine sq (St.closed _ _ _ _) (q_call (vs := [(.string ⟨#[103, 116, 112]⟩), (.slice A n c)]) (v := (.bool true)) rfl ca_25 (fun w h => read_gtp w A n c bs (by omega) (St.enter (sp := []) (Kc := []) (bi := [0]) h rfl rfl rfl))) rfl ?_
  refine sq (St.closed _ _ _ _) (q_assign rfl) rfl ?_
  refine send ?_
  refine eseq ?_
  refine HT.ret ?_
  exact fun a ha w' hw => fin_ ha (res1 ha Tryz.results11 rfl) ⟨rfl, hw.pres⟩

theorem fn_gtp (w : World) (A : Option Addr) (n c : Nat) (bs : List UInt8) (hst : St w [] [] [Byt A n c bs] w) : Calls Tryz.prog 11 #[(.slice A n c)] w (fun e w' => e = .returned (.bool true) ∧ Pres [] w w') := by
  rcases Nat.lt_or_ge 2147483647 n with hn | hn
  · exact fn_gtpB w A n c bs hn hst
  · exact fn_gtpL w A n c bs hn hst
end Go.Proofs.YtfkaafbeeegenaaGreat.Zed
