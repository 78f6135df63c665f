/- FnReadIgmp3 -/
import Derived.Test.YtfkaafbeeegenaaGreatRead
import Derived.Test.YtfkaafbeeegenaaGreatRow
import Derived.Test.YtfkaafbeeegenaaGreatIgmp30x
import Derived.Test.YtfkaafbeeegenaaGreatIgmp30
import Derived.Test.YtfkaafbeeegenaaGreatIgmp3c
import Derived.Test.YtfkaafbeeegenaaGreatIgmp3e
import Derived.KernelRfl
namespace Go.Proofs.YtfkaafbeeegenaaGreat.Zed
set_option linter.unusedVariables false
set_option linter.unusedSimpArgs false
set_option maxRecDepth 100000
set_option maxHeartbeats 4000000
theorem ca_25 : callable Tryz.prog 25 = true := by kernel_rfl

theorem read_igmp3 (w : World) (A : Option Addr) (n c : Nat) (bs : List UInt8) (hn : n ≤ 2147483647) (hst : St w [] [] [Byt A n c bs] w) : Calls Tryz.prog 25 #[(.string ⟨#[105, 103, 109, 112, 51]⟩), (.slice A n c)] w (fun e w' => e = .returned (.bool true) ∧ Pres [] w w') := by
  by_cases x1 : n < 8
  · exact readC w A n c bs _ none (fun D h _ => by cases h) (fun w hB0 => igmp3_S0 w A n c bs hn (by omega) (St.start1 (M := []) hB0)) (fun _ x h => by cases h) hst
  by_cases x2 : nb bs 0 = 17
  · by_cases x3 : n < 12
    · exact readC w A n c bs _ none (fun D h _ => by cases h) (fun w hB0 => igmp3_S3 w A n c bs hn (by omega) (by omega) (by omega) (St.start1 (M := []) hB0)) (fun _ x h => by cases h) hst
    by_cases x4 : 128 ≤ nb bs 1 ∨ 128 ≤ nb bs 9 ∨ n < 12 + 4 * bN bs 10 2
    · exact readC w A n c bs _ none (fun D h _ => by cases h) (fun w hB0 => igmp3_S1 w A n c bs hn (by omega) (by omega) (by omega) (by omega) (St.start1 (M := []) hB0)) (fun _ x h => by cases h) hst
    obtain ⟨N, hNe⟩ : ∃ N, bN bs 10 2 = N := ⟨_, rfl⟩
    exact readC w A n c bs _ (some (some ⟨[nb bs 0, (nb bs 1) * 100000000, bN bs 2 2, ((nb bs 8) / 8) &&& 1, (nb bs 8) &&& 7, (nb bs 9) * 100000000, 0, bN bs 10 2, 3], [sl bs 4 8], ((List.range N).map (fun j => ([], sl bs (12 + (4 * j)) (16 + (4 * j))))), []⟩)) (fun D h hp => by cases h; refine ⟨by simp, by simp, Nat.le_trans hp (by decide), fun p hm => ?_⟩; obtain ⟨j, _, rfl⟩ := List.mem_map.1 hm; simp) (fun w hB0 => igmp3_S2 w A n c bs N hn (by omega) (by omega) (by omega) (by omega) (by omega) (by omega) (by omega) (St.start1 (M := []) hB0)) (fun h4 x h w hB0 => by cases h; exact igmp3_I2 w A n c bs N h4 (by omega) (by omega) (by omega) (by omega) (by omega) (by omega) (by omega) (St.start1 (M := []) hB0)) hst
  by_cases x5 : nb bs 0 = 34
  · obtain ⟨N, hE, hN⟩ := og_end (fun p => 8 + 4 * bN bs (p + 2) 2) 8 (fun i => i < bN bs 6 2 ∧ rof bs i + 8 ≤ n ∧ nb bs (rof bs i + 1) = 0 ∧ rof bs (i + 1) ≤ n) n (fun i h => by have h2 := rof_succ bs i; have h1 : i < bN bs 6 2 ∧ rof bs i + 8 ≤ n ∧ nb bs (rof bs i + 1) = 0 ∧ rof bs (i + 1) ≤ n := h; show rof bs i < rof bs (i + 1) ∧ rof bs (i + 1) ≤ n; omega)
    have hE1 : ∀ i, i < N → rof bs i + 8 ≤ n ∧ nb bs (rof bs i + 1) = 0 ∧ rof bs (i + 1) ≤ n := fun i hi => (hE i hi).2
    replace hN : ¬ (N < bN bs 6 2 ∧ rof bs N + 8 ≤ n ∧ nb bs (rof bs N + 1) = 0 ∧ rof bs (N + 1) ≤ n) := hN
    have hle : N ≤ bN bs 6 2 := by
      rcases Nat.eq_zero_or_pos N with h | h
      · omega
      · have h1 : N - 1 < bN bs 6 2 := (hE (N - 1) (by omega)).1
        omega
    by_cases x6 : bN bs 6 2 = N
    · exact readC w A n c bs _ (some (some ⟨[nb bs 0, 0, bN bs 2 2, 0, 0, 0, bN bs 6 2, 0, 3], [[]], ((List.range N).map (fun j => ([nb bs (rof bs j), 0, bN bs (rof bs j + 2) 2, 0], sl bs (rof bs j + 4) (rof bs (j + 1))))), []⟩)) (fun D h hp => by cases h; refine ⟨by simp, by simp, Nat.le_trans hp (by decide), fun p hm => ?_⟩; obtain ⟨j, _, rfl⟩ := List.mem_map.1 hm; simp) (fun w hB0 => igmp3_S4 w A n c bs N hn (by omega) (by omega) hE1 (by omega) (St.start1 (M := []) hB0)) (fun h4 x h w hB0 => by cases h; exact igmp3_I4 w A n c bs N h4 (by omega) (by omega) hE1 (by omega) (St.start1 (M := []) hB0)) hst
    · exact readC w A n c bs _ none (fun D h _ => by cases h) (fun w hB0 => igmp3_S5 w A n c bs N hn (by omega) (by omega) hE1 (by omega) (by omega) (St.start1 (M := []) hB0)) (fun _ x h => by cases h) hst
  exact readC w A n c bs _ none (fun D h _ => by cases h) (fun w hB0 => igmp3_S6 w A n c bs hn (by omega) (by omega) (by omega) (St.start1 (M := []) hB0)) (fun _ x h => by cases h) hst

theorem fn_igmp3B (w : World) (A : Option Addr) (n : Nat) (c : Nat) (bs : List UInt8) (hn : 2147483647 < n) (hst : St w [] [] [Byt A n c bs] w) : Calls Tryz.prog 13 #[(.slice A n c)] w (fun e w' => e = .returned (.bool true) ∧ Pres [] w w') := by
  have hnc00 : n ≤ c := (hst.fact (j := 0) rfl).2.1
  refine enter (vs := [(.slice A n c)]) Tryz.func13 rfl rfl rfl hst ?_
  refine HT.seq ?_
  refine HT.plain ?_
  refine sq (St.closed _ _ _ _) (q_assign rfl) rfl ?_
  refine send ?_
  refine eseq ?_
  refine HT.seq ?_
  refine HT.seq ?_
  refine HT.plain ?_
  refine sq (St.closed _ _ _ _) (q_move rfl) rfl ?_
  refine sq (St.closed _ _ _ _) (q_len (len := n) rfl Tryz.underlying22) rfl ?_
  refine sq (St.closed _ _ _ _) (q_T (q_gt (p := n) (q := 2147483647) rfl rfl) (by omega)) rfl ?_
  refine send ?_
  refine eseq ?_
  refine HT.yes rfl ?_
  refine HT.seq ?_
  refine HT.plain ?_
  refine sq (St.closed _ _ _ _) (q_assign rfl) rfl ?_
  refine send ?_
  refine eseq ?_
  refine HT.ret ?_
  refine rt_then ?_
  exact fun a ha w' hw => fin_ ha (res1 ha Tryz.results13 rfl) ⟨rfl, hw.pres⟩

theorem fn_igmp3L (w : World) (A : Option Addr) (n : Nat) (c : Nat) (bs : List UInt8) (hn : n ≤ 2147483647) (hst : St w [] [] [Byt A n c bs] w) : Calls Tryz.prog 13 #[(.slice A n c)] w (fun e w' => e = .returned (.bool true) ∧ Pres [] w w') := by
  have hnc00 : n ≤ c := (hst.fact (j := 0) rfl).2.1
  refine enter (vs := [(.slice A n c)]) Tryz.func13 rfl rfl rfl hst ?_
  refine HT.seq ?_
  refine HT.plain ?_
  refine sq (St.closed _ _ _ _) (q_assign rfl) rfl ?_
  refine send ?_
  refine eseq ?_
  refine HT.seq ?_
  refine HT.seq ?_
  refine HT.plain ?_
  refine sq (St.closed _ _ _ _) (q_move rfl) rfl ?_
  refine sq (St.closed _ _ _ _) (q_len (len := n) rfl Tryz.underlying22) rfl ?_
  refine sq (St.closed _ _ _ _) (q_F (q_gt (p := n) (q := 2147483647) rfl rfl) (by omega)) rfl ?_
  refine send ?_
  refine eseq ?_
  refine HT.no rfl ?_
  refine HT.skip ?_
  refine eseq ?_
  refine HT.seq ?_
  refine HT.plain ?_
  refine sq (St.closed _ _ _ _) (q_move rfl) rfl ?_
  refine sq (St.closed _ _ _ _) (q_call (vs := [(.string ⟨#[105, 103, 109, 112, 51]⟩), (.slice A n c)]) (v := (.bool true)) rfl ca_25 (fun w h => read_igmp3 w A n c bs (by omega) (St.enter (sp := []) (Kc := []) (bi := [0]) h rfl rfl rfl))) rfl ?_
  refine sq (St.closed _ _ _ _) (q_assign rfl) rfl ?_
  refine send ?_
  refine eseq ?_
  refine HT.ret ?_
  exact fun a ha w' hw => fin_ ha (res1 ha Tryz.results13 rfl) ⟨rfl, hw.pres⟩

theorem fn_igmp3 (w : World) (A : Option Addr) (n c : Nat) (bs : List UInt8) (hst : St w [] [] [Byt A n c bs] w) : Calls Tryz.prog 13 #[(.slice A n c)] w (fun e w' => e = .returned (.bool true) ∧ Pres [] w w') := by
  rcases Nat.lt_or_ge 2147483647 n with hn | hn
  · exact fn_igmp3B w A n c bs hn hst
  · exact fn_igmp3L w A n c bs hn hst
end Go.Proofs.YtfkaafbeeegenaaGreat.Zed
