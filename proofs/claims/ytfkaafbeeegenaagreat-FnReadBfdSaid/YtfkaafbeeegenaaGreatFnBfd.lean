/- FnReadBfd -/
import Derived.Test.YtfkaafbeeegenaaGreatRead
import Derived.Test.YtfkaafbeeegenaaGreatRow
import Derived.Test.YtfkaafbeeegenaaGreatBfd0x
import Derived.Test.YtfkaafbeeegenaaGreatBfd0
import Derived.Test.YtfkaafbeeegenaaGreatBfda
import Derived.Test.YtfkaafbeeegenaaGreatBfdb
import Derived.Test.YtfkaafbeeegenaaGreatBfdc
import Derived.Test.YtfkaafbeeegenaaGreatBfdd
import Derived.Test.YtfkaafbeeegenaaGreatBfdg
import Derived.Test.YtfkaafbeeegenaaGreatBfdh
import Derived.KernelRfl
namespace Go.Proofs.YtfkaafbeeegenaaGreat.Zed
set_option linter.unusedVariables false
set_option linter.unusedSimpArgs false
set_option maxRecDepth 100000
set_option maxHeartbeats 4000000
theorem ca_25 : callable Tryz.prog 25 = true := by kernel_rfl

theorem read_bfd (w : World) (A : Option Addr) (n c : Nat) (bs : List UInt8) (hn : n ≤ 2147483647) (hst : St w [] [] [Byt A n c bs] w) : Calls Tryz.prog 25 #[(.string ⟨#[98, 102, 100]⟩), (.slice A n c)] w (fun e w' => e = .returned (.bool true) ∧ Pres [] w w') := by
  by_cases x1 : n < 24
  · exact readC w A n c bs _ (some none) (fun D h _ => by cases h) (fun w hB0 => bfd_S0 w A n c bs hn (by omega) (St.start1 (M := []) hB0)) (fun h4 x h w hB0 => by cases h; exact bfd_I0 w A n c bs h4 (by omega) (St.start1 (M := []) hB0)) hst
  · by_cases x2 : nb bs 3 ≠ n
    · by_cases x3 : n ≤ 26 ∨ 32 ≤ n ∨ nb bs 1 / 4 % 2 = 0 ∨ nb bs 24 < 2 ∨ 5 < nb bs 24
      · exact readC w A n c bs _ (some none) (fun D h _ => by cases h) (fun w hB0 => bfd_S1 w A n c bs hn (by omega) (by omega) (by omega) (St.start1 (M := []) hB0)) (fun h4 x h w hB0 => by cases h; exact bfd_I1 w A n c bs h4 (by omega) (by omega) (by omega) (St.start1 (M := []) hB0)) hst
      · exact readC w A n c bs _ (some none) (fun D h _ => by cases h) (fun w hB0 => bfd_S2 w A n c bs hn (by omega) (by omega) (by omega) (by omega) (by omega) (by omega) (St.start1 (M := []) hB0)) (fun h4 x h w hB0 => by cases h; exact bfd_I2 w A n c bs h4 (by omega) (by omega) (by omega) (by omega) (by omega) (by omega) (St.start1 (M := []) hB0)) hst
    · by_cases x4 : nb bs 1 / 4 % 2 = 1
      · by_cases x5 : n < 28
        · exact readC w A n c bs _ none (fun D h _ => by cases h) (fun w hB0 => bfd_S4 w A n c bs hn (by omega) (by omega) (by omega) (by omega) (St.start1 (M := []) hB0)) (fun _ x h => by cases h) hst
        · by_cases x6 : nb bs 25 ≠ n - 24
          · exact readC w A n c bs _ none (fun D h _ => by cases h) (fun w hB0 => bfd_S5 w A n c bs hn (by omega) (by omega) (by omega) (by omega) (by omega) (St.start1 (M := []) hB0)) (fun _ x h => by cases h) hst
          · by_cases x7 : 2 ≤ nb bs 24
            · by_cases x8 : n ≤ 26 ∨ 32 ≤ n ∨ nb bs 1 / 4 % 2 = 0 ∨ nb bs 24 < 2 ∨ 5 < nb bs 24
              · by_cases x9 : nb bs 24 ≤ 5
                · exact readC w A n c bs _ (some (some ⟨[(nb bs 0) / 32, (nb bs 0) &&& 31, (nb bs 1) / 64, ((nb bs 1) / 32) &&& 1, ((nb bs 1) / 16) &&& 1, ((nb bs 1) / 8) &&& 1, ((nb bs 1) / 4) &&& 1, ((nb bs 1) / 2) &&& 1, ((nb bs 1) / 1) &&& 1, nb bs 2, bN bs 4 4, bN bs 8 4, bN bs 12 4, bN bs 16 4, bN bs 20 4], [], [([nb bs 24, nb bs 26, bN bs 28 4], sl bs 32 n)], []⟩)) (fun D h _ => by cases h; simp [LD.small]) (fun w hB0 => bfd_S7 w A n c bs hn (by omega) (by omega) (by omega) (by omega) (by omega) (by omega) (by omega) (by omega) (St.start1 (M := []) hB0)) (fun h4 x h w hB0 => by cases h; exact bfd_I7 w A n c bs h4 (by omega) (by omega) (by omega) (by omega) (by omega) (by omega) (by omega) (by omega) (St.start1 (M := []) hB0)) hst
                · exact readC w A n c bs _ none (fun D h _ => by cases h) (fun w hB0 => bfd_S10 w A n c bs hn (by omega) (by omega) (by omega) (by omega) (by omega) (by omega) (St.start1 (M := []) hB0)) (fun _ x h => by cases h) hst
              · exact readC w A n c bs _ none (fun D h _ => by cases h) (fun w hB0 => bfd_S8 w A n c bs hn (by omega) (by omega) (by omega) (by omega) (by omega) (by omega) (by omega) (by omega) (St.start1 (M := []) hB0)) (fun _ x h => by cases h) hst
            · by_cases x10 : nb bs 24 = 1
              · exact readC w A n c bs _ (some (some ⟨[(nb bs 0) / 32, (nb bs 0) &&& 31, (nb bs 1) / 64, ((nb bs 1) / 32) &&& 1, ((nb bs 1) / 16) &&& 1, ((nb bs 1) / 8) &&& 1, ((nb bs 1) / 4) &&& 1, ((nb bs 1) / 2) &&& 1, ((nb bs 1) / 1) &&& 1, nb bs 2, bN bs 4 4, bN bs 8 4, bN bs 12 4, bN bs 16 4, bN bs 20 4], [], [([1, nb bs 26, 0], sl bs 27 n)], []⟩)) (fun D h _ => by cases h; simp [LD.small]) (fun w hB0 => bfd_S6 w A n c bs hn (by omega) (by omega) (by omega) (by omega) (by omega) (by omega) (St.start1 (M := []) hB0)) (fun h4 x h w hB0 => by cases h; exact bfd_I6 w A n c bs h4 (by omega) (by omega) (by omega) (by omega) (by omega) (by omega) (St.start1 (M := []) hB0)) hst
              · exact readC w A n c bs _ none (fun D h _ => by cases h) (fun w hB0 => bfd_S9 w A n c bs hn (by omega) (by omega) (by omega) (by omega) (by omega) (by omega) (St.start1 (M := []) hB0)) (fun _ x h => by cases h) hst
      · exact readC w A n c bs _ (some (some ⟨[(nb bs 0) / 32, (nb bs 0) &&& 31, (nb bs 1) / 64, ((nb bs 1) / 32) &&& 1, ((nb bs 1) / 16) &&& 1, ((nb bs 1) / 8) &&& 1, ((nb bs 1) / 4) &&& 1, ((nb bs 1) / 2) &&& 1, ((nb bs 1) / 1) &&& 1, nb bs 2, bN bs 4 4, bN bs 8 4, bN bs 12 4, bN bs 16 4, bN bs 20 4], [], [], []⟩)) (fun D h _ => by cases h; simp [LD.small]) (fun w hB0 => bfd_S3 w A n c bs hn (by omega) (by omega) (by omega) (St.start1 (M := []) hB0)) (fun h4 x h w hB0 => by cases h; exact bfd_I3 w A n c bs h4 (by omega) (by omega) (by omega) (St.start1 (M := []) hB0)) hst

theorem fn_bfdB (w : World) (A : Option Addr) (n : Nat) (c : Nat) (bs : List UInt8) (hn : 2147483647 < n) (hst : St w [] [] [Byt A n c bs] w) : Calls Tryz.prog 4 #[(.slice A n c)] w (fun e w' => e = .returned (.bool true) ∧ Pres [] w w') := by
  have hnc00 : n ≤ c := (hst.fact (j := 0) rfl).2.1
  refine enter (vs := [(.slice A n c)]) Tryz.func4 rfl rfl rfl hst ?_
  refine HT.seq ?_
  refine HT.plain ?_
  refine sq (St.closed _ _ _ _) (q_assign rfl) rfl ?_
  refine send ?_
  refine eseq ?_
  refine HT.seq ?_
  refine HT.seq ?_
  refine HT.plain ?_
  refine sq (St.closed _ _ _ _) (q_move rfl) rfl ?_
  refine sq (St.closed _ _ _ _) (q_len (len := n) rfl Tryz.underlying22) rfl ?_
  refine sq (St.closed _ _ _ _) (q_T (q_gt (p := n) (q := 2147483647) rfl rfl) (by omega)) rfl ?_
  refine send ?_
  refine eseq ?_
  refine HT.yes rfl ?_
  refine HT.seq ?_
  refine HT.plain ?_
  refine sq (St.closed _ _ _ _) (q_assign rfl) rfl ?_
  refine send ?_
  refine eseq ?_
  refine HT.ret ?_
  refine rt_then ?_
  exact fun a ha w' hw => fin_ ha (res1 ha Tryz.results4 rfl) ⟨rfl, hw.pres⟩

theorem fn_bfdL (w : World) (A : Option Addr) (n : Nat) (c : Nat) (bs : List UInt8) (hn : n ≤ 2147483647) (hst : St w [] [] [Byt A n c bs] w) : Calls Tryz.prog 4 #[(.slice A n c)] w (fun e w' => e = .returned (.bool true) ∧ Pres [] w w') := by
  have hnc00 : n ≤ c := (hst.fact (j := 0) rfl).2.1
  refine enter (vs := [(.slice A n c)]) Tryz.func4 rfl rfl rfl hst ?_
  refine HT.seq ?_
  refine HT.plain ?_
  refine sq (St.closed _ _ _ _) (q_assign rfl) rfl ?_
  refine send ?_
  refine eseq ?_
  refine HT.seq ?_
  refine HT.seq ?_
  refine HT.plain ?_
  refine sq (St.closed _ _ _ _) (q_move rfl) rfl ?_
  refine sq (St.closed _ _ _ _) (q_len (len := n) rfl Tryz.underlying22) rfl ?_
  refine sq (St.closed _ _ _ _) (q_F (q_gt (p := n) (q := 2147483647) rfl rfl) (by omega)) rfl ?_
  refine send ?_
  refine eseq ?_
  refine HT.no rfl ?_
  refine HT.skip ?_
  refine eseq ?_
  refine HT.seq ?_
  refine HT.plain ?_
  refine sq (St.closed _ _ _ _) (q_move rfl) rfl ?_
  refine sq (St.closed _ _ _ _) (q_call (vs := [(.string ⟨#[98, 102, 100]⟩), (.slice A n c)]) (v := (.bool true)) rfl ca_25 (fun w h => read_bfd w A n c bs (by omega) (St.enter (sp := []) (Kc := []) (bi := [0]) h rfl rfl rfl))) rfl ?_
  refine sq (St.closed _ _ _ _) (q_assign rfl) rfl ?_
  refine send ?_
  refine eseq ?_
  refine HT.ret ?_
  exact fun a ha w' hw => fin_ ha (res1 ha Tryz.results4 rfl) ⟨rfl, hw.pres⟩

theorem fn_bfd (w : World) (A : Option Addr) (n c : Nat) (bs : List UInt8) (hst : St w [] [] [Byt A n c bs] w) : Calls Tryz.prog 4 #[(.slice A n c)] w (fun e w' => e = .returned (.bool true) ∧ Pres [] w w') := by
  rcases Nat.lt_or_ge 2147483647 n with hn | hn
  · exact fn_bfdB w A n c bs hn hst
  · exact fn_bfdL w A n c bs hn hst
end Go.Proofs.YtfkaafbeeegenaaGreat.Zed
