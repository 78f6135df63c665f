/- FnReadSll -/
import Derived.Test.YtfkaafbeeegenaaGreatRead
import Derived.Test.YtfkaafbeeegenaaGreatRow
import Derived.Test.YtfkaafbeeegenaaGreatLinuxsll0
import Derived.Test.YtfkaafbeeegenaaGreatLinuxslla
import Derived.Test.YtfkaafbeeegenaaGreatLinuxsllc
import Derived.KernelRfl
namespace Go.Proofs.YtfkaafbeeegenaaGreat.Zed
set_option linter.unusedVariables false
set_option linter.unusedSimpArgs false
set_option maxRecDepth 100000
set_option maxHeartbeats 4000000
theorem ca_25 : callable Tryz.prog 25 = true := by kernel_rfl

theorem read_linuxsll (w : World) (A : Option Addr) (n c : Nat) (bs : List UInt8) (hn : n ≤ 2147483647) (hst : St w [] [] [Byt A n c bs] w) : Calls Tryz.prog 25 #[(.string ⟨#[108, 105, 110, 117, 120, 115, 108, 108]⟩), (.slice A n c)] w (fun e w' => e = .returned (.bool true) ∧ Pres [] w w') := by
  have key : (n < 16) ∨ (16 ≤ n ∧ 8 < bN bs 4 2) ∨ (16 ≤ n ∧ bN bs 4 2 ≤ 8) := by omega
  rcases key with ha | ⟨ha, hb⟩ | ⟨ha, hb⟩
  · exact readC w A n c bs _ (some none) (fun D h _ => by cases h) (fun w hB0 => linuxsll_S0 w A n c bs hn ha (St.start1 (M := []) hB0)) (fun h4 x h w hB0 => by cases h; exact linuxsll_I0 w A n c bs h4 ha (St.start1 (M := []) hB0)) hst
  · exact readC w A n c bs _ none (fun D h _ => by cases h) (fun w hB0 => linuxsll_S1 w A n c bs hn ha hb (St.start1 (M := []) hB0)) (fun _ x h => by cases h) hst
  · exact readC w A n c bs _ (some (some ⟨[bN bs 0 2, bN bs 4 2, bN bs 14 2, bN bs 2 2], [sl bs 6 (6 + (bN bs 4 2))], [], sl bs 16 n⟩)) (fun D h _ => by cases h; simp [LD.small]) (fun w hB0 => linuxsll_S2 w A n c bs hn ha hb (St.start1 (M := []) hB0)) (fun h4 x h w hB0 => by cases h; exact linuxsll_I2 w A n c bs h4 ha hb (St.start1 (M := []) hB0)) hst

theorem fn_linuxsllB (w : World) (A : Option Addr) (n : Nat) (c : Nat) (bs : List UInt8) (hn : 2147483647 < n) (hst : St w [] [] [Byt A n c bs] w) : Calls Tryz.prog 21 #[(.slice A n c)] w (fun e w' => e = .returned (.bool true) ∧ Pres [] w w') := by
  have hnc00 : n ≤ c := (hst.fact (j := 0) rfl).2.1
  refine enter (vs := [(.slice A n c)]) Tryz.func21 rfl rfl rfl hst ?_
  refine HT.seq ?_
  refine HT.plain ?_
  refine sq (St.closed _ _ _ _) (q_assign rfl) rfl ?_
  refine send ?_
  refine eseq ?_
  refine HT.seq ?_
  refine HT.seq ?_
  refine HT.plain ?_
  refine sq (St.closed _ _ _ _) (q_move rfl) rfl ?_
  refine sq (St.closed _ _ _ _) (q_len (len := n) rfl Tryz.underlying22) rfl ?_
  refine sq (St.closed _ _ _ _) (q_T (q_gt (p := n) (q := 2147483647) rfl rfl) (by omega)) rfl ?_
  refine send ?_
  refine eseq ?_
  refine HT.yes rfl ?_
  refine HT.seq ?_
  refine HT.plain ?_
  refine sq (St.closed _ _ _ _) (q_assign rfl) rfl ?_
  refine send ?_
  refine eseq ?_
  refine HT.ret ?_
  refine rt_then ?_
  exact fun a ha w' hw => fin_ ha (res1 ha Tryz.results21 rfl) ⟨rfl, hw.pres⟩

theorem fn_linuxsllL (w : World) (A : Option Addr) (n : Nat) (c : Nat) (bs : List UInt8) (hn : n ≤ 2147483647) (hst : St w [] [] [Byt A n c bs] w) : Calls Tryz.prog 21 #[(.slice A n c)] w (fun e w' => e = .returned (.bool true) ∧ Pres [] w w') := by
  have hnc00 : n ≤ c := (hst.fact (j := 0) rfl).2.1
  refine enter (vs := [(.slice A n c)]) Tryz.func21 rfl rfl rfl hst ?_
  refine HT.seq ?_
  refine HT.plain ?_
  refine sq (St.closed _ _ _ _) (q_assign rfl) rfl ?_
  refine send ?_
  refine eseq ?_
  refine HT.seq ?_
  refine HT.seq ?_
  refine HT.plain ?_
  refine sq (St.closed _ _ _ _) (q_move rfl) rfl ?_
  refine sq (St.closed _ _ _ _) (q_len (len := n) rfl Tryz.underlying22) rfl ?_
  refine sq (St.closed _ _ _ _) (q_F (q_gt (p := n) (q := 2147483647) rfl rfl) (by omega)) rfl ?_
  refine send ?_
  refine eseq ?_
  refine HT.no rfl ?_
  refine HT.skip ?_
  refine eseq ?_
  refine HT.seq ?_
  refine HT.plain ?_
  refine sq (St.closed _ _ _ _) (q_move rfl) rfl ?_
  refine sq (St.closed _ _ _ _) (q_call (vs := [(.string ⟨#[108, 105, 110, 117, 120, 115, 108, 108]⟩), (.slice A n c)]) (v := (.bool true)) rfl ca_25 (fun w h => read_linuxsll w A n c bs (by omega) (St.enter (sp := []) (Kc := []) (bi := [0]) h rfl rfl rfl))) rfl ?_
  refine sq (St.closed _ _ _ _) (q_assign rfl) rfl ?_
  refine send ?_
  refine eseq ?_
  refine HT.ret ?_
  exact fun a ha w' hw => fin_ ha (res1 ha Tryz.results21 rfl) ⟨rfl, hw.pres⟩

theorem fn_linuxsll (w : World) (A : Option Addr) (n c : Nat) (bs : List UInt8) (hst : St w [] [] [Byt A n c bs] w) : Calls Tryz.prog 21 #[(.slice A n c)] w (fun e w' => e = .returned (.bool true) ∧ Pres [] w w') := by
  rcases Nat.lt_or_ge 2147483647 n with hn | hn
  · exact fn_linuxsllB w A n c bs hn hst
  · exact fn_linuxsllL w A n c bs hn hst
end Go.Proofs.YtfkaafbeeegenaaGreat.Zed
