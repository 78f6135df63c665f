/- FnReadIgmp -/
import Derived.Test.YtfkaafbeeegenaaGreatRead
import Derived.Test.YtfkaafbeeegenaaGreatRow
import Derived.Test.YtfkaafbeeegenaaGreatIgmp10
import Derived.Test.YtfkaafbeeegenaaGreatIgmp1a
import Derived.Test.YtfkaafbeeegenaaGreatIgmp1b
import Derived.Test.YtfkaafbeeegenaaGreatIgmp1c
import Derived.Test.YtfkaafbeeegenaaGreatIgmp1d
import Derived.Test.YtfkaafbeeegenaaGreatIgmp1e
import Derived.Test.YtfkaafbeeegenaaGreatIgmp1f
import Derived.Test.YtfkaafbeeegenaaGreatIgmp1g
import Derived.Test.YtfkaafbeeegenaaGreatIgmp1h
import Derived.Test.YtfkaafbeeegenaaGreatIgmp1i
import Derived.KernelRfl
namespace Go.Proofs.YtfkaafbeeegenaaGreat.Zed
set_option linter.unusedVariables false
set_option linter.unusedSimpArgs false
set_option maxRecDepth 100000
set_option maxHeartbeats 4000000
theorem ca_25 : callable Tryz.prog 25 = true := by kernel_rfl

theorem read_igmp1 (w : World) (A : Option Addr) (n c : Nat) (bs : List UInt8) (hn : n ≤ 2147483647) (hst : St w [] [] [Byt A n c bs] w) : Calls Tryz.prog 25 #[(.string ⟨#[105, 103, 109, 112, 49]⟩), (.slice A n c)] w (fun e w' => e = .returned (.bool true) ∧ Pres [] w w') := by
  have key : (n = 0) ∨ (1 ≤ n ∧ n < 8 ∧ nb bs 0 = 17) ∨ (1 ≤ n ∧ n < 8 ∧ nb bs 0 = 18) ∨ (1 ≤ n ∧ n < 8 ∧ nb bs 0 = 22) ∨ (1 ≤ n ∧ n < 8 ∧ nb bs 0 = 23) ∨ (1 ≤ n ∧ n < 8 ∧ nb bs 0 = 34) ∨ (1 ≤ n ∧ n < 8 ∧ nb bs 0 ≠ 17 ∧ nb bs 0 ≠ 18 ∧ nb bs 0 ≠ 22 ∧ nb bs 0 ≠ 23 ∧ nb bs 0 ≠ 34) ∨ (8 ≤ n ∧ nb bs 1 < 128 ∧ nb bs 0 = 22) ∨ (8 ≤ n ∧ nb bs 1 < 128 ∧ nb bs 0 = 23) ∨ (8 ≤ n ∧ 128 ≤ nb bs 1) ∨ (8 ≤ n ∧ nb bs 1 < 128 ∧ nb bs 0 ≠ 22 ∧ nb bs 0 ≠ 23) := by omega
  rcases key with ha | ⟨ha, hb, hc⟩ | ⟨ha, hb, hc⟩ | ⟨ha, hb, hc⟩ | ⟨ha, hb, hc⟩ | ⟨ha, hb, hc⟩ | ⟨ha, hb, hc, hd, he, hf, hg⟩ | ⟨ha, hb, hc⟩ | ⟨ha, hb, hc⟩ | ⟨ha, hb⟩ | ⟨ha, hb, hc, hd⟩
  · exact readC w A n c bs _ (some none) (fun D h _ => by cases h) (fun w hB0 => igmp1_S0 w A n c bs hn ha (St.start1 (M := []) hB0)) (fun h4 x h w hB0 => by cases h; exact igmp1_I0 w A n c bs h4 ha (St.start1 (M := []) hB0)) hst
  · exact readC w A n c bs _ (some none) (fun D h _ => by cases h) (fun w hB0 => igmp1_S1 w A n c bs hn ha hb hc (St.start1 (M := []) hB0)) (fun h4 x h w hB0 => by cases h; exact igmp1_I1 w A n c bs h4 ha hb hc (St.start1 (M := []) hB0)) hst
  · exact readC w A n c bs _ (some none) (fun D h _ => by cases h) (fun w hB0 => igmp1_S2 w A n c bs hn ha hb hc (St.start1 (M := []) hB0)) (fun h4 x h w hB0 => by cases h; exact igmp1_I2 w A n c bs h4 ha hb hc (St.start1 (M := []) hB0)) hst
  · exact readC w A n c bs _ (some none) (fun D h _ => by cases h) (fun w hB0 => igmp1_S3 w A n c bs hn ha hb hc (St.start1 (M := []) hB0)) (fun h4 x h w hB0 => by cases h; exact igmp1_I3 w A n c bs h4 ha hb hc (St.start1 (M := []) hB0)) hst
  · exact readC w A n c bs _ (some none) (fun D h _ => by cases h) (fun w hB0 => igmp1_S4 w A n c bs hn ha hb hc (St.start1 (M := []) hB0)) (fun h4 x h w hB0 => by cases h; exact igmp1_I4 w A n c bs h4 ha hb hc (St.start1 (M := []) hB0)) hst
  · exact readC w A n c bs _ (some none) (fun D h _ => by cases h) (fun w hB0 => igmp1_S5 w A n c bs hn ha hb hc (St.start1 (M := []) hB0)) (fun h4 x h w hB0 => by cases h; exact igmp1_I5 w A n c bs h4 ha hb hc (St.start1 (M := []) hB0)) hst
  · exact readC w A n c bs _ (some none) (fun D h _ => by cases h) (fun w hB0 => igmp1_S6 w A n c bs hn ha hb hc hd he hf hg (St.start1 (M := []) hB0)) (fun h4 x h w hB0 => by cases h; exact igmp1_I6 w A n c bs h4 ha hb hc hd he hf hg (St.start1 (M := []) hB0)) hst
  · exact readC w A n c bs _ (some (some ⟨[nb bs 0, (nb bs 1) * 100000000, bN bs 2 2, 2], [sl bs 4 8], [], []⟩)) (fun D h _ => by cases h; simp [LD.small]) (fun w hB0 => igmp1_S7 w A n c bs hn ha hb hc (St.start1 (M := []) hB0)) (fun h4 x h w hB0 => by cases h; exact igmp1_I7 w A n c bs h4 ha hb hc (St.start1 (M := []) hB0)) hst
  · exact readC w A n c bs _ (some (some ⟨[nb bs 0, (nb bs 1) * 100000000, bN bs 2 2, 2], [sl bs 4 8], [], []⟩)) (fun D h _ => by cases h; simp [LD.small]) (fun w hB0 => igmp1_S8 w A n c bs hn ha hb hc (St.start1 (M := []) hB0)) (fun h4 x h w hB0 => by cases h; exact igmp1_I8 w A n c bs h4 ha hb hc (St.start1 (M := []) hB0)) hst
  · exact readC w A n c bs _ none (fun D h _ => by cases h) (fun w hB0 => igmp1_S9 w A n c bs hn ha hb (St.start1 (M := []) hB0)) (fun _ x h => by cases h) hst
  · exact readC w A n c bs _ none (fun D h _ => by cases h) (fun w hB0 => igmp1_S10 w A n c bs hn ha hb hc hd (St.start1 (M := []) hB0)) (fun _ x h => by cases h) hst

theorem fn_igmp1B (w : World) (A : Option Addr) (n : Nat) (c : Nat) (bs : List UInt8) (hn : 2147483647 < n) (hst : St w [] [] [Byt A n c bs] w) : Calls Tryz.prog 12 #[(.slice A n c)] w (fun e w' => e = .returned (.bool true) ∧ Pres [] w w') := by
  have hnc00 : n ≤ c := (hst.fact (j := 0) rfl).2.1
  refine enter (vs := [(.slice A n c)]) Tryz.func12 rfl rfl rfl hst ?_
  refine HT.seq ?_
  refine HT.plain ?_
  refine sq (St.closed _ _ _ _) (q_assign rfl) rfl ?_
  refine send ?_
  refine eseq ?_
  refine HT.seq ?_
  refine HT.seq ?_
  refine HT.plain ?_
  refine sq (St.closed _ _ _ _) (q_move rfl) rfl ?_
  refine sq (St.closed _ _ _ _) (q_len (len := n) rfl Tryz.underlying22) rfl ?_
  refine sq (St.closed _ _ _ _) (q_T (q_gt (p := n) (q := 2147483647) rfl rfl) (by omega)) rfl ?_
  refine send ?_
  refine eseq ?_
  refine HT.yes rfl ?_
  refine HT.seq ?_
  refine HT.plain ?_
  refine sq (St.closed _ _ _ _) (q_assign rfl) rfl ?_
  refine send ?_
  refine eseq ?_
  refine HT.ret ?_
  refine rt_then ?_
  exact fun a ha w' hw => fin_ ha (res1 ha Tryz.results12 rfl) ⟨rfl, hw.pres⟩

theorem fn_igmp1L (w : World) (A : Option Addr) (n : Nat) (c : Nat) (bs : List UInt8) (hn : n ≤ 2147483647) (hst : St w [] [] [Byt A n c bs] w) : Calls Tryz.prog 12 #[(.slice A n c)] w (fun e w' => e = .returned (.bool true) ∧ Pres [] w w') := by
  have hnc00 : n ≤ c := (hst.fact (j := 0) rfl).2.1
  refine enter (vs := [(.slice A n c)]) Tryz.func12 rfl rfl rfl hst ?_
  refine HT.seq ?_
  refine HT.plain ?_
  refine sq (St.closed _ _ _ _) (q_assign rfl) rfl ?_
  refine send ?_
  refine eseq ?_
  refine HT.seq ?_
  refine HT.seq ?_
  refine HT.plain ?_
  refine sq (St.closed _ _ _ _) (q_move rfl) rfl ?_
  refine sq (St.closed _ _ _ _) (q_len (len := n) rfl Tryz.underlying22) rfl ?_
  refine sq (St.closed _ _ _ _) (q_F (q_gt (p := n) (q := 2147483647) rfl rfl) (by omega)) rfl ?_
  refine send ?_
  refine eseq ?_
  refine HT.no rfl ?_
  refine HT.skip ?_
  refine eseq ?_
  refine HT.seq ?_
  refine HT.plain ?_
  refine sq (St.closed _ _ _ _) (q_move rfl) rfl ?_
  refine sq (St.closed _ _ _ _) (q_call (vs := [(.string ⟨#[105, 103, 109, 112, 49]⟩), (.slice A n c)]) (v := (.bool true)) rfl ca_25 (fun w h => read_igmp1 w A n c bs (by omega) (St.enter (sp := []) (Kc := []) (bi := [0]) h rfl rfl rfl))) rfl ?_
  refine sq (St.closed _ _ _ _) (q_assign rfl) rfl ?_
  refine send ?_
  refine eseq ?_
  refine HT.ret ?_
  exact fun a ha w' hw => fin_ ha (res1 ha Tryz.results12 rfl) ⟨rfl, hw.pres⟩

theorem fn_igmp1 (w : World) (A : Option Addr) (n c : Nat) (bs : List UInt8) (hst : St w [] [] [Byt A n c bs] w) : Calls Tryz.prog 12 #[(.slice A n c)] w (fun e w' => e = .returned (.bool true) ∧ Pres [] w w') := by
  rcases Nat.lt_or_ge 2147483647 n with hn | hn
  · exact fn_igmp1B w A n c bs hn hst
  · exact fn_igmp1L w A n c bs hn hst
end Go.Proofs.YtfkaafbeeegenaaGreat.Zed
