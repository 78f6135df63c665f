/- FnReadEap -/
import Derived.Test.YtfkaafbeeegenaaGreatRead
import Derived.Test.YtfkaafbeeegenaaGreatRow
import Derived.Test.YtfkaafbeeegenaaGreatEap0
import Derived.Test.YtfkaafbeeegenaaGreatEapa
import Derived.Test.YtfkaafbeeegenaaGreatEapb
import Derived.Test.YtfkaafbeeegenaaGreatEapc
import Derived.Test.YtfkaafbeeegenaaGreatEape
import Derived.Test.YtfkaafbeeegenaaGreatEapf
import Derived.KernelRfl
namespace Go.Proofs.YtfkaafbeeegenaaGreat.Zed
set_option linter.unusedVariables false
set_option linter.unusedSimpArgs false
set_option maxRecDepth 100000
set_option maxHeartbeats 4000000
theorem ca_25 : callable Tryz.prog 25 = true := by kernel_rfl

theorem read_eap (w : World) (A : Option Addr) (n c : Nat) (bs : List UInt8) (hn : n ≤ 2147483647) (hst : St w [] [] [Byt A n c bs] w) : Calls Tryz.prog 25 #[(.string ⟨#[101, 97, 112]⟩), (.slice A n c)] w (fun e w' => e = .returned (.bool true) ∧ Pres [] w w') := by
  have key : (n < 4) ∨ (4 ≤ n ∧ bN bs 2 2 < 4) ∨ (4 ≤ n ∧ 4 ≤ bN bs 2 2 ∧ n < bN bs 2 2) ∨ (4 ≤ n ∧ 4 ≤ bN bs 2 2 ∧ bN bs 2 2 < n) ∨ (n = 4 ∧ bN bs 2 2 = 4) ∨ (5 ≤ n ∧ bN bs 2 2 = n) := by omega
  rcases key with ha | ⟨ha, hb⟩ | ⟨ha, hb, hc⟩ | ⟨ha, hb, hc⟩ | ⟨ha, hb⟩ | ⟨ha, hb⟩
  · exact readC w A n c bs _ (some none) (fun D h _ => by cases h) (fun w hB0 => eap_S0 w A n c bs hn ha (St.start1 (M := []) hB0)) (fun h4 x h w hB0 => by cases h; exact eap_I0 w A n c bs h4 ha (St.start1 (M := []) hB0)) hst
  · exact readC w A n c bs _ (some none) (fun D h _ => by cases h) (fun w hB0 => eap_S1 w A n c bs hn ha hb (St.start1 (M := []) hB0)) (fun h4 x h w hB0 => by cases h; exact eap_I1 w A n c bs h4 ha hb (St.start1 (M := []) hB0)) hst
  · exact readC w A n c bs _ (some none) (fun D h _ => by cases h) (fun w hB0 => eap_S2 w A n c bs hn ha hb hc (St.start1 (M := []) hB0)) (fun h4 x h w hB0 => by cases h; exact eap_I2 w A n c bs h4 ha hb hc (St.start1 (M := []) hB0)) hst
  · exact readC w A n c bs _ none (fun D h _ => by cases h) (fun w hB0 => eap_S3 w A n c bs hn ha hb hc (St.start1 (M := []) hB0)) (fun _ x h => by cases h) hst
  · exact readC w A n c bs _ (some (some ⟨[nb bs 0, nb bs 1, bN bs 2 2, 0], [[]], [], []⟩)) (fun D h _ => by cases h; simp [LD.small]) (fun w hB0 => eap_S4 w A n c bs hn ha hb (St.start1 (M := []) hB0)) (fun h4 x h w hB0 => by cases h; exact eap_I4 w A n c bs h4 ha hb (St.start1 (M := []) hB0)) hst
  · exact readC w A n c bs _ (some (some ⟨[nb bs 0, nb bs 1, bN bs 2 2, nb bs 4], [sl bs 5 n], [], []⟩)) (fun D h _ => by cases h; simp [LD.small]) (fun w hB0 => eap_S5 w A n c bs hn ha hb (St.start1 (M := []) hB0)) (fun h4 x h w hB0 => by cases h; exact eap_I5 w A n c bs h4 ha hb (St.start1 (M := []) hB0)) hst

theorem fn_eapB (w : World) (A : Option Addr) (n : Nat) (c : Nat) (bs : List UInt8) (hn : 2147483647 < n) (hst : St w [] [] [Byt A n c bs] w) : Calls Tryz.prog 5 #[(.slice A n c)] w (fun e w' => e = .returned (.bool true) ∧ Pres [] w w') := by
  have hnc00 : n ≤ c := (hst.fact (j := 0) rfl).2.1
  refine enter (vs := [(.slice A n c)]) Tryz.func5 rfl rfl rfl hst ?_
  refine HT.seq ?_
  refine HT.plain ?_
  refine sq (St.closed _ _ _ _) (q_assign rfl) rfl ?_
  refine send ?_
  refine eseq ?_
  refine HT.seq ?_
  refine HT.seq ?_
  refine HT.plain ?_
  refine sq (St.closed _ _ _ _) (q_move rfl) rfl ?_
  refine sq (St.closed _ _ _ _) (q_len (len := n) rfl Tryz.underlying22) rfl ?_
  refine sq (St.closed _ _ _ _) (q_T (q_gt (p := n) (q := 2147483647) rfl rfl) (by omega)) rfl ?_
  refine send ?_
  refine eseq ?_
  refine HT.yes rfl ?_
  refine HT.seq ?_
  refine HT.plain ?_
  refine sq (St.closed _ _ _ _) (q_assign rfl) rfl ?_
  refine send ?_
  refine eseq ?_
  refine HT.ret ?_
  refine rt_then ?_
  exact fun a ha w' hw => fin_ ha (res1 ha Tryz.results5 rfl) ⟨rfl, hw.pres⟩

theorem fn_eapL (w : World) (A : Option Addr) (n : Nat) (c : Nat) (bs : List UInt8) (hn : n ≤ 2147483647) (hst : St w [] [] [Byt A n c bs] w) : Calls Tryz.prog 5 #[(.slice A n c)] w (fun e w' => e = .returned (.bool true) ∧ Pres [] w w') := by
  have hnc00 : n ≤ c := (hst.fact (j := 0) rfl).2.1
  refine enter (vs := [(.slice A n c)]) Tryz.func5 rfl rfl rfl hst ?_
  refine HT.seq ?_
  refine HT.plain ?_
  refine sq (St.closed _ _ _ _) (q_assign rfl) rfl ?_
  refine send ?_
  refine eseq ?_
  refine HT.seq ?_
  refine HT.seq ?_
  refine HT.plain ?_
  refine sq (St.closed _ _ _ _) (q_move rfl) rfl ?_
  refine sq (St.closed _ _ _ _) (q_len (len := n) rfl Tryz.underlying22) rfl ?_
  refine sq (St.closed _ _ _ _) (q_F (q_gt (p := n) (q := 2147483647) rfl rfl) (by omega)) rfl ?_
  refine send ?_
  refine eseq ?_
  refine HT.no rfl ?_
  refine HT.skip ?_
  refine eseq ?_
  refine HT.seq ?_
  refine HT.plain ?_
  refine sq (St.closed _ _ _ _) (q_move rfl) rfl ?_
  refine sq (St.closed _ _ _ _) (q_call (vs := [(.string ⟨#[101, 97, 112]⟩), (.slice A n c)]) (v := (.bool true)) rfl ca_25 (fun w h => read_eap w A n c bs (by omega) (St.enter (sp := []) (Kc := []) (bi := [0]) h rfl rfl rfl))) rfl ?_
  refine sq (St.closed _ _ _ _) (q_assign rfl) rfl ?_
  refine send ?_
  refine eseq ?_
  refine HT.ret ?_
  exact fun a ha w' hw => fin_ ha (res1 ha Tryz.results5 rfl) ⟨rfl, hw.pres⟩

theorem fn_eap (w : World) (A : Option Addr) (n c : Nat) (bs : List UInt8) (hst : St w [] [] [Byt A n c bs] w) : Calls Tryz.prog 5 #[(.slice A n c)] w (fun e w' => e = .returned (.bool true) ∧ Pres [] w w') := by
  rcases Nat.lt_or_ge 2147483647 n with hn | hn
  · exact fn_eapB w A n c bs hn hst
  · exact fn_eapL w A n c bs hn hst
end Go.Proofs.YtfkaafbeeegenaaGreat.Zed
