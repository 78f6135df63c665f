/- FnReadMpls -/
import Derived.Test.YtfkaafbeeegenaaGreatRead
import Derived.Test.YtfkaafbeeegenaaGreatRow
import Derived.Test.YtfkaafbeeegenaaGreatMpls0
import Derived.Test.YtfkaafbeeegenaaGreatMplsa
import Derived.Test.YtfkaafbeeegenaaGreatMplsb
import Derived.KernelRfl
namespace Go.Proofs.YtfkaafbeeegenaaGreat.Zed
set_option linter.unusedVariables false
set_option linter.unusedSimpArgs false
set_option maxRecDepth 100000
set_option maxHeartbeats 4000000
theorem ca_25 : callable Tryz.prog 25 = true := by kernel_rfl

theorem read_mpls (w : World) (A : Option Addr) (n c : Nat) (bs : List UInt8) (hn : n ≤ 2147483647) (hst : St w [] [] [Byt A n c bs] w) : Calls Tryz.prog 25 #[(.string ⟨#[109, 112, 108, 115]⟩), (.slice A n c)] w (fun e w' => e = .returned (.bool true) ∧ Pres [] w w') := by
  have key : (n < 4) ∨ (4 ≤ n) := by omega
  rcases key with ha | ha
  · exact readC w A n c bs _ (some none) (fun D h _ => by cases h) (fun w hB0 => mpls_S0 w A n c bs hn ha (St.start1 (M := []) hB0)) (fun h4 x h w hB0 => by cases h; exact mpls_I0 w A n c bs h4 ha (St.start1 (M := []) hB0)) hst
  · exact readC w A n c bs _ (some (some ⟨[(bN bs 0 4) / 4096, ((bN bs 0 4) / 512) &&& 7, ((bN bs 0 4) / 256) &&& 1, (bN bs 0 4) &&& 255], [], [], sl bs 4 n⟩)) (fun D h _ => by cases h; simp [LD.small]) (fun w hB0 => mpls_S1 w A n c bs hn ha (St.start1 (M := []) hB0)) (fun h4 x h w hB0 => by cases h; exact mpls_I1 w A n c bs h4 ha (St.start1 (M := []) hB0)) hst

theorem fn_mplsB (w : World) (A : Option Addr) (n : Nat) (c : Nat) (bs : List UInt8) (hn : 2147483647 < n) (hst : St w [] [] [Byt A n c bs] w) : Calls Tryz.prog 17 #[(.slice A n c)] w (fun e w' => e = .returned (.bool true) ∧ Pres [] w w') := by
  have hnc00 : n ≤ c := (hst.fact (j := 0) rfl).2.1
  refine enter (vs := [(.slice A n c)]) Tryz.func17 rfl rfl rfl hst ?_
  refine HT.seq ?_
  refine HT.plain ?_
  refine sq (St.closed _ _ _ _) (q_assign rfl) rfl ?_
  refine send ?_
  refine eseq ?_
  refine HT.seq ?_
  refine HT.seq ?_
  refine HT.plain ?_
  refine sq (St.closed _ _ _ _) (q_move rfl) rfl ?_
  refine sq (St.closed _ _ _ _) (q_len (len := n) rfl Tryz.underlying22) rfl ?_
  refine sq (St.closed _ _ _ _) (q_T (q_gt (p := n) (q := 2147483647) rfl rfl) (by omega)) rfl ?_
  refine send ?_
  refine eseq ?_
  refine HT.yes rfl ?_
  refine HT.seq ?_
  refine HT.plain ?_
  refine sq (St.closed _ _ _ _) (q_assign rfl) rfl ?_
  refine send ?_
  refine eseq ?_
  refine HT.ret ?_
  refine rt_then ?_
  exact fun a ha w' hw => fin_ ha (res1 ha Tryz.results17 rfl) ⟨rfl, hw.pres⟩

theorem fn_mplsL (w : World) (A : Option Addr) (n : Nat) (c : Nat) (bs : List UInt8) (hn : n ≤ 2147483647) (hst : St w [] [] [Byt A n c bs] w) : Calls Tryz.prog 17 #[(.slice A n c)] w (fun e w' => e = .returned (.bool true) ∧ Pres [] w w') := by
  have hnc00 : n ≤ c := (hst.fact (j := 0) rfl).2.1
  refine enter (vs := [(.slice A n c)]) Tryz.func17 rfl rfl rfl hst ?_
  refine HT.seq ?_
  refine HT.plain ?_
  refine sq (St.closed _ _ _ _) (q_assign rfl) rfl ?_
  refine send ?_
  refine eseq ?_
  refine HT.seq ?_
  refine HT.seq ?_
  refine HT.plain ?_
  refine sq (St.closed _ _ _ _) (q_move rfl) rfl ?_
  refine sq (St.closed _ _ _ _) (q_len (len := n) rfl Tryz.underlying22) rfl ?_
  refine sq (St.closed _ _ _ _) (q_F (q_gt (p := n) (q := 2147483647) rfl rfl) (by omega)) rfl ?_
  refine send ?_
  refine eseq ?_
  refine HT.no rfl ?_
  refine HT.skip ?_
  refine eseq ?_
  refine HT.seq ?_
  refine HT.plain ?_
  refine sq (St.closed _ _ _ _) (q_move rfl) rfl ?_
  refine sq (St.closed _ _ _ _) (q_call (vs := [(.string ⟨#[109, 112, 108, 115]⟩), (.slice A n c)]) (v := (.bool true)) rfl ca_25 (fun w h => read_mpls w A n c bs (by omega) (St.enter (sp := []) (Kc := []) (bi := [0]) h rfl rfl rfl))) rfl ?_
  refine sq (St.closed _ _ _ _) (q_assign rfl) rfl ?_
  refine send ?_
  refine eseq ?_
  refine HT.ret ?_
  exact fun a ha w' hw => fin_ ha (res1 ha Tryz.results17 rfl) ⟨rfl, hw.pres⟩

theorem fn_mpls (w : World) (A : Option Addr) (n c : Nat) (bs : List UInt8) (hst : St w [] [] [Byt A n c bs] w) : Calls Tryz.prog 17 #[(.slice A n c)] w (fun e w' => e = .returned (.bool true) ∧ Pres [] w w') := by
  rcases Nat.lt_or_ge 2147483647 n with hn | hn
  · exact fn_mplsB w A n c bs hn hst
  · exact fn_mplsL w A n c bs hn hst
end Go.Proofs.YtfkaafbeeegenaaGreat.Zed
