/- FnReadSnap -/
import Derived.Test.YtfkaafbeeegenaaGreatRead
import Derived.Test.YtfkaafbeeegenaaGreatRow
import Derived.Test.YtfkaafbeeegenaaGreatSnap0
import Derived.Test.YtfkaafbeeegenaaGreatSnapa
import Derived.Test.YtfkaafbeeegenaaGreatSnapb
import Derived.KernelRfl
namespace Go.Proofs.YtfkaafbeeegenaaGreat.Zed
set_option linter.unusedVariables false
set_option linter.unusedSimpArgs false
set_option maxRecDepth 100000
set_option maxHeartbeats 4000000
theorem ca_25 : callable Tryz.prog 25 = true := by kernel_rfl

theorem read_snap (w : World) (A : Option Addr) (n c : Nat) (bs : List UInt8) (hn : n ≤ 2147483647) (hst : St w [] [] [Byt A n c bs] w) : Calls Tryz.prog 25 #[(.string ⟨#[115, 110, 97, 112]⟩), (.slice A n c)] w (fun e w' => e = .returned (.bool true) ∧ Pres [] w w') := by
  have key : (n < 5) ∨ (5 ≤ n) := by omega
  rcases key with ha | ha
  · exact readC w A n c bs _ (some none) (fun D h _ => by cases h) (fun w hB0 => snap_S0 w A n c bs hn ha (St.start1 (M := []) hB0)) (fun h4 x h w hB0 => by cases h; exact snap_I0 w A n c bs h4 ha (St.start1 (M := []) hB0)) hst
  · exact readC w A n c bs _ (some (some ⟨[bN bs 3 2], [sl bs 0 3], [], sl bs 5 n⟩)) (fun D h _ => by cases h; simp [LD.small]) (fun w hB0 => snap_S1 w A n c bs hn ha (St.start1 (M := []) hB0)) (fun h4 x h w hB0 => by cases h; exact snap_I1 w A n c bs h4 ha (St.start1 (M := []) hB0)) hst

theorem fn_snapB (w : World) (A : Option Addr) (n : Nat) (c : Nat) (bs : List UInt8) (hn : 2147483647 < n) (hst : St w [] [] [Byt A n c bs] w) : Calls Tryz.prog 22 #[(.slice A n c)] w (fun e w' => e = .returned (.bool true) ∧ Pres [] w w') := by
  have hnc00 : n ≤ c := (hst.fact (j := 0) rfl).2.1
  refine enter (vs := [(.slice A n c)]) Tryz.func22 rfl rfl rfl hst ?_
  refine HT.seq ?_
  refine HT.plain ?_
  refine sq (St.closed _ _ _ _) (q_assign rfl) rfl ?_
  refine send ?_
  refine eseq ?_
  refine HT.seq ?_
  refine HT.seq ?_
  refine HT.plain ?_
  refine sq (St.closed _ _ _ _) (q_move rfl) rfl ?_
  refine sq (St.closed _ _ _ _) (q_len (len := n) rfl Tryz.underlying22) rfl ?_
  refine sq (St.closed _ _ _ _) (q_T (q_gt (p := n) (q := 2147483647) rfl rfl) (by omega)) rfl ?_
  refine send ?_
  refine eseq ?_
  refine HT.yes rfl ?_
  refine HT.seq ?_
  refine HT.plain ?_
  refine sq (St.closed _ _ _ _) (q_assign rfl) rfl ?_
  refine send ?_
  refine eseq ?_
  refine HT.ret ?_
  refine rt_then ?_
  exact fun a ha w' hw => fin_ ha (res1 ha Tryz.results22 rfl) ⟨rfl, hw.pres⟩

theorem fn_snapL (w : World) (A : Option Addr) (n : Nat) (c : Nat) (bs : List UInt8) (hn : n ≤ 2147483647) (hst : St w [] [] [Byt A n c bs] w) : Calls Tryz.prog 22 #[(.slice A n c)] w (fun e w' => e = .returned (.bool true) ∧ Pres [] w w') := by
  have hnc00 : n ≤ c := (hst.fact (j := 0) rfl).2.1
  refine enter (vs := [(.slice A n c)]) Tryz.func22 rfl rfl rfl hst ?_
  refine HT.seq ?_
  refine HT.plain ?_
  refine sq (St.closed _ _ _ _) (q_assign rfl) rfl ?_
  refine send ?_
  refine eseq ?_
  refine HT.seq ?_
  refine HT.seq ?_
  refine HT.plain ?_
  refine sq (St.closed _ _ _ _) (q_move rfl) rfl ?_
  refine sq (St.closed _ _ _ _) (q_len (len := n) rfl Tryz.underlying22) rfl ?_
  refine sq (St.closed _ _ _ _) (q_F (q_gt (p := n) (q := 2147483647) rfl rfl) (by omega)) rfl ?_
  refine send ?_
  refine eseq ?_
  refine HT.no rfl ?_
  refine HT.skip ?_
  refine eseq ?_
  refine HT.seq ?_
  refine HT.plain ?_
  refine sq (St.closed _ _ _ _) (q_move rfl) rfl ?_
  refine sq (St.closed _ _ _ _) (q_call (vs := [(.string ⟨#[115, 110, 97, 112]⟩), (.slice A n c)]) (v := (.bool true)) rfl ca_25 (fun w h => read_snap w A n c bs (by omega) (St.enter (sp := []) (Kc := []) (bi := [0]) h rfl rfl rfl))) rfl ?_
  refine sq (St.closed _ _ _ _) (q_assign rfl) rfl ?_
  refine send ?_
  refine eseq ?_
  refine HT.ret ?_
  exact fun a ha w' hw => fin_ ha (res1 ha Tryz.results22 rfl) ⟨rfl, hw.pres⟩

theorem fn_snap (w : World) (A : Option Addr) (n c : Nat) (bs : List UInt8) (hst : St w [] [] [Byt A n c bs] w) : Calls Tryz.prog 22 #[(.slice A n c)] w (fun e w' => e = .returned (.bool true) ∧ Pres [] w w') := by
  rcases Nat.lt_or_ge 2147483647 n with hn | hn
  · exact fn_snapB w A n c bs hn hst
  · exact fn_snapL w A n c bs hn hst
end Go.Proofs.YtfkaafbeeegenaaGreat.Zed
