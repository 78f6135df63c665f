/- FnReadKey -/
import Derived.Test.YtfkaafbeeegenaaGreatRead
import Derived.Test.YtfkaafbeeegenaaGreatRow
import Derived.Test.YtfkaafbeeegenaaGreatEapolkey0
import Derived.Test.YtfkaafbeeegenaaGreatEapolkeya
import Derived.Test.YtfkaafbeeegenaaGreatEapolkeyb
import Derived.Test.YtfkaafbeeegenaaGreatEapolkeyc
import Derived.Test.YtfkaafbeeegenaaGreatEapolkeyd
import Derived.KernelRfl
namespace Go.Proofs.YtfkaafbeeegenaaGreat.Zed
set_option linter.unusedVariables false
set_option linter.unusedSimpArgs false
set_option maxRecDepth 100000
set_option maxHeartbeats 4000000
theorem ca_25 : callable Tryz.prog 25 = true := by kernel_rfl

theorem read_eapolkey (w : World) (A : Option Addr) (n c : Nat) (bs : List UInt8) (hn : n ≤ 2147483647) (hst : St w [] [] [Byt A n c bs] w) : Calls Tryz.prog 25 #[(.string ⟨#[101, 97, 112, 111, 108, 107, 101, 121]⟩), (.slice A n c)] w (fun e w' => e = .returned (.bool true) ∧ Pres [] w w') := by
  have key : (n < 95) ∨ (95 ≤ n ∧ n - 95 < bN bs 93 2) ∨ (95 ≤ n ∧ bN bs 93 2 ≤ n - 95 ∧ bN bs 1 2 / 4096 % 2 = 1) ∨ (95 ≤ n ∧ bN bs 93 2 ≤ n - 95 ∧ bN bs 1 2 / 4096 % 2 = 0) := by omega
  rcases key with ha | ⟨ha, hb⟩ | ⟨ha, hb, hc⟩ | ⟨ha, hb, hc⟩
  · exact readC w A n c bs _ (some none) (fun D h _ => by cases h) (fun w hB0 => eapolkey_S0 w A n c bs hn ha (St.start1 (M := []) hB0)) (fun h4 x h w hB0 => by cases h; exact eapolkey_I0 w A n c bs h4 ha (St.start1 (M := []) hB0)) hst
  · exact readC w A n c bs _ (some none) (fun D h _ => by cases h) (fun w hB0 => eapolkey_S1 w A n c bs hn ha hb (St.start1 (M := []) hB0)) (fun h4 x h w hB0 => by cases h; exact eapolkey_I1 w A n c bs h4 ha hb (St.start1 (M := []) hB0)) hst
  · exact readC w A n c bs _ (some (some ⟨[nb bs 0, (bN bs 1 2) &&& 7, ((bN bs 1 2) / 8) &&& 1, ((bN bs 1 2) / 16) &&& 3, ((bN bs 1 2) / 64) &&& 1, ((bN bs 1 2) / 128) &&& 1, ((bN bs 1 2) / 256) &&& 1, ((bN bs 1 2) / 512) &&& 1, ((bN bs 1 2) / 1024) &&& 1, ((bN bs 1 2) / 2048) &&& 1, ((bN bs 1 2) / 4096) &&& 1, ((bN bs 1 2) / 8192) &&& 1, bN bs 3 2, bN bs 5 8, bN bs 61 8, bN bs 69 8, bN bs 93 2], [sl bs 13 45, sl bs 45 61, sl bs 77 93, sl bs 95 (95 + (bN bs 93 2))], [], sl bs (95 + (bN bs 93 2)) n⟩)) (fun D h _ => by cases h; simp [LD.small]) (fun w hB0 => eapolkey_S2 w A n c bs hn ha hb hc (St.start1 (M := []) hB0)) (fun h4 x h w hB0 => by cases h; exact eapolkey_I2 w A n c bs h4 ha hb hc (St.start1 (M := []) hB0)) hst
  · exact readC w A n c bs _ (some (some ⟨[nb bs 0, (bN bs 1 2) &&& 7, ((bN bs 1 2) / 8) &&& 1, ((bN bs 1 2) / 16) &&& 3, ((bN bs 1 2) / 64) &&& 1, ((bN bs 1 2) / 128) &&& 1, ((bN bs 1 2) / 256) &&& 1, ((bN bs 1 2) / 512) &&& 1, ((bN bs 1 2) / 1024) &&& 1, ((bN bs 1 2) / 2048) &&& 1, ((bN bs 1 2) / 4096) &&& 1, ((bN bs 1 2) / 8192) &&& 1, bN bs 3 2, bN bs 5 8, bN bs 61 8, bN bs 69 8, bN bs 93 2], [sl bs 13 45, sl bs 45 61, sl bs 77 93, []], [], sl bs 95 n⟩)) (fun D h _ => by cases h; simp [LD.small]) (fun w hB0 => eapolkey_S3 w A n c bs hn ha hb hc (St.start1 (M := []) hB0)) (fun h4 x h w hB0 => by cases h; exact eapolkey_I3 w A n c bs h4 ha hb hc (St.start1 (M := []) hB0)) hst

theorem fn_eapolkeyB (w : World) (A : Option Addr) (n : Nat) (c : Nat) (bs : List UInt8) (hn : 2147483647 < n) (hst : St w [] [] [Byt A n c bs] w) : Calls Tryz.prog 14 #[(.slice A n c)] w (fun e w' => e = .returned (.bool true) ∧ Pres [] w w') := by
  have hnc00 : n ≤ c := (hst.fact (j := 0) rfl).2.1
  refine enter (vs := [(.slice A n c)]) Tryz.func14 rfl rfl rfl hst ?_
  refine HT.seq ?_
  refine HT.plain ?_
  refine sq (St.closed _ _ _ _) (q_assign rfl) rfl ?_
  refine send ?_
  refine eseq ?_
  refine HT.seq ?_
  refine HT.seq ?_
  refine HT.plain ?_
  refine sq (St.closed _ _ _ _) (q_move rfl) rfl ?_
  refine sq (St.closed _ _ _ _) (q_len (len := n) rfl Tryz.underlying22) rfl ?_
  refine sq (St.closed _ _ _ _) (q_T (q_gt (p := n) (q := 2147483647) rfl rfl) (by omega)) rfl ?_
  refine send ?_
  refine eseq ?_
  refine HT.yes rfl ?_
  refine HT.seq ?_
  refine HT.plain ?_
  refine sq (St.closed _ _ _ _) (q_assign rfl) rfl ?_
  refine send ?_
  refine eseq ?_
  refine HT.ret ?_
  refine rt_then ?_
  exact fun a ha w' hw => fin_ ha (res1 ha Tryz.results14 rfl) ⟨rfl, hw.pres⟩

theorem fn_eapolkeyL (w : World) (A : Option Addr) (n : Nat) (c : Nat) (bs : List UInt8) (hn : n ≤ 2147483647) (hst : St w [] [] [Byt A n c bs] w) : Calls Tryz.prog 14 #[(.slice A n c)] w (fun e w' => e = .returned (.bool true) ∧ Pres [] w w') := by
  have hnc00 : n ≤ c := (hst.fact (j := 0) rfl).2.1
  refine enter (vs := [(.slice A n c)]) Tryz.func14 rfl rfl rfl hst ?_
  refine HT.seq ?_
  refine HT.plain ?_
  refine sq (St.closed _ _ _ _) (q_assign rfl) rfl ?_
  refine send ?_
  refine eseq ?_
  refine HT.seq ?_
  refine HT.seq ?_
  refine HT.plain ?_
  refine sq (St.closed _ _ _ _) (q_move rfl) rfl ?_
  refine sq (St.closed _ _ _ _) (q_len (len := n) rfl Tryz.underlying22) rfl ?_
  refine sq (St.closed _ _ _ _) (q_F (q_gt (p := n) (q := 2147483647) rfl rfl) (by omega)) rfl ?_
  refine send ?_
  refine eseq ?_
  refine HT.no rfl ?_
  refine HT.skip ?_
  refine eseq ?_
  refine HT.seq ?_
  refine HT.plain ?_
  refine sq (St.closed _ _ _ _) (q_move rfl) rfl ?_
  refine sq (St.closed _ _ _ _) (q_call (vs := [(.string ⟨#[101, 97, 112, 111, 108, 107, 101, 121]⟩), (.slice A n c)]) (v := (.bool true)) rfl ca_25 (fun w h => read_eapolkey w A n c bs (by omega) (St.enter (sp := []) (Kc := []) (bi := [0]) h rfl rfl rfl))) rfl ?_
  refine sq (St.closed _ _ _ _) (q_assign rfl) rfl ?_
  refine send ?_
  refine eseq ?_
  refine HT.ret ?_
  exact fun a ha w' hw => fin_ ha (res1 ha Tryz.results14 rfl) ⟨rfl, hw.pres⟩

theorem fn_eapolkey (w : World) (A : Option Addr) (n c : Nat) (bs : List UInt8) (hst : St w [] [] [Byt A n c bs] w) : Calls Tryz.prog 14 #[(.slice A n c)] w (fun e w' => e = .returned (.bool true) ∧ Pres [] w w') := by
  rcases Nat.lt_or_ge 2147483647 n with hn | hn
  · exact fn_eapolkeyB w A n c bs hn hst
  · exact fn_eapolkeyL w A n c bs hn hst
end Go.Proofs.YtfkaafbeeegenaaGreat.Zed
