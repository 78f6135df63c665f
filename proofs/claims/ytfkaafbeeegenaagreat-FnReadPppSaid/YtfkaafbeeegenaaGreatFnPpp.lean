/- FnReadPpp -/
import Derived.Test.YtfkaafbeeegenaaGreatRead
import Derived.Test.YtfkaafbeeegenaaGreatRow
import Derived.Test.YtfkaafbeeegenaaGreatPpp0
import Derived.Test.YtfkaafbeeegenaaGreatPppa
import Derived.Test.YtfkaafbeeegenaaGreatPppc
import Derived.Test.YtfkaafbeeegenaaGreatPppd
import Derived.Test.YtfkaafbeeegenaaGreatPppe
import Derived.Test.YtfkaafbeeegenaaGreatPppf
import Derived.Test.YtfkaafbeeegenaaGreatPppg
import Derived.Test.YtfkaafbeeegenaaGreatPpph
import Derived.Test.YtfkaafbeeegenaaGreatPppi
import Derived.Test.YtfkaafbeeegenaaGreatPppj
import Derived.Test.YtfkaafbeeegenaaGreatPppk
import Derived.Test.YtfkaafbeeegenaaGreatPppl
import Derived.Test.YtfkaafbeeegenaaGreatPppm
import Derived.KernelRfl
namespace Go.Proofs.YtfkaafbeeegenaaGreat.Zed
set_option linter.unusedVariables false
set_option linter.unusedSimpArgs false
set_option maxRecDepth 100000
set_option maxHeartbeats 4000000
theorem ca_25 : callable Tryz.prog 25 = true := by kernel_rfl

theorem read_ppp (w : World) (A : Option Addr) (n c : Nat) (bs : List UInt8) (hn : n ≤ 2147483647) (hst : St w [] [] [Byt A n c bs] w) : Calls Tryz.prog 25 #[(.string ⟨#[112, 112, 112]⟩), (.slice A n c)] w (fun e w' => e = .returned (.bool true) ∧ Pres [] w w') := by
  by_cases x1 : 2 ≤ n
  · by_cases x2 : nb bs 0 = 255
    · by_cases x3 : nb bs 1 ≠ 3
      · exact readC w A n c bs _ (some (some ⟨[nb bs 0, 0], [], [], sl bs 1 n⟩)) (fun D h _ => by cases h; simp [LD.small]) (fun w hB0 => ppp_S7 w A n c bs hn (by omega) (by omega) (by omega) (St.start1 (M := []) hB0)) (fun h4 x h w hB0 => by cases h; exact ppp_I7 w A n c bs h4 (by omega) (by omega) (by omega) (St.start1 (M := []) hB0)) hst
      · by_cases x4 : n = 2
        · exact readC w A n c bs _ (some none) (fun D h _ => by cases h) (fun w hB0 => ppp_S8 w A n c bs hn (by omega) (by omega) (by omega) (St.start1 (M := []) hB0)) (fun h4 x h w hB0 => by cases h; exact ppp_I8 w A n c bs h4 (by omega) (by omega) (by omega) (St.start1 (M := []) hB0)) hst
        · by_cases x5 : nb bs 2 % 2 = 1
          · exact readC w A n c bs _ (some (some ⟨[nb bs 2, 1], [], [], sl bs 3 (2 + (n - 2))⟩)) (fun D h _ => by cases h; simp [LD.small]) (fun w hB0 => ppp_S9 w A n c bs hn (by omega) (by omega) (by omega) (by omega) (St.start1 (M := []) hB0)) (fun h4 x h w hB0 => by cases h; exact ppp_I9 w A n c bs h4 (by omega) (by omega) (by omega) (by omega) (St.start1 (M := []) hB0)) hst
          · by_cases x6 : n = 3
            · exact readC w A n c bs _ (some none) (fun D h _ => by cases h) (fun w hB0 => ppp_S10 w A n c bs hn (by omega) (by omega) (by omega) (by omega) (St.start1 (M := []) hB0)) (fun h4 x h w hB0 => by cases h; exact ppp_I10 w A n c bs h4 (by omega) (by omega) (by omega) (by omega) (St.start1 (M := []) hB0)) hst
            · by_cases x7 : nb bs 3 % 2 = 0
              · exact readC w A n c bs _ (some none) (fun D h _ => by cases h) (fun w hB0 => ppp_S11 w A n c bs hn (by omega) (by omega) (by omega) (by omega) (by omega) (St.start1 (M := []) hB0)) (fun h4 x h w hB0 => by cases h; exact ppp_I11 w A n c bs h4 (by omega) (by omega) (by omega) (by omega) (by omega) (St.start1 (M := []) hB0)) hst
              · exact readC w A n c bs _ (some (some ⟨[bN bs 2 2, 1], [], [], sl bs 4 (2 + (n - 2))⟩)) (fun D h _ => by cases h; simp [LD.small]) (fun w hB0 => ppp_S12 w A n c bs hn (by omega) (by omega) (by omega) (by omega) (by omega) (St.start1 (M := []) hB0)) (fun h4 x h w hB0 => by cases h; exact ppp_I12 w A n c bs h4 (by omega) (by omega) (by omega) (by omega) (by omega) (St.start1 (M := []) hB0)) hst
    · by_cases x8 : nb bs 0 % 2 = 1
      · exact readC w A n c bs _ (some (some ⟨[nb bs 0, 0], [], [], sl bs 1 n⟩)) (fun D h _ => by cases h; simp [LD.small]) (fun w hB0 => ppp_S3 w A n c bs hn (by omega) (by omega) (by omega) (St.start1 (M := []) hB0)) (fun h4 x h w hB0 => by cases h; exact ppp_I3 w A n c bs h4 (by omega) (by omega) (by omega) (St.start1 (M := []) hB0)) hst
      · by_cases x9 : nb bs 1 % 2 = 0
        · exact readC w A n c bs _ (some none) (fun D h _ => by cases h) (fun w hB0 => ppp_S5 w A n c bs hn (by omega) (by omega) (by omega) (St.start1 (M := []) hB0)) (fun h4 x h w hB0 => by cases h; exact ppp_I5 w A n c bs h4 (by omega) (by omega) (by omega) (St.start1 (M := []) hB0)) hst
        · exact readC w A n c bs _ (some (some ⟨[bN bs 0 2, 0], [], [], sl bs 2 n⟩)) (fun D h _ => by cases h; simp [LD.small]) (fun w hB0 => ppp_S6 w A n c bs hn (by omega) (by omega) (by omega) (St.start1 (M := []) hB0)) (fun h4 x h w hB0 => by cases h; exact ppp_I6 w A n c bs h4 (by omega) (by omega) (by omega) (St.start1 (M := []) hB0)) hst
  · by_cases x10 : n = 0
    · exact readC w A n c bs _ (some none) (fun D h _ => by cases h) (fun w hB0 => ppp_S0 w A n c bs hn (by omega) (St.start1 (M := []) hB0)) (fun h4 x h w hB0 => by cases h; exact ppp_I0 w A n c bs h4 (by omega) (St.start1 (M := []) hB0)) hst
    · by_cases x11 : nb bs 0 = 255
      · exact readC w A n c bs _ none (fun D h _ => by cases h) (fun w hB0 => ppp_S1 w A n c bs hn (by omega) (by omega) (St.start1 (M := []) hB0)) (fun _ x h => by cases h) hst
      · by_cases x12 : nb bs 0 % 2 = 1
        · exact readC w A n c bs _ (some (some ⟨[nb bs 0, 0], [], [], sl bs 1 n⟩)) (fun D h _ => by cases h; simp [LD.small]) (fun w hB0 => ppp_S2 w A n c bs hn (by omega) (by omega) (by omega) (St.start1 (M := []) hB0)) (fun h4 x h w hB0 => by cases h; exact ppp_I2 w A n c bs h4 (by omega) (by omega) (by omega) (St.start1 (M := []) hB0)) hst
        · exact readC w A n c bs _ (some none) (fun D h _ => by cases h) (fun w hB0 => ppp_S4 w A n c bs hn (by omega) (by omega) (St.start1 (M := []) hB0)) (fun h4 x h w hB0 => by cases h; exact ppp_I4 w A n c bs h4 (by omega) (by omega) (St.start1 (M := []) hB0)) hst

theorem fn_pppB (w : World) (A : Option Addr) (n : Nat) (c : Nat) (bs : List UInt8) (hn : 2147483647 < n) (hst : St w [] [] [Byt A n c bs] w) : Calls Tryz.prog 19 #[(.slice A n c)] w (fun e w' => e = .returned (.bool true) ∧ Pres [] w w') := by
  have hnc00 : n ≤ c := (hst.fact (j := 0) rfl).2.1
  refine enter (vs := [(.slice A n c)]) Tryz.func19 rfl rfl rfl hst ?_
  refine HT.seq ?_
  refine HT.plain ?_
  refine sq (St.closed _ _ _ _) (q_assign rfl) rfl ?_
  refine send ?_
  refine eseq ?_
  refine HT.seq ?_
  refine HT.seq ?_
  refine HT.plain ?_
  refine sq (St.closed _ _ _ _) (q_move rfl) rfl ?_
  refine sq (St.closed _ _ _ _) (q_len (len := n) rfl Tryz.underlying22) rfl ?_
  refine sq (St.closed _ _ _ _) (q_T (q_gt (p := n) (q := 2147483647) rfl rfl) (by omega)) rfl ?_
  refine send ?_
  refine eseq ?_
  refine HT.yes rfl ?_
  refine HT.seq ?_
  refine HT.plain ?_
  refine sq (St.closed _ _ _ _) (q_assign rfl) rfl ?_
  refine send ?_
  refine eseq ?_
  refine HT.ret ?_
  refine rt_then ?_
  exact fun a ha w' hw => fin_ ha (res1 ha Tryz.results19 rfl) ⟨rfl, hw.pres⟩

theorem fn_pppL (w : World) (A : Option Addr) (n : Nat) (c : Nat) (bs : List UInt8) (hn : n ≤ 2147483647) (hst : St w [] [] [Byt A n c bs] w) : Calls Tryz.prog 19 #[(.slice A n c)] w (fun e w' => e = .returned (.bool true) ∧ Pres [] w w') := by
  have hnc00 : n ≤ c := (hst.fact (j := 0) rfl).2.1
  refine enter (vs := [(.slice A n c)]) Tryz.func19 rfl rfl rfl hst ?_
  refine HT.seq ?_
  refine HT.plain ?_
  refine sq (St.closed _ _ _ _) (q_assign rfl) rfl ?_
  refine send ?_
  refine eseq ?_
  refine HT.seq ?_
  refine HT.seq ?_
  refine HT.plain ?_
  refine sq (St.closed _ _ _ _) (q_move rfl) rfl ?_
  refine sq (St.closed _ _ _ _) (q_len (len := n) rfl Tryz.underlying22) rfl ?_
  refine sq (St.closed _ _ _ _) (q_F (q_gt (p := n) (q := 2147483647) rfl rfl) (by omega)) rfl ?_
  refine send ?_
  refine eseq ?_
  refine HT.no rfl ?_
  refine HT.skip ?_
  refine eseq ?_
  refine HT.seq ?_
  refine HT.plain ?_
  refine sq (St.closed _ _ _ _) (q_move rfl) rfl ?_
  refine sq (St.closed _ _ _ _) (q_call (vs := [(.string ⟨#[112, 112, 112]⟩), (.slice A n c)]) (v := (.bool true)) rfl ca_25 (fun w h => read_ppp w A n c bs (by omega) (St.enter (sp := []) (Kc := []) (bi := [0]) h rfl rfl rfl))) rfl ?_
  refine sq (St.closed _ _ _ _) (q_assign rfl) rfl ?_
  refine send ?_
  refine eseq ?_
  refine HT.ret ?_
  exact fun a ha w' hw => fin_ ha (res1 ha Tryz.results19 rfl) ⟨rfl, hw.pres⟩

theorem fn_ppp (w : World) (A : Option Addr) (n c : Nat) (bs : List UInt8) (hst : St w [] [] [Byt A n c bs] w) : Calls Tryz.prog 19 #[(.slice A n c)] w (fun e w' => e = .returned (.bool true) ∧ Pres [] w w') := by
  rcases Nat.lt_or_ge 2147483647 n with hn | hn
  · exact fn_pppB w A n c bs hn hst
  · exact fn_pppL w A n c bs hn hst
end Go.Proofs.YtfkaafbeeegenaaGreat.Zed
