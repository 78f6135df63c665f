/- FnReadVrrp -/
import Derived.Test.YtfkaafbeeegenaaGreatRead
import Derived.Test.YtfkaafbeeegenaaGreatRow
import Derived.Test.YtfkaafbeeegenaaGreatVrrp0
import Derived.Test.YtfkaafbeeegenaaGreatVrrpa
import Derived.Test.YtfkaafbeeegenaaGreatVrrpb
import Derived.Test.YtfkaafbeeegenaaGreatVrrpc
import Derived.Test.YtfkaafbeeegenaaGreatVrrpd
import Derived.Test.YtfkaafbeeegenaaGreatVrrpe
import Derived.Test.YtfkaafbeeegenaaGreatVrrpg
import Derived.KernelRfl
namespace Go.Proofs.YtfkaafbeeegenaaGreat.Zed
set_option linter.unusedVariables false
set_option linter.unusedSimpArgs false
set_option maxRecDepth 100000
set_option maxHeartbeats 4000000
theorem ca_25 : callable Tryz.prog 25 = true := by kernel_rfl

theorem read_vrrp (w : World) (A : Option Addr) (n c : Nat) (bs : List UInt8) (hn : n ≤ 2147483647) (hst : St w [] [] [Byt A n c bs] w) : Calls Tryz.prog 25 #[(.string ⟨#[118, 114, 114, 112]⟩), (.slice A n c)] w (fun e w' => e = .returned (.bool true) ∧ Pres [] w w') := by
  by_cases x1 : n < 8 + 4 * nb bs 3
  · by_cases x2 : n < 8
    · exact readC w A n c bs _ (some none) (fun D h _ => by cases h) (fun w hB0 => vrrp_S0 w A n c bs hn (by omega) (St.start1 (M := []) hB0)) (fun h4 x h w hB0 => by cases h; exact vrrp_I0 w A n c bs h4 (by omega) (St.start1 (M := []) hB0)) hst
    · by_cases x3 : nb bs 0 % 16 ≠ 1
      · exact readC w A n c bs _ (some none) (fun D h _ => by cases h) (fun w hB0 => vrrp_S1 w A n c bs hn (by omega) (by omega) (by omega) (St.start1 (M := []) hB0)) (fun h4 x h w hB0 => by cases h; exact vrrp_I1 w A n c bs h4 (by omega) (by omega) (by omega) (St.start1 (M := []) hB0)) hst
      · exact readC w A n c bs _ (some none) (fun D h _ => by cases h) (fun w hB0 => vrrp_S4 w A n c bs hn (by omega) (by omega) (by omega) (by omega) (St.start1 (M := []) hB0)) (fun h4 x h w hB0 => by cases h; exact vrrp_I4 w A n c bs h4 (by omega) (by omega) (by omega) (by omega) (St.start1 (M := []) hB0)) hst
  · by_cases x4 : nb bs 0 % 16 ≠ 1
    · exact readC w A n c bs _ (some none) (fun D h _ => by cases h) (fun w hB0 => vrrp_S2 w A n c bs hn (by omega) (by omega) (by omega) (St.start1 (M := []) hB0)) (fun h4 x h w hB0 => by cases h; exact vrrp_I2 w A n c bs h4 (by omega) (by omega) (by omega) (St.start1 (M := []) hB0)) hst
    · by_cases x5 : nb bs 3 < 1
      · exact readC w A n c bs _ (some none) (fun D h _ => by cases h) (fun w hB0 => vrrp_S3 w A n c bs hn (by omega) (by omega) (by omega) (St.start1 (M := []) hB0)) (fun h4 x h w hB0 => by cases h; exact vrrp_I3 w A n c bs h4 (by omega) (by omega) (by omega) (St.start1 (M := []) hB0)) hst
      · by_cases x6 : nb bs 0 / 16 ≠ 2
        · exact readC w A n c bs _ none (fun D h _ => by cases h) (fun w hB0 => vrrp_S5 w A n c bs hn (by omega) (by omega) (by omega) (by omega) (by omega) (St.start1 (M := []) hB0)) (fun _ x h => by cases h) hst
        · exact readC w A n c bs _ (some (some ⟨[2, 1, nb bs 1, nb bs 2, nb bs 3, nb bs 4, nb bs 5, bN bs 6 2], [], ((List.range (nb bs 3)).map fun j => ([], sl bs (8 + (4 * j)) (12 + (4 * j)))), []⟩)) (fun D h hp => by cases h; refine ⟨by simp, by simp, Nat.le_trans hp (by decide), fun p hm => ?_⟩; obtain ⟨j, _, rfl⟩ := List.mem_map.1 hm; simp) (fun w hB0 => vrrp_S6 w A n c bs hn (by omega) (by omega) (by omega) (by omega) (by omega) (St.start1 (M := []) hB0)) (fun h4 x h w hB0 => by cases h; exact vrrp_I6 w A n c bs h4 (by omega) (by omega) (by omega) (by omega) (by omega) (St.start1 (M := []) hB0)) hst

theorem fn_vrrpB (w : World) (A : Option Addr) (n : Nat) (c : Nat) (bs : List UInt8) (hn : 2147483647 < n) (hst : St w [] [] [Byt A n c bs] w) : Calls Tryz.prog 24 #[(.slice A n c)] w (fun e w' => e = .returned (.bool true) ∧ Pres [] w w') := by
  have hnc00 : n ≤ c := (hst.fact (j := 0) rfl).2.1
  refine enter (vs := [(.slice A n c)]) Tryz.func24 rfl rfl rfl hst ?_
  refine HT.seq ?_
  refine HT.plain ?_
  refine sq (St.closed _ _ _ _) (q_assign rfl) rfl ?_
  refine send ?_
  refine eseq ?_
  refine HT.seq ?_
  refine HT.seq ?_
  refine HT.plain ?_
  refine sq (St.closed _ _ _ _) (q_move rfl) rfl ?_
  refine sq (St.closed _ _ _ _) (q_len (len := n) rfl Tryz.underlying22) rfl ?_
  refine sq (St.closed _ _ _ _) (q_T (q_gt (p := n) (q := 2147483647) rfl rfl) (by omega)) rfl ?_
  refine send ?_
  refine eseq ?_
  refine HT.yes rfl ?_
  refine HT.seq ?_
  refine HT.plain ?_
  refine sq (St.closed _ _ _ _) (q_assign rfl) rfl ?_
  refine send ?_
  refine eseq ?_
  refine HT.ret ?_
  refine rt_then ?_
  exact fun a ha w' hw => fin_ ha (res1 ha Tryz.results24 rfl) ⟨rfl, hw.pres⟩

theorem fn_vrrpL (w : World) (A : Option Addr) (n : Nat) (c : Nat) (bs : List UInt8) (hn : n ≤ 2147483647) (hst : St w [] [] [Byt A n c bs] w) : Calls Tryz.prog 24 #[(.slice A n c)] w (fun e w' => e = .returned (.bool true) ∧ Pres [] w w') := by
  have hnc00 : n ≤ c := (hst.fact (j := 0) rfl).2.1
  refine enter (vs := [(.slice A n c)]) Tryz.func24 rfl rfl rfl hst ?_
  refine HT.seq ?_
  refine HT.plain ?_
  refine sq (St.closed _ _ _ _) (q_assign rfl) rfl ?_
  refine send ?_
  refine eseq ?_
  refine HT.seq ?_
  refine HT.seq ?_
  refine HT.plain ?_
  refine sq (St.closed _ _ _ _) (q_move rfl) rfl ?_
  refine sq (St.closed _ _ _ _) (q_len (len := n) rfl Tryz.underlying22) rfl ?_
  refine sq (St.closed _ _ _ _) (q_F (q_gt (p := n) (q := 2147483647) rfl rfl) (by omega)) rfl ?_
  refine send ?_
  refine eseq ?_
  refine HT.no rfl ?_
  refine HT.skip ?_
  refine eseq ?_
  refine HT.seq ?_
  refine HT.plain ?_
  refine sq (St.closed _ _ _ _) (q_move rfl) rfl ?_
  refine sq (St.closed _ _ _ _) (q_call (vs := [(.string ⟨#[118, 114, 114, 112]⟩), (.slice A n c)]) (v := (.bool true)) rfl ca_25 (fun w h => read_vrrp w A n c bs (by omega) (St.enter (sp := []) (Kc := []) (bi := [0]) h rfl rfl rfl))) rfl ?_
  refine sq (St.closed _ _ _ _) (q_assign rfl) rfl ?_
  refine send ?_
  refine eseq ?_
  refine HT.ret ?_
  exact fun a ha w' hw => fin_ ha (res1 ha Tryz.results24 rfl) ⟨rfl, hw.pres⟩

theorem fn_vrrp (w : World) (A : Option Addr) (n c : Nat) (bs : List UInt8) (hst : St w [] [] [Byt A n c bs] w) : Calls Tryz.prog 24 #[(.slice A n c)] w (fun e w' => e = .returned (.bool true) ∧ Pres [] w w') := by
  rcases Nat.lt_or_ge 2147483647 n with hn | hn
  · exact fn_vrrpB w A n c bs hn hst
  · exact fn_vrrpL w A n c bs hn hst
end Go.Proofs.YtfkaafbeeegenaaGreat.Zed
