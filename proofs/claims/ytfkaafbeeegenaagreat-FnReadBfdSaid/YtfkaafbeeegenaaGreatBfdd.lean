/- bfd: the package, case 3 -/
import Derived.Test.YtfkaafbeeegenaaGreatBfd0
import Derived.KernelRfl
namespace Go.Proofs.YtfkaafbeeegenaaGreat.Zed
set_option linter.unusedVariables false
set_option linter.unusedSimpArgs false
set_option maxRecDepth 100000
set_option maxHeartbeats 4000000


theorem bfd_c0_3 (w : World) (A : Option Addr) (n : Nat) (c : Nat) (bs : List UInt8) (hn : n ≤ 400) (ha : 24 ≤ n) (hb : nb bs 3 = n) (hc : nb bs 1 / 4 % 2 = 0) (ga : n ≤ 26) (hst : St w [] [] [Byt A n c bs] w) : Calls Tryz.prog 57 #[(.string ⟨#[98, 102, 100]⟩), (.slice A n c)] w (fun e w' => e = .returned (.bool true) ∧ Pres [] w w') := by
  have hnc00 : n ≤ c := (hst.fact (j := 0) rfl).2.1
  refine enter (vs := [(.string ⟨#[98, 102, 100]⟩), (.slice A n c)]) Tryz.func57 rfl rfl rfl hst ?_
  refine HT.seq ?_
  refine HT.plain ?_
  refine sAs rfl rfl ?_
  refine send ?_
  refine eseq ?_
  refine HT.seq ?_
  refine HT.seq ?_
  refine HT.plain ?_
  refine sMv rfl rfl ?_
  refine send ?_
  refine eseq ?_
  refine HT.block ?_
  refine HT.seq ?_
  refine HT.plain ?_
  refine sqS (q_eqs rfl rfl (r := false) (by kernel_rfl)) rfl ?_
  refine sAs rfl rfl ?_
  refine send ?_
  refine eseq ?_
  refine HT.no rfl ?_
  refine HT.seq ?_
  refine HT.plain ?_
  refine sqS (q_eqs rfl rfl (r := false) (by kernel_rfl)) rfl ?_
  refine sAs rfl rfl ?_
  refine send ?_
  refine eseq ?_
  refine HT.no rfl ?_
  refine HT.seq ?_
  refine HT.plain ?_
  refine sqS (q_eqs rfl rfl (r := false) (by kernel_rfl)) rfl ?_
  refine sAs rfl rfl ?_
  refine send ?_
  refine eseq ?_
  refine HT.no rfl ?_
  refine HT.seq ?_
  refine HT.plain ?_
  refine sqS (q_eqs rfl rfl (r := false) (by kernel_rfl)) rfl ?_
  refine sAs rfl rfl ?_
  refine send ?_
  refine eseq ?_
  refine HT.no rfl ?_
  refine HT.seq ?_
  refine HT.plain ?_
  refine sqS (q_eqs rfl rfl (r := false) (by kernel_rfl)) rfl ?_
  refine sAs rfl rfl ?_
  refine send ?_
  refine eseq ?_
  refine HT.no rfl ?_
  refine HT.seq ?_
  refine HT.seq ?_
  refine HT.plain ?_
  refine sqS (q_eqs rfl rfl (r := false) (by kernel_rfl)) rfl ?_
  refine sAs rfl rfl ?_
  refine send ?_
  refine eseq ?_
  refine HT.no rfl ?_
  refine HT.seq ?_
  refine HT.plain ?_
  refine sqS (q_eqs rfl rfl (r := false) (by kernel_rfl)) rfl ?_
  refine sAs rfl rfl ?_
  refine send ?_
  refine eseq ?_
  refine HT.no rfl ?_
  refine HT.plain ?_
  refine sqS (q_eqs rfl rfl (r := false) (by kernel_rfl)) rfl ?_
  refine sAs rfl rfl ?_
  refine send ?_
  refine eseq ?_
  refine HT.no rfl ?_
  refine HT.seq ?_
  refine HT.plain ?_
  refine sqS (q_eqs rfl rfl (r := false) (by kernel_rfl)) rfl ?_
  refine sAs rfl rfl ?_
  refine send ?_
  refine eseq ?_
  refine HT.no rfl ?_
  refine HT.seq ?_
  refine HT.plain ?_
  refine sqS (q_eqs rfl rfl (r := false) (by kernel_rfl)) rfl ?_
  refine sAs rfl rfl ?_
  refine send ?_
  refine eseq ?_
  refine HT.no rfl ?_
  refine HT.seq ?_
  refine HT.plain ?_
  refine sqS (q_eqs rfl rfl (r := false) (by kernel_rfl)) rfl ?_
  refine sAs rfl rfl ?_
  refine send ?_
  refine eseq ?_
  refine HT.no rfl ?_
  refine HT.seq ?_
  refine HT.plain ?_
  refine sqS (q_eqs rfl rfl (r := false) (by kernel_rfl)) rfl ?_
  refine sAs rfl rfl ?_
  refine send ?_
  refine eseq ?_
  refine HT.no rfl ?_
  refine HT.seq ?_
  refine HT.plain ?_
  refine sqS (q_eqs rfl rfl (r := true) (by kernel_rfl)) rfl ?_
  refine sAs rfl rfl ?_
  refine send ?_
  refine eseq ?_
  refine HT.yes rfl ?_
  refine HT.seq ?_
  refine HT.plain ?_
  refine sMv rfl rfl ?_
  refine sqS (q_len (len := n) rfl Tryz.underlying22) rfl ?_
  refine sqS (q_T (q_le (p := n) (q := 26) rfl rfl) (by omega)) rfl ?_
  refine sMv rfl rfl ?_
  refine sskip rfl rfl ?_
  refine sskip rfl rfl ?_
  refine sskip rfl rfl ?_
  refine sqS (q_pick rfl (fun _ => rfl) (fun h => nomatch h)) rfl ?_
  refine sMv rfl rfl ?_
  refine sskip rfl rfl ?_
  refine sskip rfl rfl ?_
  refine sskip rfl rfl ?_
  refine sskip rfl rfl ?_
  refine sskip rfl rfl ?_
  refine sqS (q_pick rfl (fun _ => rfl) (fun h => nomatch h)) rfl ?_
  refine sMv rfl rfl ?_
  refine sskip rfl rfl ?_
  refine sskip rfl rfl ?_
  refine sskip rfl rfl ?_
  refine sskip rfl rfl ?_
  refine sqS (q_pick rfl (fun _ => rfl) (fun h => nomatch h)) rfl ?_
  refine sMv rfl rfl ?_
  refine sskip rfl rfl ?_
  refine sskip rfl rfl ?_
  refine sskip rfl rfl ?_
  refine sskip rfl rfl ?_
  refine sqS (q_pick rfl (fun _ => rfl) (fun h => nomatch h)) rfl ?_
  refine sAs rfl rfl ?_
  refine send ?_
  refine eseq ?_
  refine HT.ret ?_
  refine rt_in ?_
  refine rt_then ?_
  exact fun a ha w' hw => fin_ ha (res1 ha Tryz.results57 rfl) ⟨rfl, hw.pres⟩

theorem bfd_c1_3 (w : World) (A : Option Addr) (n : Nat) (c : Nat) (bs : List UInt8) (hn : n ≤ 400) (ha : 24 ≤ n) (hb : nb bs 3 = n) (hc : nb bs 1 / 4 % 2 = 0) (ga : 27 ≤ n) (gb : n < 32) (hst : St w [] [] [Byt A n c bs] w) : Calls Tryz.prog 57 #[(.string ⟨#[98, 102, 100]⟩), (.slice A n c)] w (fun e w' => e = .returned (.bool true) ∧ Pres [] w w') := by
  have hnc00 : n ≤ c := (hst.fact (j := 0) rfl).2.1
  refine enter (vs := [(.string ⟨#[98, 102, 100]⟩), (.slice A n c)]) Tryz.func57 rfl rfl rfl hst ?_
  refine HT.seq ?_
  refine HT.plain ?_
  refine sAs rfl rfl ?_
  refine send ?_
  refine eseq ?_
  refine HT.seq ?_
  refine HT.seq ?_
  refine HT.plain ?_
  refine sMv rfl rfl ?_
  refine send ?_
  refine eseq ?_
  refine HT.block ?_
  refine HT.seq ?_
  refine HT.plain ?_
  refine sqS (q_eqs rfl rfl (r := false) (by kernel_rfl)) rfl ?_
  refine sAs rfl rfl ?_
  refine send ?_
  refine eseq ?_
  refine HT.no rfl ?_
  refine HT.seq ?_
  refine HT.plain ?_
  refine sqS (q_eqs rfl rfl (r := false) (by kernel_rfl)) rfl ?_
  refine sAs rfl rfl ?_
  refine send ?_
  refine eseq ?_
  refine HT.no rfl ?_
  refine HT.seq ?_
  refine HT.plain ?_
  refine sqS (q_eqs rfl rfl (r := false) (by kernel_rfl)) rfl ?_
  refine sAs rfl rfl ?_
  refine send ?_
  refine eseq ?_
  refine HT.no rfl ?_
  refine HT.seq ?_
  refine HT.plain ?_
  refine sqS (q_eqs rfl rfl (r := false) (by kernel_rfl)) rfl ?_
  refine sAs rfl rfl ?_
  refine send ?_
  refine eseq ?_
  refine HT.no rfl ?_
  refine HT.seq ?_
  refine HT.plain ?_
  refine sqS (q_eqs rfl rfl (r := false) (by kernel_rfl)) rfl ?_
  refine sAs rfl rfl ?_
  refine send ?_
  refine eseq ?_
  refine HT.no rfl ?_
  refine HT.seq ?_
  refine HT.seq ?_
  refine HT.plain ?_
  refine sqS (q_eqs rfl rfl (r := false) (by kernel_rfl)) rfl ?_
  refine sAs rfl rfl ?_
  refine send ?_
  refine eseq ?_
  refine HT.no rfl ?_
  refine HT.seq ?_
  refine HT.plain ?_
  refine sqS (q_eqs rfl rfl (r := false) (by kernel_rfl)) rfl ?_
  refine sAs rfl rfl ?_
  refine send ?_
  refine eseq ?_
  refine HT.no rfl ?_
  refine HT.plain ?_
  refine sqS (q_eqs rfl rfl (r := false) (by kernel_rfl)) rfl ?_
  refine sAs rfl rfl ?_
  refine send ?_
  refine eseq ?_
  refine HT.no rfl ?_
  refine HT.seq ?_
  refine HT.plain ?_
  refine sqS (q_eqs rfl rfl (r := false) (by kernel_rfl)) rfl ?_
  refine sAs rfl rfl ?_
  refine send ?_
  refine eseq ?_
  refine HT.no rfl ?_
  refine HT.seq ?_
  refine HT.plain ?_
  refine sqS (q_eqs rfl rfl (r := false) (by kernel_rfl)) rfl ?_
  refine sAs rfl rfl ?_
  refine send ?_
  refine eseq ?_
  refine HT.no rfl ?_
  refine HT.seq ?_
  refine HT.plain ?_
  refine sqS (q_eqs rfl rfl (r := false) (by kernel_rfl)) rfl ?_
  refine sAs rfl rfl ?_
  refine send ?_
  refine eseq ?_
  refine HT.no rfl ?_
  refine HT.seq ?_
  refine HT.plain ?_
  refine sqS (q_eqs rfl rfl (r := false) (by kernel_rfl)) rfl ?_
  refine sAs rfl rfl ?_
  refine send ?_
  refine eseq ?_
  refine HT.no rfl ?_
  refine HT.seq ?_
  refine HT.plain ?_
  refine sqS (q_eqs rfl rfl (r := true) (by kernel_rfl)) rfl ?_
  refine sAs rfl rfl ?_
  refine send ?_
  refine eseq ?_
  refine HT.yes rfl ?_
  refine HT.seq ?_
  refine HT.plain ?_
  refine sMv rfl rfl ?_
  refine sqS (q_len (len := n) rfl Tryz.underlying22) rfl ?_
  refine sqS (q_F (q_le (p := n) (q := 26) rfl rfl) (by omega)) rfl ?_
  refine sMv rfl rfl ?_
  refine sgqS rfl (q_move rfl) rfl ?_
  refine sgqS rfl (q_len (len := n) rfl Tryz.underlying22) rfl ?_
  refine sgqS rfl (q_F (q_ge (p := n) (q := 32) rfl rfl) (by omega)) rfl ?_
  refine sqS (q_pick rfl (fun h => nomatch h) (fun _ => rfl)) rfl ?_
  refine sMv rfl rfl ?_
  refine sgqS rfl (q_move rfl) rfl ?_
  refine sgqS rfl (q_index (i := 1) (j := 0) rfl rfl Tryz.underlying22 nagg_5 (fun _ h => h) rfl (by omega)) rfl ?_
  refine sgqS rfl (q_byte (i := 1) (j := 0) rfl nagg_5 (fun _ h => h) rfl (by omega)) rfl ?_
  refine sgqS rfl (q_and (p := nb bs 1) (q := 4) rfl rfl rfl (show nb bs 1 < 256 by have := nb_lt bs 1; omega) (by decide)) rfl ?_
  refine sgqS rfl (q_T (q_eq (p := (nb bs 1) &&& 4) (q := 0) rfl rfl) (by have := nb_lt bs 1; have := zb4 (nb bs 1); have := Nat.and_le_left (n := nb bs 1) (m := 4); have := Nat.and_le_right (n := nb bs 1) (m := 4); omega)) rfl ?_
  refine sqS (q_pick rfl (fun h => nomatch h) (fun _ => rfl)) rfl ?_
  refine sMv rfl rfl ?_
  refine sskip rfl rfl ?_
  refine sskip rfl rfl ?_
  refine sskip rfl rfl ?_
  refine sskip rfl rfl ?_
  refine sqS (q_pick rfl (fun _ => rfl) (fun h => nomatch h)) rfl ?_
  refine sMv rfl rfl ?_
  refine sskip rfl rfl ?_
  refine sskip rfl rfl ?_
  refine sskip rfl rfl ?_
  refine sskip rfl rfl ?_
  refine sqS (q_pick rfl (fun _ => rfl) (fun h => nomatch h)) rfl ?_
  refine sAs rfl rfl ?_
  refine send ?_
  refine eseq ?_
  refine HT.ret ?_
  refine rt_in ?_
  refine rt_then ?_
  exact fun a ha w' hw => fin_ ha (res1 ha Tryz.results57 rfl) ⟨rfl, hw.pres⟩

theorem bfd_c2_3 (w : World) (A : Option Addr) (n : Nat) (c : Nat) (bs : List UInt8) (hn : n ≤ 400) (ha : 24 ≤ n) (hb : nb bs 3 = n) (hc : nb bs 1 / 4 % 2 = 0) (ga : 32 ≤ n) (hst : St w [] [] [Byt A n c bs] w) : Calls Tryz.prog 57 #[(.string ⟨#[98, 102, 100]⟩), (.slice A n c)] w (fun e w' => e = .returned (.bool true) ∧ Pres [] w w') := by
  have hnc00 : n ≤ c := (hst.fact (j := 0) rfl).2.1
  refine enter (vs := [(.string ⟨#[98, 102, 100]⟩), (.slice A n c)]) Tryz.func57 rfl rfl rfl hst ?_
  refine HT.seq ?_
  refine HT.plain ?_
  refine sAs rfl rfl ?_
  refine send ?_
  refine eseq ?_
  refine HT.seq ?_
  refine HT.seq ?_
  refine HT.plain ?_
  refine sMv rfl rfl ?_
  refine send ?_
  refine eseq ?_
  refine HT.block ?_
  refine HT.seq ?_
  refine HT.plain ?_
  refine sqS (q_eqs rfl rfl (r := false) (by kernel_rfl)) rfl ?_
  refine sAs rfl rfl ?_
  refine send ?_
  refine eseq ?_
  refine HT.no rfl ?_
  refine HT.seq ?_
  refine HT.plain ?_
  refine sqS (q_eqs rfl rfl (r := false) (by kernel_rfl)) rfl ?_
  refine sAs rfl rfl ?_
  refine send ?_
  refine eseq ?_
  refine HT.no rfl ?_
  refine HT.seq ?_
  refine HT.plain ?_
  refine sqS (q_eqs rfl rfl (r := false) (by kernel_rfl)) rfl ?_
  refine sAs rfl rfl ?_
  refine send ?_
  refine eseq ?_
  refine HT.no rfl ?_
  refine HT.seq ?_
  refine HT.plain ?_
  refine sqS (q_eqs rfl rfl (r := false) (by kernel_rfl)) rfl ?_
  refine sAs rfl rfl ?_
  refine send ?_
  refine eseq ?_
  refine HT.no rfl ?_
  refine HT.seq ?_
  refine HT.plain ?_
  refine sqS (q_eqs rfl rfl (r := false) (by kernel_rfl)) rfl ?_
  refine sAs rfl rfl ?_
  refine send ?_
  refine eseq ?_
  refine HT.no rfl ?_
  refine HT.seq ?_
  refine HT.seq ?_
  refine HT.plain ?_
  refine sqS (q_eqs rfl rfl (r := false) (by kernel_rfl)) rfl ?_
  refine sAs rfl rfl ?_
  refine send ?_
  refine eseq ?_
  refine HT.no rfl ?_
  refine HT.seq ?_
  refine HT.plain ?_
  refine sqS (q_eqs rfl rfl (r := false) (by kernel_rfl)) rfl ?_
  refine sAs rfl rfl ?_
  refine send ?_
  refine eseq ?_
  refine HT.no rfl ?_
  refine HT.plain ?_
  refine sqS (q_eqs rfl rfl (r := false) (by kernel_rfl)) rfl ?_
  refine sAs rfl rfl ?_
  refine send ?_
  refine eseq ?_
  refine HT.no rfl ?_
  refine HT.seq ?_
  refine HT.plain ?_
  refine sqS (q_eqs rfl rfl (r := false) (by kernel_rfl)) rfl ?_
  refine sAs rfl rfl ?_
  refine send ?_
  refine eseq ?_
  refine HT.no rfl ?_
  refine HT.seq ?_
  refine HT.plain ?_
  refine sqS (q_eqs rfl rfl (r := false) (by kernel_rfl)) rfl ?_
  refine sAs rfl rfl ?_
  refine send ?_
  refine eseq ?_
  refine HT.no rfl ?_
  refine HT.seq ?_
  refine HT.plain ?_
  refine sqS (q_eqs rfl rfl (r := false) (by kernel_rfl)) rfl ?_
  refine sAs rfl rfl ?_
  refine send ?_
  refine eseq ?_
  refine HT.no rfl ?_
  refine HT.seq ?_
  refine HT.plain ?_
  refine sqS (q_eqs rfl rfl (r := false) (by kernel_rfl)) rfl ?_
  refine sAs rfl rfl ?_
  refine send ?_
  refine eseq ?_
  refine HT.no rfl ?_
  refine HT.seq ?_
  refine HT.plain ?_
  refine sqS (q_eqs rfl rfl (r := true) (by kernel_rfl)) rfl ?_
  refine sAs rfl rfl ?_
  refine send ?_
  refine eseq ?_
  refine HT.yes rfl ?_
  refine HT.seq ?_
  refine HT.plain ?_
  refine sMv rfl rfl ?_
  refine sqS (q_len (len := n) rfl Tryz.underlying22) rfl ?_
  refine sqS (q_F (q_le (p := n) (q := 26) rfl rfl) (by omega)) rfl ?_
  refine sMv rfl rfl ?_
  refine sgqS rfl (q_move rfl) rfl ?_
  refine sgqS rfl (q_len (len := n) rfl Tryz.underlying22) rfl ?_
  refine sgqS rfl (q_T (q_ge (p := n) (q := 32) rfl rfl) (by omega)) rfl ?_
  refine sqS (q_pick rfl (fun h => nomatch h) (fun _ => rfl)) rfl ?_
  refine sMv rfl rfl ?_
  refine sskip rfl rfl ?_
  refine sskip rfl rfl ?_
  refine sskip rfl rfl ?_
  refine sskip rfl rfl ?_
  refine sskip rfl rfl ?_
  refine sqS (q_pick rfl (fun _ => rfl) (fun h => nomatch h)) rfl ?_
  refine sMv rfl rfl ?_
  refine sskip rfl rfl ?_
  refine sskip rfl rfl ?_
  refine sskip rfl rfl ?_
  refine sskip rfl rfl ?_
  refine sqS (q_pick rfl (fun _ => rfl) (fun h => nomatch h)) rfl ?_
  refine sMv rfl rfl ?_
  refine sskip rfl rfl ?_
  refine sskip rfl rfl ?_
  refine sskip rfl rfl ?_
  refine sskip rfl rfl ?_
  refine sqS (q_pick rfl (fun _ => rfl) (fun h => nomatch h)) rfl ?_
  refine sAs rfl rfl ?_
  refine send ?_
  refine eseq ?_
  refine HT.ret ?_
  refine rt_in ?_
  refine rt_then ?_
  exact fun a ha w' hw => fin_ ha (res1 ha Tryz.results57 rfl) ⟨rfl, hw.pres⟩

theorem bfd_c3 (w : World) (A : Option Addr) (n : Nat) (c : Nat) (bs : List UInt8) (hn : n ≤ 400) (ha : 24 ≤ n) (hb : nb bs 3 = n) (hc : nb bs 1 / 4 % 2 = 0) (hst : St w [] [] [Byt A n c bs] w) : Calls Tryz.prog 57 #[(.string ⟨#[98, 102, 100]⟩), (.slice A n c)] w (fun e w' => e = .returned (.bool true) ∧ Pres [] w w') := by
  have key : (n ≤ 26) ∨ (27 ≤ n ∧ n < 32) ∨ (32 ≤ n) := by omega
  rcases key with ga | ⟨ga, gb⟩ | ga
  · exact bfd_c0_3 w A n c bs hn ha hb hc ga hst
  · exact bfd_c1_3 w A n c bs hn ha hb hc ga gb hst
  · exact bfd_c2_3 w A n c bs hn ha hb hc ga hst

abbrev bfd_m1_3_a10 (A : Option Addr) (c : Nat) : Option Addr := cutA (cutA (cutA A c 1) (c - 1) 1) ((c - 1) - 1) 1
abbrev bfd_m1_3_a9 (A : Option Addr) (c : Nat) : Option Addr := cutA (bfd_m1_3_a10 A c) (((c - 1) - 1) - 1) 1
abbrev bfd_m1_3_a8 (A : Option Addr) (c : Nat) : Option Addr := cutA (bfd_m1_3_a9 A c) ((((c - 1) - 1) - 1) - 1) 4
abbrev bfd_m1_3_a7 (A : Option Addr) (c : Nat) : Option Addr := cutA (bfd_m1_3_a9 A c) ((((c - 1) - 1) - 1) - 1) 0
abbrev bfd_m1_3_a6 (A : Option Addr) (c : Nat) : Option Addr := cutA (bfd_m1_3_a8 A c) (((((c - 1) - 1) - 1) - 1) - 4) 4
abbrev bfd_m1_3_a5 (A : Option Addr) (c : Nat) : Option Addr := cutA (bfd_m1_3_a8 A c) (((((c - 1) - 1) - 1) - 1) - 4) 0
abbrev bfd_m1_3_a4 (A : Option Addr) (c : Nat) : Option Addr := cutA (bfd_m1_3_a6 A c) ((((((c - 1) - 1) - 1) - 1) - 4) - 4) 4
abbrev bfd_m1_3_a3 (A : Option Addr) (c : Nat) : Option Addr := cutA (bfd_m1_3_a6 A c) ((((((c - 1) - 1) - 1) - 1) - 4) - 4) 0
abbrev bfd_m1_3_a2 (A : Option Addr) (c : Nat) : Option Addr := cutA (bfd_m1_3_a4 A c) (((((((c - 1) - 1) - 1) - 1) - 4) - 4) - 4) 4
abbrev bfd_m1_3_a1 (A : Option Addr) (c : Nat) : Option Addr := cutA (bfd_m1_3_a4 A c) (((((((c - 1) - 1) - 1) - 1) - 4) - 4) - 4) 0
abbrev bfd_m1_3_a0 (A : Option Addr) (c : Nat) : Option Addr := cutA (bfd_m1_3_a2 A c) ((((((((c - 1) - 1) - 1) - 1) - 4) - 4) - 4) - 4) 0

theorem bfd_m1_3 (w : World) (A : Option Addr) (n : Nat) (c : Nat) (bs : List UInt8) (rb : Nat) (kb : Nat) (hn : n ≤ 400) (ha : 24 ≤ n) (hb : nb bs 3 = n) (hc : nb bs 1 / 4 % 2 = 0) (hst : St w [rb] [⟨rb, 146, [some (.slice none 0 0), some (.slice none 0 0), some (.int .u8 ((0 : Nat) : Int)), some (.int .u8 ((0 : Nat) : Int)), some (.int .u8 ((0 : Nat) : Int)), some (.bool false), some (.bool false), some (.bool false), some (.bool false), some (.bool false), some (.bool false), some (.int .u8 ((0 : Nat) : Int)), some (.int .u32 ((0 : Nat) : Int)), some (.int .u32 ((0 : Nat) : Int)), some (.int .u32 ((0 : Nat) : Int)), some (.int .u32 ((0 : Nat) : Int)), some (.int .u32 ((0 : Nat) : Int)), some (.pointer none)], true⟩] [Byt A n c bs] w) : Calls Tryz.prog 99 #[(.pointer (some ⟨rb, 0, none⟩)), (.slice A n c), (.iface 199 (.pointer (some ⟨kb, 0, none⟩)))] w (CP0 w [rb] [Byt A n c bs] (.nilIface) ([⟨rb, 146, [some (.slice (cutA A c 0) (n - 0) (c - 0)), some (.slice none 0 0), some (.int .u8 ((((nb bs 0) &&& 224) / 32 : Nat) : Int)), some (.int .u8 (((nb bs 0) &&& 31 : Nat) : Int)), some (.int .u8 ((((nb bs 1) &&& 192) / 64 : Nat) : Int)), some (.bool (decide ((nb bs 1) &&& 32 ≠ 0))), some (.bool (decide ((nb bs 1) &&& 16 ≠ 0))), some (.bool (decide ((nb bs 1) &&& 8 ≠ 0))), some (.bool false), some (.bool (decide ((nb bs 1) &&& 2 ≠ 0))), some (.bool (decide ((nb bs 1) &&& 1 ≠ 0))), some (.int .u8 ((nb bs 2 : Nat) : Int)), some (.int .u32 ((bN bs 4 4 : Nat) : Int)), some (.int .u32 ((bN bs 8 4 : Nat) : Int)), some (.int .u32 ((bN bs 12 4 : Nat) : Int)), some (.int .u32 ((bN bs 16 4 : Nat) : Int)), some (.int .u32 ((bN bs 20 4 : Nat) : Int)), some (.pointer none)], true⟩]) ([])) := by
  have hnc00 : n ≤ c := (hst.fact (j := 0) rfl).2.1
  refine enter (vs := [(.pointer (some ⟨rb, 0, none⟩)), (.slice A n c), (.iface 199 (.pointer (some ⟨kb, 0, none⟩)))]) Tryz.func99 rfl rfl rfl hst ?_
  refine HT.seq ?_
  refine HT.plain ?_
  refine sAs rfl rfl ?_
  refine send ?_
  refine eseq ?_
  refine HT.seq ?_
  refine HT.seq ?_
  refine HT.plain ?_
  refine sMv rfl rfl ?_
  refine sqS (q_len (len := n) rfl Tryz.underlying22) rfl ?_
  refine sqS (q_F (q_lt (p := n) (q := 24) rfl rfl) (by omega)) rfl ?_
  refine send ?_
  refine eseq ?_
  refine HT.no rfl ?_
  refine HT.skip ?_
  refine eseq ?_
  refine HT.seq ?_
  refine HT.plain ?_
  refine sMv rfl rfl ?_
  refine sqS (q_index (i := 3) (j := 0) rfl rfl Tryz.underlying22 nagg_5 (fun _ h => h) rfl (by omega)) rfl ?_
  refine sqS (q_byte (i := 3) (j := 0) rfl nagg_5 (fun _ h => h) rfl (by omega)) rfl ?_
  refine sAs rfl rfl ?_
  refine send ?_
  refine eseq ?_
  refine HT.seq ?_
  refine HT.seq ?_
  refine HT.plain ?_
  refine sMv rfl rfl ?_
  refine sqS (q_len (len := n) rfl Tryz.underlying22) rfl ?_
  refine sMv rfl rfl ?_
  refine sqS (q_convn (p := nb bs 3) rfl Tryz.underlying5 Tryz.underlying3 (show nb bs 3 < 9223372036854775808 by have := nb_lt bs 3; omega)) rfl ?_
  refine sqS (q_F (q_ne (p := n) (q := nb bs 3) rfl rfl) (by have := nb_lt bs 3; omega)) rfl ?_
  refine send ?_
  refine eseq ?_
  refine HT.no rfl ?_
  refine HT.skip ?_
  refine eseq ?_
  refine HT.seq ?_
  refine HT.plain ?_
  refine sMv rfl rfl ?_
  refine sMv rfl rfl ?_
  refine sMv rfl rfl ?_
  refine sqS (q_len (len := n) rfl Tryz.underlying22) rfl ?_
  refine sqS (q_slice (lo := 0) (hi := n) rfl Tryz.underlying22 nagg_5 (.inl ⟨rfl, rfl⟩) (.inr ⟨_, _, rfl, rfl⟩) (by omega) (by omega)) rfl ?_
  refine sqS (q_build (vs := [(0, (.slice (cutA A c 0) (n - 0) (c - 0)))]) (v := (.agg #[(.slice (cutA A c 0) (n - 0) (c - 0)), (.slice none 0 0)])) rfl (fun _ => by kernel_rfl)) rfl ?_
  refine sqS (q_nil rfl) rfl ?_
  refine sqS (q_field (b := rb) (off := 0) rfl fo_146_0) rfl ?_
  refine sl_ (l_storeAgg (b := rb) (off := 0) (j := 0) (vs := [(.slice (cutA A c 0) (n - 0) (c - 0)), (.slice none 0 0)]) rfl rfl aggs_68 (by simp [Value.one1]) rfl rfl rfl (Nat.le_of_ble_eq_true rfl) ?_)
  refine send ?_
  refine eseq ?_
  refine HT.norm [⟨rb, 146, [some (.slice (cutA A c 0) (n - 0) (c - 0)), some (.slice none 0 0), some (.int .u8 ((0 : Nat) : Int)), some (.int .u8 ((0 : Nat) : Int)), some (.int .u8 ((0 : Nat) : Int)), some (.bool false), some (.bool false), some (.bool false), some (.bool false), some (.bool false), some (.bool false), some (.int .u8 ((0 : Nat) : Int)), some (.int .u32 ((0 : Nat) : Int)), some (.int .u32 ((0 : Nat) : Int)), some (.int .u32 ((0 : Nat) : Int)), some (.int .u32 ((0 : Nat) : Int)), some (.int .u32 ((0 : Nat) : Int)), some (.pointer none)], true⟩] [Byt A n c bs] rfl rfl ?_
  refine HT.seq ?_
  refine HT.plain ?_
  refine sMv rfl rfl ?_
  refine sMv rfl rfl ?_
  refine sqS (q_index (i := 0) (j := 0) rfl rfl Tryz.underlying22 nagg_5 (fun _ h => h) rfl (by omega)) rfl ?_
  refine sqS (q_byte (i := 0) (j := 0) rfl nagg_5 (fun _ h => h) rfl (by omega)) rfl ?_
  refine sqS (q_and (p := nb bs 0) (q := 224) rfl rfl rfl (show nb bs 0 < 256 by have := nb_lt bs 0; omega) (by decide)) rfl ?_
  refine sqS (q_shr (p := (nb bs 0) &&& 224) (e := 5) (N := 32) rfl rfl (by decide) rfl) rfl ?_
  refine sqS (q_nil rfl) rfl ?_
  refine sqS (q_field (b := rb) (off := 0) rfl fo_146_1) rfl ?_
  refine sl_ (l_store (b := rb) (off := 2) (j := 0) rfl rfl nagg_138 rfl rfl rfl rfl (dlt rfl) ?_)
  refine send ?_
  refine eseq ?_
  refine HT.norm [⟨rb, 146, [some (.slice (cutA A c 0) (n - 0) (c - 0)), some (.slice none 0 0), some (.int .u8 ((((nb bs 0) &&& 224) / 32 : Nat) : Int)), some (.int .u8 ((0 : Nat) : Int)), some (.int .u8 ((0 : Nat) : Int)), some (.bool false), some (.bool false), some (.bool false), some (.bool false), some (.bool false), some (.bool false), some (.int .u8 ((0 : Nat) : Int)), some (.int .u32 ((0 : Nat) : Int)), some (.int .u32 ((0 : Nat) : Int)), some (.int .u32 ((0 : Nat) : Int)), some (.int .u32 ((0 : Nat) : Int)), some (.int .u32 ((0 : Nat) : Int)), some (.pointer none)], true⟩] [Byt A n c bs] rfl rfl ?_
  refine HT.seq ?_
  refine HT.plain ?_
  refine sMv rfl rfl ?_
  refine sMv rfl rfl ?_
  refine sqS (q_index (i := 0) (j := 0) rfl rfl Tryz.underlying22 nagg_5 (fun _ h => h) rfl (by omega)) rfl ?_
  refine sqS (q_byte (i := 0) (j := 0) rfl nagg_5 (fun _ h => h) rfl (by omega)) rfl ?_
  refine sqS (q_and (p := nb bs 0) (q := 31) rfl rfl rfl (show nb bs 0 < 256 by have := nb_lt bs 0; omega) (by decide)) rfl ?_
  refine sqS (q_nil rfl) rfl ?_
  refine sqS (q_field (b := rb) (off := 0) rfl fo_146_2) rfl ?_
  refine sl_ (l_store (b := rb) (off := 3) (j := 0) rfl rfl nagg_139 rfl rfl rfl rfl (dlt rfl) ?_)
  refine send ?_
  refine eseq ?_
  refine HT.norm [⟨rb, 146, [some (.slice (cutA A c 0) (n - 0) (c - 0)), some (.slice none 0 0), some (.int .u8 ((((nb bs 0) &&& 224) / 32 : Nat) : Int)), some (.int .u8 (((nb bs 0) &&& 31 : Nat) : Int)), some (.int .u8 ((0 : Nat) : Int)), some (.bool false), some (.bool false), some (.bool false), some (.bool false), some (.bool false), some (.bool false), some (.int .u8 ((0 : Nat) : Int)), some (.int .u32 ((0 : Nat) : Int)), some (.int .u32 ((0 : Nat) : Int)), some (.int .u32 ((0 : Nat) : Int)), some (.int .u32 ((0 : Nat) : Int)), some (.int .u32 ((0 : Nat) : Int)), some (.pointer none)], true⟩] [Byt A n c bs] rfl rfl ?_
  refine HT.seq ?_
  refine HT.plain ?_
  refine sMv rfl rfl ?_
  refine sqS (q_slice (lo := 1) (hi := n) rfl Tryz.underlying22 nagg_5 (.inr ⟨_, _, rfl, rfl⟩) (.inl ⟨rfl, rfl⟩) (by omega) (by omega)) rfl ?_
  refine sAs rfl rfl ?_
  refine send ?_
  refine eseq ?_
  refine HT.reg 0 (lo := 1) (hi := n) rfl (by omega) (by omega) ?_
  refine HT.seq ?_
  refine HT.plain ?_
  refine sMv rfl rfl ?_
  refine sMv rfl rfl ?_
  refine sqS (q_index (i := 0) (j := 1) rfl rfl Tryz.underlying22 nagg_5 (fun _ h => h) rfl (by omega)) rfl ?_
  refine sqS (q_N (q_byte (i := 0) (j := 1) rfl nagg_5 (fun _ h => h) rfl (by omega)) (a := nb (sl bs 1 n) 0) (b := nb bs 1) (nb_sl (by omega))) rfl ?_
  refine sqS (q_and (p := nb bs 1) (q := 192) rfl rfl rfl (show nb bs 1 < 256 by have := nb_lt bs 1; omega) (by decide)) rfl ?_
  refine sqS (q_shr (p := (nb bs 1) &&& 192) (e := 6) (N := 64) rfl rfl (by decide) rfl) rfl ?_
  refine sqS (q_nil rfl) rfl ?_
  refine sqS (q_field (b := rb) (off := 0) rfl fo_146_3) rfl ?_
  refine sl_ (l_store (b := rb) (off := 4) (j := 0) rfl rfl nagg_140 rfl rfl rfl rfl (dlt rfl) ?_)
  refine send ?_
  refine eseq ?_
  refine HT.norm [⟨rb, 146, [some (.slice (cutA A c 0) (n - 0) (c - 0)), some (.slice none 0 0), some (.int .u8 ((((nb bs 0) &&& 224) / 32 : Nat) : Int)), some (.int .u8 (((nb bs 0) &&& 31 : Nat) : Int)), some (.int .u8 ((((nb bs 1) &&& 192) / 64 : Nat) : Int)), some (.bool false), some (.bool false), some (.bool false), some (.bool false), some (.bool false), some (.bool false), some (.int .u8 ((0 : Nat) : Int)), some (.int .u32 ((0 : Nat) : Int)), some (.int .u32 ((0 : Nat) : Int)), some (.int .u32 ((0 : Nat) : Int)), some (.int .u32 ((0 : Nat) : Int)), some (.int .u32 ((0 : Nat) : Int)), some (.pointer none)], true⟩] [Byt A n c bs, Byt (cutA A c 1) (n - 1) (c - 1) (sl bs 1 n)] rfl rfl ?_
  refine HT.seq ?_
  refine HT.plain ?_
  refine sMv rfl rfl ?_
  refine sMv rfl rfl ?_
  refine sqS (q_index (i := 0) (j := 1) rfl rfl Tryz.underlying22 nagg_5 (fun _ h => h) rfl (by omega)) rfl ?_
  refine sqS (q_N (q_byte (i := 0) (j := 1) rfl nagg_5 (fun _ h => h) rfl (by omega)) (a := nb (sl bs 1 n) 0) (b := nb bs 1) (nb_sl (by omega))) rfl ?_
  refine sqS (q_and (p := nb bs 1) (q := 32) rfl rfl rfl (show nb bs 1 < 256 by have := nb_lt bs 1; omega) (by decide)) rfl ?_
  refine sqS (q_ne (p := (nb bs 1) &&& 32) (q := 0) rfl rfl) rfl ?_
  refine sqS (q_nil rfl) rfl ?_
  refine sqS (q_field (b := rb) (off := 0) rfl fo_146_4) rfl ?_
  refine sl_ (l_store (b := rb) (off := 5) (j := 0) rfl rfl nagg_4 rfl rfl rfl rfl (dlt rfl) ?_)
  refine send ?_
  refine eseq ?_
  refine HT.norm [⟨rb, 146, [some (.slice (cutA A c 0) (n - 0) (c - 0)), some (.slice none 0 0), some (.int .u8 ((((nb bs 0) &&& 224) / 32 : Nat) : Int)), some (.int .u8 (((nb bs 0) &&& 31 : Nat) : Int)), some (.int .u8 ((((nb bs 1) &&& 192) / 64 : Nat) : Int)), some (.bool (decide ((nb bs 1) &&& 32 ≠ 0))), some (.bool false), some (.bool false), some (.bool false), some (.bool false), some (.bool false), some (.int .u8 ((0 : Nat) : Int)), some (.int .u32 ((0 : Nat) : Int)), some (.int .u32 ((0 : Nat) : Int)), some (.int .u32 ((0 : Nat) : Int)), some (.int .u32 ((0 : Nat) : Int)), some (.int .u32 ((0 : Nat) : Int)), some (.pointer none)], true⟩] [Byt A n c bs, Byt (cutA A c 1) (n - 1) (c - 1) (sl bs 1 n)] rfl rfl ?_
  refine HT.seq ?_
  refine HT.plain ?_
  refine sMv rfl rfl ?_
  refine sMv rfl rfl ?_
  refine sqS (q_index (i := 0) (j := 1) rfl rfl Tryz.underlying22 nagg_5 (fun _ h => h) rfl (by omega)) rfl ?_
  refine sqS (q_N (q_byte (i := 0) (j := 1) rfl nagg_5 (fun _ h => h) rfl (by omega)) (a := nb (sl bs 1 n) 0) (b := nb bs 1) (nb_sl (by omega))) rfl ?_
  refine sqS (q_and (p := nb bs 1) (q := 16) rfl rfl rfl (show nb bs 1 < 256 by have := nb_lt bs 1; omega) (by decide)) rfl ?_
  refine sqS (q_ne (p := (nb bs 1) &&& 16) (q := 0) rfl rfl) rfl ?_
  refine sqS (q_nil rfl) rfl ?_
  refine sqS (q_field (b := rb) (off := 0) rfl fo_146_5) rfl ?_
  refine sl_ (l_store (b := rb) (off := 6) (j := 0) rfl rfl nagg_4 rfl rfl rfl rfl (dlt rfl) ?_)
  refine send ?_
  refine eseq ?_
  refine HT.norm [⟨rb, 146, [some (.slice (cutA A c 0) (n - 0) (c - 0)), some (.slice none 0 0), some (.int .u8 ((((nb bs 0) &&& 224) / 32 : Nat) : Int)), some (.int .u8 (((nb bs 0) &&& 31 : Nat) : Int)), some (.int .u8 ((((nb bs 1) &&& 192) / 64 : Nat) : Int)), some (.bool (decide ((nb bs 1) &&& 32 ≠ 0))), some (.bool (decide ((nb bs 1) &&& 16 ≠ 0))), some (.bool false), some (.bool false), some (.bool false), some (.bool false), some (.int .u8 ((0 : Nat) : Int)), some (.int .u32 ((0 : Nat) : Int)), some (.int .u32 ((0 : Nat) : Int)), some (.int .u32 ((0 : Nat) : Int)), some (.int .u32 ((0 : Nat) : Int)), some (.int .u32 ((0 : Nat) : Int)), some (.pointer none)], true⟩] [Byt A n c bs, Byt (cutA A c 1) (n - 1) (c - 1) (sl bs 1 n)] rfl rfl ?_
  refine HT.seq ?_
  refine HT.plain ?_
  refine sMv rfl rfl ?_
  refine sMv rfl rfl ?_
  refine sqS (q_index (i := 0) (j := 1) rfl rfl Tryz.underlying22 nagg_5 (fun _ h => h) rfl (by omega)) rfl ?_
  refine sqS (q_N (q_byte (i := 0) (j := 1) rfl nagg_5 (fun _ h => h) rfl (by omega)) (a := nb (sl bs 1 n) 0) (b := nb bs 1) (nb_sl (by omega))) rfl ?_
  refine sqS (q_and (p := nb bs 1) (q := 8) rfl rfl rfl (show nb bs 1 < 256 by have := nb_lt bs 1; omega) (by decide)) rfl ?_
  refine sqS (q_ne (p := (nb bs 1) &&& 8) (q := 0) rfl rfl) rfl ?_
  refine sqS (q_nil rfl) rfl ?_
  refine sqS (q_field (b := rb) (off := 0) rfl fo_146_6) rfl ?_
  refine sl_ (l_store (b := rb) (off := 7) (j := 0) rfl rfl nagg_4 rfl rfl rfl rfl (dlt rfl) ?_)
  refine send ?_
  refine eseq ?_
  refine HT.norm [⟨rb, 146, [some (.slice (cutA A c 0) (n - 0) (c - 0)), some (.slice none 0 0), some (.int .u8 ((((nb bs 0) &&& 224) / 32 : Nat) : Int)), some (.int .u8 (((nb bs 0) &&& 31 : Nat) : Int)), some (.int .u8 ((((nb bs 1) &&& 192) / 64 : Nat) : Int)), some (.bool (decide ((nb bs 1) &&& 32 ≠ 0))), some (.bool (decide ((nb bs 1) &&& 16 ≠ 0))), some (.bool (decide ((nb bs 1) &&& 8 ≠ 0))), some (.bool false), some (.bool false), some (.bool false), some (.int .u8 ((0 : Nat) : Int)), some (.int .u32 ((0 : Nat) : Int)), some (.int .u32 ((0 : Nat) : Int)), some (.int .u32 ((0 : Nat) : Int)), some (.int .u32 ((0 : Nat) : Int)), some (.int .u32 ((0 : Nat) : Int)), some (.pointer none)], true⟩] [Byt A n c bs, Byt (cutA A c 1) (n - 1) (c - 1) (sl bs 1 n)] rfl rfl ?_
  refine HT.seq ?_
  refine HT.plain ?_
  refine sMv rfl rfl ?_
  refine sMv rfl rfl ?_
  refine sqS (q_index (i := 0) (j := 1) rfl rfl Tryz.underlying22 nagg_5 (fun _ h => h) rfl (by omega)) rfl ?_
  refine sqS (q_N (q_byte (i := 0) (j := 1) rfl nagg_5 (fun _ h => h) rfl (by omega)) (a := nb (sl bs 1 n) 0) (b := nb bs 1) (nb_sl (by omega))) rfl ?_
  refine sqS (q_and (p := nb bs 1) (q := 4) rfl rfl rfl (show nb bs 1 < 256 by have := nb_lt bs 1; omega) (by decide)) rfl ?_
  refine sqS (q_F (q_ne (p := (nb bs 1) &&& 4) (q := 0) rfl rfl) (by have := nb_lt bs 1; have := zb4 (nb bs 1); have := Nat.and_le_left (n := nb bs 1) (m := 4); have := Nat.and_le_right (n := nb bs 1) (m := 4); omega)) rfl ?_
  refine sqS (q_nil rfl) rfl ?_
  refine sqS (q_field (b := rb) (off := 0) rfl fo_146_7) rfl ?_
  refine sl_ (l_store (b := rb) (off := 8) (j := 0) rfl rfl nagg_4 rfl rfl rfl rfl (dlt rfl) ?_)
  refine send ?_
  refine eseq ?_
  refine HT.seq ?_
  refine HT.plain ?_
  refine sMv rfl rfl ?_
  refine sMv rfl rfl ?_
  refine sqS (q_index (i := 0) (j := 1) rfl rfl Tryz.underlying22 nagg_5 (fun _ h => h) rfl (by omega)) rfl ?_
  refine sqS (q_N (q_byte (i := 0) (j := 1) rfl nagg_5 (fun _ h => h) rfl (by omega)) (a := nb (sl bs 1 n) 0) (b := nb bs 1) (nb_sl (by omega))) rfl ?_
  refine sqS (q_and (p := nb bs 1) (q := 2) rfl rfl rfl (show nb bs 1 < 256 by have := nb_lt bs 1; omega) (by decide)) rfl ?_
  refine sqS (q_ne (p := (nb bs 1) &&& 2) (q := 0) rfl rfl) rfl ?_
  refine sqS (q_nil rfl) rfl ?_
  refine sqS (q_field (b := rb) (off := 0) rfl fo_146_8) rfl ?_
  refine sl_ (l_store (b := rb) (off := 9) (j := 0) rfl rfl nagg_4 rfl rfl rfl rfl (dlt rfl) ?_)
  refine send ?_
  refine eseq ?_
  refine HT.norm [⟨rb, 146, [some (.slice (cutA A c 0) (n - 0) (c - 0)), some (.slice none 0 0), some (.int .u8 ((((nb bs 0) &&& 224) / 32 : Nat) : Int)), some (.int .u8 (((nb bs 0) &&& 31 : Nat) : Int)), some (.int .u8 ((((nb bs 1) &&& 192) / 64 : Nat) : Int)), some (.bool (decide ((nb bs 1) &&& 32 ≠ 0))), some (.bool (decide ((nb bs 1) &&& 16 ≠ 0))), some (.bool (decide ((nb bs 1) &&& 8 ≠ 0))), some (.bool false), some (.bool (decide ((nb bs 1) &&& 2 ≠ 0))), some (.bool false), some (.int .u8 ((0 : Nat) : Int)), some (.int .u32 ((0 : Nat) : Int)), some (.int .u32 ((0 : Nat) : Int)), some (.int .u32 ((0 : Nat) : Int)), some (.int .u32 ((0 : Nat) : Int)), some (.int .u32 ((0 : Nat) : Int)), some (.pointer none)], true⟩] [Byt A n c bs, Byt (cutA A c 1) (n - 1) (c - 1) (sl bs 1 n)] rfl rfl ?_
  refine HT.seq ?_
  refine HT.plain ?_
  refine sMv rfl rfl ?_
  refine sMv rfl rfl ?_
  refine sqS (q_index (i := 0) (j := 1) rfl rfl Tryz.underlying22 nagg_5 (fun _ h => h) rfl (by omega)) rfl ?_
  refine sqS (q_N (q_byte (i := 0) (j := 1) rfl nagg_5 (fun _ h => h) rfl (by omega)) (a := nb (sl bs 1 n) 0) (b := nb bs 1) (nb_sl (by omega))) rfl ?_
  refine sqS (q_and (p := nb bs 1) (q := 1) rfl rfl rfl (show nb bs 1 < 256 by have := nb_lt bs 1; omega) (by decide)) rfl ?_
  refine sqS (q_ne (p := (nb bs 1) &&& 1) (q := 0) rfl rfl) rfl ?_
  refine sqS (q_nil rfl) rfl ?_
  refine sqS (q_field (b := rb) (off := 0) rfl fo_146_9) rfl ?_
  refine sl_ (l_store (b := rb) (off := 10) (j := 0) rfl rfl nagg_4 rfl rfl rfl rfl (dlt rfl) ?_)
  refine send ?_
  refine eseq ?_
  refine HT.norm [⟨rb, 146, [some (.slice (cutA A c 0) (n - 0) (c - 0)), some (.slice none 0 0), some (.int .u8 ((((nb bs 0) &&& 224) / 32 : Nat) : Int)), some (.int .u8 (((nb bs 0) &&& 31 : Nat) : Int)), some (.int .u8 ((((nb bs 1) &&& 192) / 64 : Nat) : Int)), some (.bool (decide ((nb bs 1) &&& 32 ≠ 0))), some (.bool (decide ((nb bs 1) &&& 16 ≠ 0))), some (.bool (decide ((nb bs 1) &&& 8 ≠ 0))), some (.bool false), some (.bool (decide ((nb bs 1) &&& 2 ≠ 0))), some (.bool (decide ((nb bs 1) &&& 1 ≠ 0))), some (.int .u8 ((0 : Nat) : Int)), some (.int .u32 ((0 : Nat) : Int)), some (.int .u32 ((0 : Nat) : Int)), some (.int .u32 ((0 : Nat) : Int)), some (.int .u32 ((0 : Nat) : Int)), some (.int .u32 ((0 : Nat) : Int)), some (.pointer none)], true⟩] [Byt A n c bs, Byt (cutA A c 1) (n - 1) (c - 1) (sl bs 1 n)] rfl rfl ?_
  refine HT.seq ?_
  refine HT.plain ?_
  refine sMv rfl rfl ?_
  refine sqS (q_slice (lo := 1) (hi := n - 1) rfl Tryz.underlying22 nagg_5 (.inr ⟨_, _, rfl, rfl⟩) (.inl ⟨rfl, rfl⟩) (by omega) (by omega)) rfl ?_
  refine sAs rfl rfl ?_
  refine send ?_
  refine eseq ?_
  refine HT.regS 1 (a := 1) (b := n) (lo := 1) (hi := n - 1) rfl (by omega) (by omega) (by omega) ?_
  refine HT.seq ?_
  refine HT.drawn mixed (St.closed _ _ _ _) (St w [rb] [⟨rb, 146, [some (.slice (cutA A c 0) (n - 0) (c - 0)), some (.slice none 0 0), some (.int .u8 ((((nb bs 0) &&& 224) / 32 : Nat) : Int)), some (.int .u8 (((nb bs 0) &&& 31 : Nat) : Int)), some (.int .u8 ((((nb bs 1) &&& 192) / 64 : Nat) : Int)), some (.bool (decide ((nb bs 1) &&& 32 ≠ 0))), some (.bool (decide ((nb bs 1) &&& 16 ≠ 0))), some (.bool (decide ((nb bs 1) &&& 8 ≠ 0))), some (.bool false), some (.bool (decide ((nb bs 1) &&& 2 ≠ 0))), some (.bool (decide ((nb bs 1) &&& 1 ≠ 0))), none, some (.int .u32 ((0 : Nat) : Int)), some (.int .u32 ((0 : Nat) : Int)), some (.int .u32 ((0 : Nat) : Int)), some (.int .u32 ((0 : Nat) : Int)), some (.int .u32 ((0 : Nat) : Int)), some (.pointer none)], true⟩] [Byt A n c bs, Byt (cutA A c 1) (n - 1) (c - 1) (sl bs 1 n), Byt (cutA (cutA A c 1) (c - 1) 1) ((n - 1) - 1) ((c - 1) - 1) (sl bs 2 (1 + (n - 1)))]) ?_
  refine dtake (f := 1) [0, 1, 2, 3, 4, 5, 6, 7, 8] (by kernel_rfl) (St.closed _ _ _ _) (fun _ h => (h.wk [(0, [11])] rfl)) (by kernel_rfl) ?_
  refine dq rfl (q_move rfl) ?_
  refine dq rfl (q_move rfl) ?_
  refine dq rfl (q_slice (lo := 1) (hi := (n - 1) - 1) rfl Tryz.underlying22 nagg_5 (.inr ⟨_, _, rfl, rfl⟩) (.inl ⟨rfl, rfl⟩) (by omega) (by omega)) ?_
  refine dq rfl (q_move rfl) ?_
  refine dq rfl (q_index (i := 0) (j := 2) rfl rfl Tryz.underlying22 nagg_5 (fun _ h => h) rfl (by omega)) ?_
  refine dq rfl (q_N (q_byte (i := 0) (j := 2) rfl nagg_5 (fun _ h => h) rfl (by omega)) (a := nb (sl bs 2 (1 + (n - 1))) 0) (b := nb bs 2) (nb_sl (by omega))) ?_
  refine dq rfl (q_assign rfl) ?_
  refine dq rfl (q_nil rfl) ?_
  refine dq rfl (q_field (b := rb) (off := 0) rfl fo_146_10) ?_
  refine QL.nil ?_
  refine RG.step1 9 (by kernel_rfl) ?_
  refine dop rfl (l_store (b := rb) (off := 11) (j := 0) rfl rfl nagg_141 rfl rfl rfl rfl (dlt rfl) ⟨(fun _ h => (h.wk [(0, [11])] rfl)), ?_⟩)
  refine dend (by kernel_rfl) ?_
  refine eseq ?_
  refine HT.norm [⟨rb, 146, [some (.slice (cutA A c 0) (n - 0) (c - 0)), some (.slice none 0 0), some (.int .u8 ((((nb bs 0) &&& 224) / 32 : Nat) : Int)), some (.int .u8 (((nb bs 0) &&& 31 : Nat) : Int)), some (.int .u8 ((((nb bs 1) &&& 192) / 64 : Nat) : Int)), some (.bool (decide ((nb bs 1) &&& 32 ≠ 0))), some (.bool (decide ((nb bs 1) &&& 16 ≠ 0))), some (.bool (decide ((nb bs 1) &&& 8 ≠ 0))), some (.bool false), some (.bool (decide ((nb bs 1) &&& 2 ≠ 0))), some (.bool (decide ((nb bs 1) &&& 1 ≠ 0))), some (.int .u8 ((nb bs 2 : Nat) : Int)), some (.int .u32 ((0 : Nat) : Int)), some (.int .u32 ((0 : Nat) : Int)), some (.int .u32 ((0 : Nat) : Int)), some (.int .u32 ((0 : Nat) : Int)), some (.int .u32 ((0 : Nat) : Int)), some (.pointer none)], true⟩] [Byt A n c bs, Byt (cutA A c 1) (n - 1) (c - 1) (sl bs 1 n), Byt (cutA (cutA A c 1) (c - 1) 1) ((n - 1) - 1) ((c - 1) - 1) (sl bs 2 (1 + (n - 1)))] rfl rfl ?_
  refine HT.regS 2 (a := 2) (b := 1 + (n - 1)) (lo := 1) (hi := (n - 1) - 1) rfl (by omega) (by omega) (by omega) ?_
  refine HT.seq ?_
  refine HT.drawnS mixed (St.closed _ _ _ _) ?_
  refine dtake (f := 0) [0, 1, 2, 3, 4, 5] (by kernel_rfl) (St.closed _ _ _ _) (fun _ h => h) (by kernel_rfl) ?_
  refine dq rfl (q_move rfl) ?_
  refine dq rfl (q_slice (lo := 1) (hi := ((n - 1) - 1) - 1) rfl Tryz.underlying22 nagg_5 (.inr ⟨_, _, rfl, rfl⟩) (.inl ⟨rfl, rfl⟩) (by omega) (by omega)) ?_
  refine dq rfl (q_move rfl) ?_
  refine dq rfl (q_index (i := 0) (j := 3) rfl rfl Tryz.underlying22 nagg_5 (fun _ h => h) rfl (by omega)) ?_
  refine dq rfl (q_N (q_byte (i := 0) (j := 3) rfl nagg_5 (fun _ h => h) rfl (by omega)) (a := nb (sl bs 3 (2 + ((n - 1) - 1))) 0) (b := nb bs 3) (nb_sl (by omega))) ?_
  refine dq rfl (q_assign rfl) ?_
  refine QL.nil ?_
  refine dend (by kernel_rfl) ?_
  refine eseq ?_
  refine HT.regS 3 (a := 3) (b := 2 + ((n - 1) - 1)) (lo := 1) (hi := ((n - 1) - 1) - 1) rfl (by omega) (by omega) (by omega) ?_
  refine HT.seq ?_
  refine HT.drawn mixed (St.closed _ _ _ _) (St w [rb] [⟨rb, 146, [some (.slice (cutA A c 0) (n - 0) (c - 0)), some (.slice none 0 0), some (.int .u8 ((((nb bs 0) &&& 224) / 32 : Nat) : Int)), some (.int .u8 (((nb bs 0) &&& 31 : Nat) : Int)), some (.int .u8 ((((nb bs 1) &&& 192) / 64 : Nat) : Int)), some (.bool (decide ((nb bs 1) &&& 32 ≠ 0))), some (.bool (decide ((nb bs 1) &&& 16 ≠ 0))), some (.bool (decide ((nb bs 1) &&& 8 ≠ 0))), some (.bool false), some (.bool (decide ((nb bs 1) &&& 2 ≠ 0))), some (.bool (decide ((nb bs 1) &&& 1 ≠ 0))), some (.int .u8 ((nb bs 2 : Nat) : Int)), none, some (.int .u32 ((0 : Nat) : Int)), some (.int .u32 ((0 : Nat) : Int)), some (.int .u32 ((0 : Nat) : Int)), some (.int .u32 ((0 : Nat) : Int)), some (.pointer none)], true⟩] [Byt A n c bs, Byt (cutA A c 1) (n - 1) (c - 1) (sl bs 1 n), Byt (cutA (cutA A c 1) (c - 1) 1) ((n - 1) - 1) ((c - 1) - 1) (sl bs 2 (1 + (n - 1))), Byt (bfd_m1_3_a10 A c) (((n - 1) - 1) - 1) (((c - 1) - 1) - 1) (sl bs 3 (2 + ((n - 1) - 1))), Byt (bfd_m1_3_a9 A c) ((((n - 1) - 1) - 1) - 1) ((((c - 1) - 1) - 1) - 1) (sl bs 4 (3 + (((n - 1) - 1) - 1)))]) ?_
  refine dtake (f := 1) [0, 1, 2, 3, 4, 5, 6, 7, 8, 9] (by kernel_rfl) (St.closed _ _ _ _) (fun _ h => (h.wk [(0, [12])] rfl)) (by kernel_rfl) ?_
  refine dq rfl (q_move rfl) ?_
  refine dq rfl (q_move rfl) ?_
  refine dq rfl (q_slice (lo := 4) (hi := (((n - 1) - 1) - 1) - 1) rfl Tryz.underlying22 nagg_5 (.inr ⟨_, _, rfl, rfl⟩) (.inl ⟨rfl, rfl⟩) (by omega) (by omega)) ?_
  refine dq rfl (q_loadEmpty rfl aggs_210) ?_
  refine dq rfl (q_move rfl) ?_
  refine dq rfl (q_slice (lo := 0) (hi := 4) rfl Tryz.underlying22 nagg_5 (.inl ⟨rfl, rfl⟩) (.inr ⟨_, _, rfl, rfl⟩) (by omega) (by omega)) ?_
  refine dq rfl (q_N (q_call (vs := [(.agg #[]), (.slice (bfd_m1_3_a7 A c) (4 - 0) (((((c - 1) - 1) - 1) - 1) - 0))]) (v := (.int .u32 ((bN (sl bs 4 (3 + (((n - 1) - 1) - 1))) 0 4 : Nat) : Int))) rfl ca_97 (fun w h => U32 w (bfd_m1_3_a9 A c) ((((n - 1) - 1) - 1) - 1) ((((c - 1) - 1) - 1) - 1) (sl bs 4 (3 + (((n - 1) - 1) - 1))) (lo := 0) (hi := 4) (h.fact (j := 4) rfl) (by omega) (by omega))) (a := bN (sl bs 4 (3 + (((n - 1) - 1) - 1))) 0 4) (b := bN bs 4 4) (bN_sl 0 4 (by omega))) ?_
  refine dq rfl (q_assign rfl) ?_
  refine dq rfl (q_nil rfl) ?_
  refine dq rfl (q_field (b := rb) (off := 0) rfl fo_146_11) ?_
  refine QL.nil ?_
  refine RG.step1 10 (by kernel_rfl) ?_
  refine dop rfl (l_store (b := rb) (off := 12) (j := 0) rfl rfl nagg_142 rfl rfl rfl rfl (dlt rfl) ⟨(fun _ h => (h.wk [(0, [12])] rfl)), ?_⟩)
  refine dend (by kernel_rfl) ?_
  refine eseq ?_
  refine HT.norm [⟨rb, 146, [some (.slice (cutA A c 0) (n - 0) (c - 0)), some (.slice none 0 0), some (.int .u8 ((((nb bs 0) &&& 224) / 32 : Nat) : Int)), some (.int .u8 (((nb bs 0) &&& 31 : Nat) : Int)), some (.int .u8 ((((nb bs 1) &&& 192) / 64 : Nat) : Int)), some (.bool (decide ((nb bs 1) &&& 32 ≠ 0))), some (.bool (decide ((nb bs 1) &&& 16 ≠ 0))), some (.bool (decide ((nb bs 1) &&& 8 ≠ 0))), some (.bool false), some (.bool (decide ((nb bs 1) &&& 2 ≠ 0))), some (.bool (decide ((nb bs 1) &&& 1 ≠ 0))), some (.int .u8 ((nb bs 2 : Nat) : Int)), some (.int .u32 ((bN bs 4 4 : Nat) : Int)), some (.int .u32 ((0 : Nat) : Int)), some (.int .u32 ((0 : Nat) : Int)), some (.int .u32 ((0 : Nat) : Int)), some (.int .u32 ((0 : Nat) : Int)), some (.pointer none)], true⟩] [Byt A n c bs, Byt (cutA A c 1) (n - 1) (c - 1) (sl bs 1 n), Byt (cutA (cutA A c 1) (c - 1) 1) ((n - 1) - 1) ((c - 1) - 1) (sl bs 2 (1 + (n - 1))), Byt (bfd_m1_3_a10 A c) (((n - 1) - 1) - 1) (((c - 1) - 1) - 1) (sl bs 3 (2 + ((n - 1) - 1))), Byt (bfd_m1_3_a9 A c) ((((n - 1) - 1) - 1) - 1) ((((c - 1) - 1) - 1) - 1) (sl bs 4 (3 + (((n - 1) - 1) - 1)))] rfl rfl ?_
  refine HT.regS 4 (a := 4) (b := 3 + (((n - 1) - 1) - 1)) (lo := 4) (hi := (((n - 1) - 1) - 1) - 1) rfl (by omega) (by omega) (by omega) ?_
  refine HT.seq ?_
  refine HT.drawn mixed (St.closed _ _ _ _) (St w [rb] [⟨rb, 146, [some (.slice (cutA A c 0) (n - 0) (c - 0)), some (.slice none 0 0), some (.int .u8 ((((nb bs 0) &&& 224) / 32 : Nat) : Int)), some (.int .u8 (((nb bs 0) &&& 31 : Nat) : Int)), some (.int .u8 ((((nb bs 1) &&& 192) / 64 : Nat) : Int)), some (.bool (decide ((nb bs 1) &&& 32 ≠ 0))), some (.bool (decide ((nb bs 1) &&& 16 ≠ 0))), some (.bool (decide ((nb bs 1) &&& 8 ≠ 0))), some (.bool false), some (.bool (decide ((nb bs 1) &&& 2 ≠ 0))), some (.bool (decide ((nb bs 1) &&& 1 ≠ 0))), some (.int .u8 ((nb bs 2 : Nat) : Int)), some (.int .u32 ((bN bs 4 4 : Nat) : Int)), none, some (.int .u32 ((0 : Nat) : Int)), some (.int .u32 ((0 : Nat) : Int)), some (.int .u32 ((0 : Nat) : Int)), some (.pointer none)], true⟩] [Byt A n c bs, Byt (cutA A c 1) (n - 1) (c - 1) (sl bs 1 n), Byt (cutA (cutA A c 1) (c - 1) 1) ((n - 1) - 1) ((c - 1) - 1) (sl bs 2 (1 + (n - 1))), Byt (bfd_m1_3_a10 A c) (((n - 1) - 1) - 1) (((c - 1) - 1) - 1) (sl bs 3 (2 + ((n - 1) - 1))), Byt (bfd_m1_3_a9 A c) ((((n - 1) - 1) - 1) - 1) ((((c - 1) - 1) - 1) - 1) (sl bs 4 (3 + (((n - 1) - 1) - 1))), Byt (bfd_m1_3_a8 A c) (((((n - 1) - 1) - 1) - 1) - 4) (((((c - 1) - 1) - 1) - 1) - 4) (sl bs 8 (4 + ((((n - 1) - 1) - 1) - 1)))]) ?_
  refine dtake (f := 1) [0, 1, 2, 3, 4, 5, 6, 7, 8, 9] (by kernel_rfl) (St.closed _ _ _ _) (fun _ h => (h.wk [(0, [13])] rfl)) (by kernel_rfl) ?_
  refine dq rfl (q_move rfl) ?_
  refine dq rfl (q_move rfl) ?_
  refine dq rfl (q_slice (lo := 4) (hi := ((((n - 1) - 1) - 1) - 1) - 4) rfl Tryz.underlying22 nagg_5 (.inr ⟨_, _, rfl, rfl⟩) (.inl ⟨rfl, rfl⟩) (by omega) (by omega)) ?_
  refine dq rfl (q_loadEmpty rfl aggs_210) ?_
  refine dq rfl (q_move rfl) ?_
  refine dq rfl (q_slice (lo := 0) (hi := 4) rfl Tryz.underlying22 nagg_5 (.inl ⟨rfl, rfl⟩) (.inr ⟨_, _, rfl, rfl⟩) (by omega) (by omega)) ?_
  refine dq rfl (q_N (q_call (vs := [(.agg #[]), (.slice (bfd_m1_3_a5 A c) (4 - 0) ((((((c - 1) - 1) - 1) - 1) - 4) - 0))]) (v := (.int .u32 ((bN (sl bs 8 (4 + ((((n - 1) - 1) - 1) - 1))) 0 4 : Nat) : Int))) rfl ca_97 (fun w h => U32 w (bfd_m1_3_a8 A c) (((((n - 1) - 1) - 1) - 1) - 4) (((((c - 1) - 1) - 1) - 1) - 4) (sl bs 8 (4 + ((((n - 1) - 1) - 1) - 1))) (lo := 0) (hi := 4) (h.fact (j := 5) rfl) (by omega) (by omega))) (a := bN (sl bs 8 (4 + ((((n - 1) - 1) - 1) - 1))) 0 4) (b := bN bs 8 4) (bN_sl 0 4 (by omega))) ?_
  refine dq rfl (q_assign rfl) ?_
  refine dq rfl (q_nil rfl) ?_
  refine dq rfl (q_field (b := rb) (off := 0) rfl fo_146_12) ?_
  refine QL.nil ?_
  refine RG.step1 10 (by kernel_rfl) ?_
  refine dop rfl (l_store (b := rb) (off := 13) (j := 0) rfl rfl nagg_142 rfl rfl rfl rfl (dlt rfl) ⟨(fun _ h => (h.wk [(0, [13])] rfl)), ?_⟩)
  refine dend (by kernel_rfl) ?_
  refine eseq ?_
  refine HT.norm [⟨rb, 146, [some (.slice (cutA A c 0) (n - 0) (c - 0)), some (.slice none 0 0), some (.int .u8 ((((nb bs 0) &&& 224) / 32 : Nat) : Int)), some (.int .u8 (((nb bs 0) &&& 31 : Nat) : Int)), some (.int .u8 ((((nb bs 1) &&& 192) / 64 : Nat) : Int)), some (.bool (decide ((nb bs 1) &&& 32 ≠ 0))), some (.bool (decide ((nb bs 1) &&& 16 ≠ 0))), some (.bool (decide ((nb bs 1) &&& 8 ≠ 0))), some (.bool false), some (.bool (decide ((nb bs 1) &&& 2 ≠ 0))), some (.bool (decide ((nb bs 1) &&& 1 ≠ 0))), some (.int .u8 ((nb bs 2 : Nat) : Int)), some (.int .u32 ((bN bs 4 4 : Nat) : Int)), some (.int .u32 ((bN bs 8 4 : Nat) : Int)), some (.int .u32 ((0 : Nat) : Int)), some (.int .u32 ((0 : Nat) : Int)), some (.int .u32 ((0 : Nat) : Int)), some (.pointer none)], true⟩] [Byt A n c bs, Byt (cutA A c 1) (n - 1) (c - 1) (sl bs 1 n), Byt (cutA (cutA A c 1) (c - 1) 1) ((n - 1) - 1) ((c - 1) - 1) (sl bs 2 (1 + (n - 1))), Byt (bfd_m1_3_a10 A c) (((n - 1) - 1) - 1) (((c - 1) - 1) - 1) (sl bs 3 (2 + ((n - 1) - 1))), Byt (bfd_m1_3_a9 A c) ((((n - 1) - 1) - 1) - 1) ((((c - 1) - 1) - 1) - 1) (sl bs 4 (3 + (((n - 1) - 1) - 1))), Byt (bfd_m1_3_a8 A c) (((((n - 1) - 1) - 1) - 1) - 4) (((((c - 1) - 1) - 1) - 1) - 4) (sl bs 8 (4 + ((((n - 1) - 1) - 1) - 1)))] rfl rfl ?_
  refine HT.regS 5 (a := 8) (b := 4 + ((((n - 1) - 1) - 1) - 1)) (lo := 4) (hi := ((((n - 1) - 1) - 1) - 1) - 4) rfl (by omega) (by omega) (by omega) ?_
  refine HT.seq ?_
  refine HT.drawn mixed (St.closed _ _ _ _) (St w [rb] [⟨rb, 146, [some (.slice (cutA A c 0) (n - 0) (c - 0)), some (.slice none 0 0), some (.int .u8 ((((nb bs 0) &&& 224) / 32 : Nat) : Int)), some (.int .u8 (((nb bs 0) &&& 31 : Nat) : Int)), some (.int .u8 ((((nb bs 1) &&& 192) / 64 : Nat) : Int)), some (.bool (decide ((nb bs 1) &&& 32 ≠ 0))), some (.bool (decide ((nb bs 1) &&& 16 ≠ 0))), some (.bool (decide ((nb bs 1) &&& 8 ≠ 0))), some (.bool false), some (.bool (decide ((nb bs 1) &&& 2 ≠ 0))), some (.bool (decide ((nb bs 1) &&& 1 ≠ 0))), some (.int .u8 ((nb bs 2 : Nat) : Int)), some (.int .u32 ((bN bs 4 4 : Nat) : Int)), some (.int .u32 ((bN bs 8 4 : Nat) : Int)), none, some (.int .u32 ((0 : Nat) : Int)), some (.int .u32 ((0 : Nat) : Int)), some (.pointer none)], true⟩] [Byt A n c bs, Byt (cutA A c 1) (n - 1) (c - 1) (sl bs 1 n), Byt (cutA (cutA A c 1) (c - 1) 1) ((n - 1) - 1) ((c - 1) - 1) (sl bs 2 (1 + (n - 1))), Byt (bfd_m1_3_a10 A c) (((n - 1) - 1) - 1) (((c - 1) - 1) - 1) (sl bs 3 (2 + ((n - 1) - 1))), Byt (bfd_m1_3_a9 A c) ((((n - 1) - 1) - 1) - 1) ((((c - 1) - 1) - 1) - 1) (sl bs 4 (3 + (((n - 1) - 1) - 1))), Byt (bfd_m1_3_a8 A c) (((((n - 1) - 1) - 1) - 1) - 4) (((((c - 1) - 1) - 1) - 1) - 4) (sl bs 8 (4 + ((((n - 1) - 1) - 1) - 1))), Byt (bfd_m1_3_a6 A c) ((((((n - 1) - 1) - 1) - 1) - 4) - 4) ((((((c - 1) - 1) - 1) - 1) - 4) - 4) (sl bs 12 (8 + (((((n - 1) - 1) - 1) - 1) - 4)))]) ?_
  refine dtake (f := 1) [0, 1, 2, 3, 4, 5, 6, 7, 8, 9] (by kernel_rfl) (St.closed _ _ _ _) (fun _ h => (h.wk [(0, [14])] rfl)) (by kernel_rfl) ?_
  refine dq rfl (q_move rfl) ?_
  refine dq rfl (q_move rfl) ?_
  refine dq rfl (q_slice (lo := 4) (hi := (((((n - 1) - 1) - 1) - 1) - 4) - 4) rfl Tryz.underlying22 nagg_5 (.inr ⟨_, _, rfl, rfl⟩) (.inl ⟨rfl, rfl⟩) (by omega) (by omega)) ?_
  refine dq rfl (q_loadEmpty rfl aggs_210) ?_
  refine dq rfl (q_move rfl) ?_
  refine dq rfl (q_slice (lo := 0) (hi := 4) rfl Tryz.underlying22 nagg_5 (.inl ⟨rfl, rfl⟩) (.inr ⟨_, _, rfl, rfl⟩) (by omega) (by omega)) ?_
  refine dq rfl (q_N (q_call (vs := [(.agg #[]), (.slice (bfd_m1_3_a3 A c) (4 - 0) (((((((c - 1) - 1) - 1) - 1) - 4) - 4) - 0))]) (v := (.int .u32 ((bN (sl bs 12 (8 + (((((n - 1) - 1) - 1) - 1) - 4))) 0 4 : Nat) : Int))) rfl ca_97 (fun w h => U32 w (bfd_m1_3_a6 A c) ((((((n - 1) - 1) - 1) - 1) - 4) - 4) ((((((c - 1) - 1) - 1) - 1) - 4) - 4) (sl bs 12 (8 + (((((n - 1) - 1) - 1) - 1) - 4))) (lo := 0) (hi := 4) (h.fact (j := 6) rfl) (by omega) (by omega))) (a := bN (sl bs 12 (8 + (((((n - 1) - 1) - 1) - 1) - 4))) 0 4) (b := bN bs 12 4) (bN_sl 0 4 (by omega))) ?_
  refine dq rfl (q_assign rfl) ?_
  refine dq rfl (q_nil rfl) ?_
  refine dq rfl (q_field (b := rb) (off := 0) rfl fo_146_13) ?_
  refine QL.nil ?_
  refine RG.step1 10 (by kernel_rfl) ?_
  refine dop rfl (l_store (b := rb) (off := 14) (j := 0) rfl rfl nagg_143 rfl rfl rfl rfl (dlt rfl) ⟨(fun _ h => (h.wk [(0, [14])] rfl)), ?_⟩)
  refine dend (by kernel_rfl) ?_
  refine eseq ?_
  refine HT.norm [⟨rb, 146, [some (.slice (cutA A c 0) (n - 0) (c - 0)), some (.slice none 0 0), some (.int .u8 ((((nb bs 0) &&& 224) / 32 : Nat) : Int)), some (.int .u8 (((nb bs 0) &&& 31 : Nat) : Int)), some (.int .u8 ((((nb bs 1) &&& 192) / 64 : Nat) : Int)), some (.bool (decide ((nb bs 1) &&& 32 ≠ 0))), some (.bool (decide ((nb bs 1) &&& 16 ≠ 0))), some (.bool (decide ((nb bs 1) &&& 8 ≠ 0))), some (.bool false), some (.bool (decide ((nb bs 1) &&& 2 ≠ 0))), some (.bool (decide ((nb bs 1) &&& 1 ≠ 0))), some (.int .u8 ((nb bs 2 : Nat) : Int)), some (.int .u32 ((bN bs 4 4 : Nat) : Int)), some (.int .u32 ((bN bs 8 4 : Nat) : Int)), some (.int .u32 ((bN bs 12 4 : Nat) : Int)), some (.int .u32 ((0 : Nat) : Int)), some (.int .u32 ((0 : Nat) : Int)), some (.pointer none)], true⟩] [Byt A n c bs, Byt (cutA A c 1) (n - 1) (c - 1) (sl bs 1 n), Byt (cutA (cutA A c 1) (c - 1) 1) ((n - 1) - 1) ((c - 1) - 1) (sl bs 2 (1 + (n - 1))), Byt (bfd_m1_3_a10 A c) (((n - 1) - 1) - 1) (((c - 1) - 1) - 1) (sl bs 3 (2 + ((n - 1) - 1))), Byt (bfd_m1_3_a9 A c) ((((n - 1) - 1) - 1) - 1) ((((c - 1) - 1) - 1) - 1) (sl bs 4 (3 + (((n - 1) - 1) - 1))), Byt (bfd_m1_3_a8 A c) (((((n - 1) - 1) - 1) - 1) - 4) (((((c - 1) - 1) - 1) - 1) - 4) (sl bs 8 (4 + ((((n - 1) - 1) - 1) - 1))), Byt (bfd_m1_3_a6 A c) ((((((n - 1) - 1) - 1) - 1) - 4) - 4) ((((((c - 1) - 1) - 1) - 1) - 4) - 4) (sl bs 12 (8 + (((((n - 1) - 1) - 1) - 1) - 4)))] rfl rfl ?_
  refine HT.regS 6 (a := 12) (b := 8 + (((((n - 1) - 1) - 1) - 1) - 4)) (lo := 4) (hi := (((((n - 1) - 1) - 1) - 1) - 4) - 4) rfl (by omega) (by omega) (by omega) ?_
  refine HT.seq ?_
  refine HT.drawn mixed (St.closed _ _ _ _) (St w [rb] [⟨rb, 146, [some (.slice (cutA A c 0) (n - 0) (c - 0)), some (.slice none 0 0), some (.int .u8 ((((nb bs 0) &&& 224) / 32 : Nat) : Int)), some (.int .u8 (((nb bs 0) &&& 31 : Nat) : Int)), some (.int .u8 ((((nb bs 1) &&& 192) / 64 : Nat) : Int)), some (.bool (decide ((nb bs 1) &&& 32 ≠ 0))), some (.bool (decide ((nb bs 1) &&& 16 ≠ 0))), some (.bool (decide ((nb bs 1) &&& 8 ≠ 0))), some (.bool false), some (.bool (decide ((nb bs 1) &&& 2 ≠ 0))), some (.bool (decide ((nb bs 1) &&& 1 ≠ 0))), some (.int .u8 ((nb bs 2 : Nat) : Int)), some (.int .u32 ((bN bs 4 4 : Nat) : Int)), some (.int .u32 ((bN bs 8 4 : Nat) : Int)), some (.int .u32 ((bN bs 12 4 : Nat) : Int)), none, some (.int .u32 ((0 : Nat) : Int)), some (.pointer none)], true⟩] [Byt A n c bs, Byt (cutA A c 1) (n - 1) (c - 1) (sl bs 1 n), Byt (cutA (cutA A c 1) (c - 1) 1) ((n - 1) - 1) ((c - 1) - 1) (sl bs 2 (1 + (n - 1))), Byt (bfd_m1_3_a10 A c) (((n - 1) - 1) - 1) (((c - 1) - 1) - 1) (sl bs 3 (2 + ((n - 1) - 1))), Byt (bfd_m1_3_a9 A c) ((((n - 1) - 1) - 1) - 1) ((((c - 1) - 1) - 1) - 1) (sl bs 4 (3 + (((n - 1) - 1) - 1))), Byt (bfd_m1_3_a8 A c) (((((n - 1) - 1) - 1) - 1) - 4) (((((c - 1) - 1) - 1) - 1) - 4) (sl bs 8 (4 + ((((n - 1) - 1) - 1) - 1))), Byt (bfd_m1_3_a6 A c) ((((((n - 1) - 1) - 1) - 1) - 4) - 4) ((((((c - 1) - 1) - 1) - 1) - 4) - 4) (sl bs 12 (8 + (((((n - 1) - 1) - 1) - 1) - 4))), Byt (bfd_m1_3_a4 A c) (((((((n - 1) - 1) - 1) - 1) - 4) - 4) - 4) (((((((c - 1) - 1) - 1) - 1) - 4) - 4) - 4) (sl bs 16 (12 + ((((((n - 1) - 1) - 1) - 1) - 4) - 4)))]) ?_
  refine dtake (f := 1) [0, 1, 2, 3, 4, 5, 6, 7, 8, 9] (by kernel_rfl) (St.closed _ _ _ _) (fun _ h => (h.wk [(0, [15])] rfl)) (by kernel_rfl) ?_
  refine dq rfl (q_move rfl) ?_
  refine dq rfl (q_move rfl) ?_
  refine dq rfl (q_slice (lo := 4) (hi := ((((((n - 1) - 1) - 1) - 1) - 4) - 4) - 4) rfl Tryz.underlying22 nagg_5 (.inr ⟨_, _, rfl, rfl⟩) (.inl ⟨rfl, rfl⟩) (by omega) (by omega)) ?_
  refine dq rfl (q_loadEmpty rfl aggs_210) ?_
  refine dq rfl (q_move rfl) ?_
  refine dq rfl (q_slice (lo := 0) (hi := 4) rfl Tryz.underlying22 nagg_5 (.inl ⟨rfl, rfl⟩) (.inr ⟨_, _, rfl, rfl⟩) (by omega) (by omega)) ?_
  refine dq rfl (q_N (q_call (vs := [(.agg #[]), (.slice (bfd_m1_3_a1 A c) (4 - 0) ((((((((c - 1) - 1) - 1) - 1) - 4) - 4) - 4) - 0))]) (v := (.int .u32 ((bN (sl bs 16 (12 + ((((((n - 1) - 1) - 1) - 1) - 4) - 4))) 0 4 : Nat) : Int))) rfl ca_97 (fun w h => U32 w (bfd_m1_3_a4 A c) (((((((n - 1) - 1) - 1) - 1) - 4) - 4) - 4) (((((((c - 1) - 1) - 1) - 1) - 4) - 4) - 4) (sl bs 16 (12 + ((((((n - 1) - 1) - 1) - 1) - 4) - 4))) (lo := 0) (hi := 4) (h.fact (j := 7) rfl) (by omega) (by omega))) (a := bN (sl bs 16 (12 + ((((((n - 1) - 1) - 1) - 1) - 4) - 4))) 0 4) (b := bN bs 16 4) (bN_sl 0 4 (by omega))) ?_
  refine dq rfl (q_assign rfl) ?_
  refine dq rfl (q_nil rfl) ?_
  refine dq rfl (q_field (b := rb) (off := 0) rfl fo_146_14) ?_
  refine QL.nil ?_
  refine RG.step1 10 (by kernel_rfl) ?_
  refine dop rfl (l_store (b := rb) (off := 15) (j := 0) rfl rfl nagg_143 rfl rfl rfl rfl (dlt rfl) ⟨(fun _ h => (h.wk [(0, [15])] rfl)), ?_⟩)
  refine dend (by kernel_rfl) ?_
  refine eseq ?_
  refine HT.norm [⟨rb, 146, [some (.slice (cutA A c 0) (n - 0) (c - 0)), some (.slice none 0 0), some (.int .u8 ((((nb bs 0) &&& 224) / 32 : Nat) : Int)), some (.int .u8 (((nb bs 0) &&& 31 : Nat) : Int)), some (.int .u8 ((((nb bs 1) &&& 192) / 64 : Nat) : Int)), some (.bool (decide ((nb bs 1) &&& 32 ≠ 0))), some (.bool (decide ((nb bs 1) &&& 16 ≠ 0))), some (.bool (decide ((nb bs 1) &&& 8 ≠ 0))), some (.bool false), some (.bool (decide ((nb bs 1) &&& 2 ≠ 0))), some (.bool (decide ((nb bs 1) &&& 1 ≠ 0))), some (.int .u8 ((nb bs 2 : Nat) : Int)), some (.int .u32 ((bN bs 4 4 : Nat) : Int)), some (.int .u32 ((bN bs 8 4 : Nat) : Int)), some (.int .u32 ((bN bs 12 4 : Nat) : Int)), some (.int .u32 ((bN bs 16 4 : Nat) : Int)), some (.int .u32 ((0 : Nat) : Int)), some (.pointer none)], true⟩] [Byt A n c bs, Byt (cutA A c 1) (n - 1) (c - 1) (sl bs 1 n), Byt (cutA (cutA A c 1) (c - 1) 1) ((n - 1) - 1) ((c - 1) - 1) (sl bs 2 (1 + (n - 1))), Byt (bfd_m1_3_a10 A c) (((n - 1) - 1) - 1) (((c - 1) - 1) - 1) (sl bs 3 (2 + ((n - 1) - 1))), Byt (bfd_m1_3_a9 A c) ((((n - 1) - 1) - 1) - 1) ((((c - 1) - 1) - 1) - 1) (sl bs 4 (3 + (((n - 1) - 1) - 1))), Byt (bfd_m1_3_a8 A c) (((((n - 1) - 1) - 1) - 1) - 4) (((((c - 1) - 1) - 1) - 1) - 4) (sl bs 8 (4 + ((((n - 1) - 1) - 1) - 1))), Byt (bfd_m1_3_a6 A c) ((((((n - 1) - 1) - 1) - 1) - 4) - 4) ((((((c - 1) - 1) - 1) - 1) - 4) - 4) (sl bs 12 (8 + (((((n - 1) - 1) - 1) - 1) - 4))), Byt (bfd_m1_3_a4 A c) (((((((n - 1) - 1) - 1) - 1) - 4) - 4) - 4) (((((((c - 1) - 1) - 1) - 1) - 4) - 4) - 4) (sl bs 16 (12 + ((((((n - 1) - 1) - 1) - 1) - 4) - 4)))] rfl rfl ?_
  refine HT.regS 7 (a := 16) (b := 12 + ((((((n - 1) - 1) - 1) - 1) - 4) - 4)) (lo := 4) (hi := ((((((n - 1) - 1) - 1) - 1) - 4) - 4) - 4) rfl (by omega) (by omega) (by omega) ?_
  refine HT.seq ?_
  refine HT.drawn mixed (St.closed _ _ _ _) (St w [rb] [⟨rb, 146, [some (.slice (cutA A c 0) (n - 0) (c - 0)), some (.slice none 0 0), some (.int .u8 ((((nb bs 0) &&& 224) / 32 : Nat) : Int)), some (.int .u8 (((nb bs 0) &&& 31 : Nat) : Int)), some (.int .u8 ((((nb bs 1) &&& 192) / 64 : Nat) : Int)), some (.bool (decide ((nb bs 1) &&& 32 ≠ 0))), some (.bool (decide ((nb bs 1) &&& 16 ≠ 0))), some (.bool (decide ((nb bs 1) &&& 8 ≠ 0))), some (.bool false), some (.bool (decide ((nb bs 1) &&& 2 ≠ 0))), some (.bool (decide ((nb bs 1) &&& 1 ≠ 0))), some (.int .u8 ((nb bs 2 : Nat) : Int)), some (.int .u32 ((bN bs 4 4 : Nat) : Int)), some (.int .u32 ((bN bs 8 4 : Nat) : Int)), some (.int .u32 ((bN bs 12 4 : Nat) : Int)), some (.int .u32 ((bN bs 16 4 : Nat) : Int)), none, some (.pointer none)], true⟩] [Byt A n c bs, Byt (cutA A c 1) (n - 1) (c - 1) (sl bs 1 n), Byt (cutA (cutA A c 1) (c - 1) 1) ((n - 1) - 1) ((c - 1) - 1) (sl bs 2 (1 + (n - 1))), Byt (bfd_m1_3_a10 A c) (((n - 1) - 1) - 1) (((c - 1) - 1) - 1) (sl bs 3 (2 + ((n - 1) - 1))), Byt (bfd_m1_3_a9 A c) ((((n - 1) - 1) - 1) - 1) ((((c - 1) - 1) - 1) - 1) (sl bs 4 (3 + (((n - 1) - 1) - 1))), Byt (bfd_m1_3_a8 A c) (((((n - 1) - 1) - 1) - 1) - 4) (((((c - 1) - 1) - 1) - 1) - 4) (sl bs 8 (4 + ((((n - 1) - 1) - 1) - 1))), Byt (bfd_m1_3_a6 A c) ((((((n - 1) - 1) - 1) - 1) - 4) - 4) ((((((c - 1) - 1) - 1) - 1) - 4) - 4) (sl bs 12 (8 + (((((n - 1) - 1) - 1) - 1) - 4))), Byt (bfd_m1_3_a4 A c) (((((((n - 1) - 1) - 1) - 1) - 4) - 4) - 4) (((((((c - 1) - 1) - 1) - 1) - 4) - 4) - 4) (sl bs 16 (12 + ((((((n - 1) - 1) - 1) - 1) - 4) - 4))), Byt (bfd_m1_3_a2 A c) ((((((((n - 1) - 1) - 1) - 1) - 4) - 4) - 4) - 4) ((((((((c - 1) - 1) - 1) - 1) - 4) - 4) - 4) - 4) (sl bs 20 (16 + (((((((n - 1) - 1) - 1) - 1) - 4) - 4) - 4)))]) ?_
  refine dtake (f := 1) [0, 1, 2, 3, 4, 5, 6, 7, 8, 9] (by kernel_rfl) (St.closed _ _ _ _) (fun _ h => (h.wk [(0, [16])] rfl)) (by kernel_rfl) ?_
  refine dq rfl (q_move rfl) ?_
  refine dq rfl (q_move rfl) ?_
  refine dq rfl (q_slice (lo := 4) (hi := (((((((n - 1) - 1) - 1) - 1) - 4) - 4) - 4) - 4) rfl Tryz.underlying22 nagg_5 (.inr ⟨_, _, rfl, rfl⟩) (.inl ⟨rfl, rfl⟩) (by omega) (by omega)) ?_
  refine dq rfl (q_loadEmpty rfl aggs_210) ?_
  refine dq rfl (q_move rfl) ?_
  refine dq rfl (q_slice (lo := 0) (hi := 4) rfl Tryz.underlying22 nagg_5 (.inl ⟨rfl, rfl⟩) (.inr ⟨_, _, rfl, rfl⟩) (by omega) (by omega)) ?_
  refine dq rfl (q_N (q_call (vs := [(.agg #[]), (.slice (bfd_m1_3_a0 A c) (4 - 0) (((((((((c - 1) - 1) - 1) - 1) - 4) - 4) - 4) - 4) - 0))]) (v := (.int .u32 ((bN (sl bs 20 (16 + (((((((n - 1) - 1) - 1) - 1) - 4) - 4) - 4))) 0 4 : Nat) : Int))) rfl ca_97 (fun w h => U32 w (bfd_m1_3_a2 A c) ((((((((n - 1) - 1) - 1) - 1) - 4) - 4) - 4) - 4) ((((((((c - 1) - 1) - 1) - 1) - 4) - 4) - 4) - 4) (sl bs 20 (16 + (((((((n - 1) - 1) - 1) - 1) - 4) - 4) - 4))) (lo := 0) (hi := 4) (h.fact (j := 8) rfl) (by omega) (by omega))) (a := bN (sl bs 20 (16 + (((((((n - 1) - 1) - 1) - 1) - 4) - 4) - 4))) 0 4) (b := bN bs 20 4) (bN_sl 0 4 (by omega))) ?_
  refine dq rfl (q_assign rfl) ?_
  refine dq rfl (q_nil rfl) ?_
  refine dq rfl (q_field (b := rb) (off := 0) rfl fo_146_15) ?_
  refine QL.nil ?_
  refine RG.step1 10 (by kernel_rfl) ?_
  refine dop rfl (l_store (b := rb) (off := 16) (j := 0) rfl rfl nagg_143 rfl rfl rfl rfl (dlt rfl) ⟨(fun _ h => (h.wk [(0, [16])] rfl)), ?_⟩)
  refine dend (by kernel_rfl) ?_
  refine eseq ?_
  refine HT.norm [⟨rb, 146, [some (.slice (cutA A c 0) (n - 0) (c - 0)), some (.slice none 0 0), some (.int .u8 ((((nb bs 0) &&& 224) / 32 : Nat) : Int)), some (.int .u8 (((nb bs 0) &&& 31 : Nat) : Int)), some (.int .u8 ((((nb bs 1) &&& 192) / 64 : Nat) : Int)), some (.bool (decide ((nb bs 1) &&& 32 ≠ 0))), some (.bool (decide ((nb bs 1) &&& 16 ≠ 0))), some (.bool (decide ((nb bs 1) &&& 8 ≠ 0))), some (.bool false), some (.bool (decide ((nb bs 1) &&& 2 ≠ 0))), some (.bool (decide ((nb bs 1) &&& 1 ≠ 0))), some (.int .u8 ((nb bs 2 : Nat) : Int)), some (.int .u32 ((bN bs 4 4 : Nat) : Int)), some (.int .u32 ((bN bs 8 4 : Nat) : Int)), some (.int .u32 ((bN bs 12 4 : Nat) : Int)), some (.int .u32 ((bN bs 16 4 : Nat) : Int)), some (.int .u32 ((bN bs 20 4 : Nat) : Int)), some (.pointer none)], true⟩] [Byt A n c bs, Byt (cutA A c 1) (n - 1) (c - 1) (sl bs 1 n), Byt (cutA (cutA A c 1) (c - 1) 1) ((n - 1) - 1) ((c - 1) - 1) (sl bs 2 (1 + (n - 1))), Byt (bfd_m1_3_a10 A c) (((n - 1) - 1) - 1) (((c - 1) - 1) - 1) (sl bs 3 (2 + ((n - 1) - 1))), Byt (bfd_m1_3_a9 A c) ((((n - 1) - 1) - 1) - 1) ((((c - 1) - 1) - 1) - 1) (sl bs 4 (3 + (((n - 1) - 1) - 1))), Byt (bfd_m1_3_a8 A c) (((((n - 1) - 1) - 1) - 1) - 4) (((((c - 1) - 1) - 1) - 1) - 4) (sl bs 8 (4 + ((((n - 1) - 1) - 1) - 1))), Byt (bfd_m1_3_a6 A c) ((((((n - 1) - 1) - 1) - 1) - 4) - 4) ((((((c - 1) - 1) - 1) - 1) - 4) - 4) (sl bs 12 (8 + (((((n - 1) - 1) - 1) - 1) - 4))), Byt (bfd_m1_3_a4 A c) (((((((n - 1) - 1) - 1) - 1) - 4) - 4) - 4) (((((((c - 1) - 1) - 1) - 1) - 4) - 4) - 4) (sl bs 16 (12 + ((((((n - 1) - 1) - 1) - 1) - 4) - 4))), Byt (bfd_m1_3_a2 A c) ((((((((n - 1) - 1) - 1) - 1) - 4) - 4) - 4) - 4) ((((((((c - 1) - 1) - 1) - 1) - 4) - 4) - 4) - 4) (sl bs 20 (16 + (((((((n - 1) - 1) - 1) - 1) - 4) - 4) - 4)))] rfl rfl ?_
  refine HT.regS 8 (a := 20) (b := 16 + (((((((n - 1) - 1) - 1) - 1) - 4) - 4) - 4)) (lo := 4) (hi := (((((((n - 1) - 1) - 1) - 1) - 4) - 4) - 4) - 4) rfl (by omega) (by omega) (by omega) ?_
  refine HT.seq ?_
  refine HT.seq ?_
  refine HT.plain ?_
  refine sMv rfl rfl ?_
  refine sqS (q_nil rfl) rfl ?_
  refine sqS (q_field (b := rb) (off := 0) rfl fo_146_7) rfl ?_
  refine sqS (q_load (b := rb) (off := 8) (j := 0) rfl nagg_4 (fun _ h => h) rfl rfl rfl) rfl ?_
  refine sMv rfl rfl ?_
  refine sskip rfl rfl ?_
  refine sskip rfl rfl ?_
  refine sskip rfl rfl ?_
  refine sqS (q_pick rfl (fun h => nomatch h) (fun _ => rfl)) rfl ?_
  refine send ?_
  refine eseq ?_
  refine HT.no rfl ?_
  refine HT.skip ?_
  refine eseq ?_
  refine HT.seq ?_
  refine HT.plain ?_
  refine sAs rfl rfl ?_
  refine send ?_
  refine eseq ?_
  refine HT.ret ?_
  exact fun a ha w' hw => fin_ ha (res1 ha Tryz.results99 rfl) ⟨rfl, (hw.selF [0] rfl), fr0⟩

abbrev bfd_d3_k0 (b8 : Nat) (A : Option Addr) (c : Nat) (n : Nat) (bs : List UInt8) : Kb := ⟨b8, 146, [some (.slice (cutA A c 0) (n - 0) (c - 0)), some (.slice none 0 0), some (.int .u8 ((((nb bs 0) &&& 224) / 32 : Nat) : Int)), some (.int .u8 (((nb bs 0) &&& 31 : Nat) : Int)), some (.int .u8 ((((nb bs 1) &&& 192) / 64 : Nat) : Int)), some (.bool (decide ((nb bs 1) &&& 32 ≠ 0))), some (.bool (decide ((nb bs 1) &&& 16 ≠ 0))), some (.bool (decide ((nb bs 1) &&& 8 ≠ 0))), some (.bool false), some (.bool (decide ((nb bs 1) &&& 2 ≠ 0))), some (.bool (decide ((nb bs 1) &&& 1 ≠ 0))), some (.int .u8 ((nb bs 2 : Nat) : Int)), some (.int .u32 ((bN bs 4 4 : Nat) : Int)), some (.int .u32 ((bN bs 8 4 : Nat) : Int)), some (.int .u32 ((bN bs 12 4 : Nat) : Int)), some (.int .u32 ((bN bs 16 4 : Nat) : Int)), some (.int .u32 ((bN bs 20 4 : Nat) : Int)), some (.pointer none)], true⟩

theorem bfd_d3 (w : World) (A : Option Addr) (n : Nat) (c : Nat) (bs : List UInt8) (kb : Nat) (hn : n ≤ 400) (ha : 24 ≤ n) (hb : nb bs 3 = n) (hc : nb bs 1 / 4 % 2 = 0) (hst : St w [kb] [⟨kb, 201, [some .nilIface], true⟩] [Byt A n c bs] w) : Calls Tryz.prog 84 #[(.slice A n c), (.iface 199 (.pointer (some ⟨kb, 0, none⟩)))] w (CP1 w [kb] [Byt A n c bs] (fun b8 => .nilIface) (fun b8 => [⟨kb, 201, [some (.iface 137 (.pointer (some ⟨b8, 0, none⟩)))], true⟩, (bfd_d3_k0 b8 A c n bs)]) (fun b8 => [])) := by
  have hnc00 : n ≤ c := (hst.fact (j := 0) rfl).2.1
  refine enter (vs := [(.slice A n c), (.iface 199 (.pointer (some ⟨kb, 0, none⟩)))]) Tryz.func84 rfl rfl rfl hst ?_
  refine HT.seq ?_
  refine HT.plain ?_
  refine sAs rfl rfl ?_
  refine send ?_
  refine eseq ?_
  refine HT.seq ?_
  refine HT.plain ?_
  refine sqS (q_build (vs := []) (v := (.agg #[(.slice none 0 0), (.slice none 0 0), (.int .u8 ((0 : Nat) : Int)), (.int .u8 ((0 : Nat) : Int)), (.int .u8 ((0 : Nat) : Int)), (.bool false), (.bool false), (.bool false), (.bool false), (.bool false), (.bool false), (.int .u8 ((0 : Nat) : Int)), (.int .u32 ((0 : Nat) : Int)), (.int .u32 ((0 : Nat) : Int)), (.int .u32 ((0 : Nat) : Int)), (.int .u32 ((0 : Nat) : Int)), (.int .u32 ((0 : Nat) : Int)), (.pointer none)])) rfl (fun _ => by kernel_rfl)) rfl ?_
  refine sl_ (l_box (by decide) rfl fun b8 => ?_)
  refine sAs rfl rfl ?_
  refine send ?_
  refine eseq ?_
  refine HT.norm [⟨kb, 201, [some .nilIface], true⟩, ⟨b8, 146, [some (.slice none 0 0), some (.slice none 0 0), some (.int .u8 ((0 : Nat) : Int)), some (.int .u8 ((0 : Nat) : Int)), some (.int .u8 ((0 : Nat) : Int)), some (.bool false), some (.bool false), some (.bool false), some (.bool false), some (.bool false), some (.bool false), some (.int .u8 ((0 : Nat) : Int)), some (.int .u32 ((0 : Nat) : Int)), some (.int .u32 ((0 : Nat) : Int)), some (.int .u32 ((0 : Nat) : Int)), some (.int .u32 ((0 : Nat) : Int)), some (.int .u32 ((0 : Nat) : Int)), some (.pointer none)], true⟩] [Byt A n c bs] rfl rfl ?_
  refine HT.seq ?_
  refine HT.plain ?_
  refine sMv rfl rfl ?_
  refine sMv rfl rfl ?_
  refine sMv rfl rfl ?_
  refine sl_ (l_callX0 (vs := [(.pointer (some ⟨b8, 0, none⟩)), (.slice A n c), (.iface 199 (.pointer (some ⟨kb, 0, none⟩)))]) (Kc := [⟨b8, 146, [some (.slice none 0 0), some (.slice none 0 0), some (.int .u8 ((0 : Nat) : Int)), some (.int .u8 ((0 : Nat) : Int)), some (.int .u8 ((0 : Nat) : Int)), some (.bool false), some (.bool false), some (.bool false), some (.bool false), some (.bool false), some (.bool false), some (.int .u8 ((0 : Nat) : Int)), some (.int .u32 ((0 : Nat) : Int)), some (.int .u32 ((0 : Nat) : Int)), some (.int .u32 ((0 : Nat) : Int)), some (.int .u32 ((0 : Nat) : Int)), some (.int .u32 ((0 : Nat) : Int)), some (.pointer none)], true⟩]) (Bc := [Byt A n c bs]) [1] [0] [Byt A n c bs] ([⟨kb, 201, [some .nilIface], true⟩, (bfd_d3_k0 b8 A c n bs)]) ([Byt A n c bs]) (by decide) rfl ca_99 (fun _ h => h) rfl rfl rfl rfl (fun w h => bfd_m1_3 w A n c bs b8 kb (by omega) (by omega) (by omega) (by omega) h) rfl rfl rfl rfl fun hf1 he2 => ?_)
  refine sAs rfl rfl ?_
  refine send ?_
  refine eseq ?_
  refine HT.norm [⟨kb, 201, [some .nilIface], true⟩, (bfd_d3_k0 b8 A c n bs)] [Byt A n c bs] rfl rfl ?_
  refine HT.seq ?_
  refine HT.seq ?_
  refine HT.plain ?_
  refine sMv rfl rfl ?_
  refine sqS (q_notNil rfl rfl Tryz.underlying59) rfl ?_
  refine send ?_
  refine eseq ?_
  refine HT.no rfl ?_
  refine HT.skip ?_
  refine eseq ?_
  refine HT.seq ?_
  refine HT.plain ?_
  refine sMv rfl rfl ?_
  refine sMv rfl rfl ?_
  refine sqS (q_iface rfl Tryz.underlying137 (fun _ h => nomatch h)) rfl ?_
  refine sl_ (l_invX0 (vs := [(.iface 137 (.pointer (some ⟨b8, 0, none⟩)))]) (Kc := [⟨kb, 201, [some .nilIface], true⟩]) (Bc := []) [0] [] [Byt A n c bs] ([(bfd_d3_k0 b8 A c n bs), ⟨kb, 201, [some (.iface 137 (.pointer (some ⟨b8, 0, none⟩)))], true⟩]) ([Byt A n c bs]) (by decide) rfl (fun w => me_199_AddLayer _ w) rfl ca_166 (fun _ h => h) rfl rfl rfl rfl (fun w h => addLayer w kb 137 b8  h) rfl rfl rfl rfl fun hf3 he4 => ?_)
  refine send ?_
  refine eseq ?_
  refine HT.norm [(bfd_d3_k0 b8 A c n bs), ⟨kb, 201, [some (.iface 137 (.pointer (some ⟨b8, 0, none⟩)))], true⟩] [Byt A n c bs] rfl rfl ?_
  refine HT.seq ?_
  refine HT.plain ?_
  refine sAs rfl rfl ?_
  refine send ?_
  refine eseq ?_
  refine HT.ret ?_
  exact fun a ha w' hw => fin_ ha (res1 ha Tryz.results84 rfl) ⟨b8, rfl, (hw.wk [(1, []), (0, [])] rfl), fr0⟩

theorem bfd_z3 (w : World) (A : Option Addr) (n : Nat) (c : Nat) (bs : List UInt8) (hn : n ≤ 400) (ha : 24 ≤ n) (hb : nb bs 3 = n) (hc : nb bs 1 / 4 % 2 = 0) (hst : St w [] [] [Byt A n c bs] w) : Calls Tryz.prog 58 #[(.string ⟨#[98, 102, 100]⟩), (.slice A n c)] w (CP1 w [] [Byt A n c bs] (fun b8 => (.tuple #[(.iface 137 (.pointer (some ⟨b8, 0, none⟩))), .nilIface])) (fun b8 => [⟨b8, 146, [some (.slice (cutA A c 0) (n - 0) (c - 0)), some (.slice none 0 0), some (.int .u8 ((((nb bs 0) &&& 224) / 32 : Nat) : Int)), some (.int .u8 (((nb bs 0) &&& 31 : Nat) : Int)), some (.int .u8 ((((nb bs 1) &&& 192) / 64 : Nat) : Int)), some (.bool (decide ((nb bs 1) &&& 32 ≠ 0))), some (.bool (decide ((nb bs 1) &&& 16 ≠ 0))), some (.bool (decide ((nb bs 1) &&& 8 ≠ 0))), some (.bool false), some (.bool (decide ((nb bs 1) &&& 2 ≠ 0))), some (.bool (decide ((nb bs 1) &&& 1 ≠ 0))), some (.int .u8 ((nb bs 2 : Nat) : Int)), some (.int .u32 ((bN bs 4 4 : Nat) : Int)), some (.int .u32 ((bN bs 8 4 : Nat) : Int)), some (.int .u32 ((bN bs 12 4 : Nat) : Int)), some (.int .u32 ((bN bs 16 4 : Nat) : Int)), some (.int .u32 ((bN bs 20 4 : Nat) : Int)), some (.pointer none)], true⟩]) (fun b8 => [])) := by
  have hnc00 : n ≤ c := (hst.fact (j := 0) rfl).2.1
  refine enter (vs := [(.string ⟨#[98, 102, 100]⟩), (.slice A n c)]) Tryz.func58 rfl rfl rfl hst ?_
  refine HT.seq ?_
  refine HT.plain ?_
  refine sAs rfl rfl ?_
  refine sAs rfl rfl ?_
  refine send ?_
  refine eseq ?_
  refine HT.seq ?_
  refine HT.plain ?_
  refine sqS (q_build (vs := []) (v := (.agg #[.nilIface])) rfl (fun _ => by kernel_rfl)) rfl ?_
  refine sl_ (l_box (by decide) rfl fun b9 => ?_)
  refine sAs rfl rfl ?_
  refine send ?_
  refine eseq ?_
  refine HT.seq ?_
  refine HT.plain ?_
  refine sl_ (l_callX1 (vs := [(.string ⟨#[110, 111, 32, 107, 105, 110, 100]⟩)]) (Kc := []) (Bc := []) [] [] [Byt A n c bs] (fun b5 => [⟨b9, 201, [some .nilIface], true⟩, ⟨b5, 206, [some (.string (⟨#[110, 111, 32, 107, 105, 110, 100]⟩))], true⟩]) (fun b5 => [Byt A n c bs]) (by decide) rfl ca_67 (fun _ h => h) rfl rfl rfl rfl (fun w h => errNew w (⟨#[110, 111, 32, 107, 105, 110, 100]⟩)  h) (fun _ => rfl) (fun _ => rfl) (fun _ => rfl) (fun _ => rfl) fun b5 hf1 he2 => ?_)
  refine sAs rfl rfl ?_
  refine send ?_
  refine eseq ?_
  refine HT.seq ?_
  refine HT.seq ?_
  refine HT.plain ?_
  refine sMv rfl rfl ?_
  refine send ?_
  refine eseq ?_
  refine HT.block ?_
  refine HT.seq ?_
  refine HT.plain ?_
  refine sqS (q_eqs rfl rfl (r := false) (by kernel_rfl)) rfl ?_
  refine sAs rfl rfl ?_
  refine send ?_
  refine eseq ?_
  refine HT.no rfl ?_
  refine HT.seq ?_
  refine HT.plain ?_
  refine sqS (q_eqs rfl rfl (r := false) (by kernel_rfl)) rfl ?_
  refine sAs rfl rfl ?_
  refine send ?_
  refine eseq ?_
  refine HT.no rfl ?_
  refine HT.seq ?_
  refine HT.plain ?_
  refine sqS (q_eqs rfl rfl (r := false) (by kernel_rfl)) rfl ?_
  refine sAs rfl rfl ?_
  refine send ?_
  refine eseq ?_
  refine HT.no rfl ?_
  refine HT.seq ?_
  refine HT.plain ?_
  refine sqS (q_eqs rfl rfl (r := false) (by kernel_rfl)) rfl ?_
  refine sAs rfl rfl ?_
  refine send ?_
  refine eseq ?_
  refine HT.no rfl ?_
  refine HT.seq ?_
  refine HT.plain ?_
  refine sqS (q_eqs rfl rfl (r := false) (by kernel_rfl)) rfl ?_
  refine sAs rfl rfl ?_
  refine send ?_
  refine eseq ?_
  refine HT.no rfl ?_
  refine HT.seq ?_
  refine HT.plain ?_
  refine sqS (q_eqs rfl rfl (r := false) (by kernel_rfl)) rfl ?_
  refine sAs rfl rfl ?_
  refine send ?_
  refine eseq ?_
  refine HT.no rfl ?_
  refine HT.seq ?_
  refine HT.plain ?_
  refine sqS (q_eqs rfl rfl (r := false) (by kernel_rfl)) rfl ?_
  refine sAs rfl rfl ?_
  refine send ?_
  refine eseq ?_
  refine HT.no rfl ?_
  refine HT.seq ?_
  refine HT.plain ?_
  refine sqS (q_eqs rfl rfl (r := false) (by kernel_rfl)) rfl ?_
  refine sAs rfl rfl ?_
  refine send ?_
  refine eseq ?_
  refine HT.no rfl ?_
  refine HT.seq ?_
  refine HT.plain ?_
  refine sqS (q_eqs rfl rfl (r := false) (by kernel_rfl)) rfl ?_
  refine sAs rfl rfl ?_
  refine send ?_
  refine eseq ?_
  refine HT.no rfl ?_
  refine HT.seq ?_
  refine HT.plain ?_
  refine sqS (q_eqs rfl rfl (r := false) (by kernel_rfl)) rfl ?_
  refine sAs rfl rfl ?_
  refine send ?_
  refine eseq ?_
  refine HT.no rfl ?_
  refine HT.seq ?_
  refine HT.plain ?_
  refine sqS (q_eqs rfl rfl (r := false) (by kernel_rfl)) rfl ?_
  refine sAs rfl rfl ?_
  refine send ?_
  refine eseq ?_
  refine HT.no rfl ?_
  refine HT.seq ?_
  refine HT.plain ?_
  refine sqS (q_eqs rfl rfl (r := false) (by kernel_rfl)) rfl ?_
  refine sAs rfl rfl ?_
  refine send ?_
  refine eseq ?_
  refine HT.no rfl ?_
  refine HT.seq ?_
  refine HT.plain ?_
  refine sqS (q_eqs rfl rfl (r := false) (by kernel_rfl)) rfl ?_
  refine sAs rfl rfl ?_
  refine send ?_
  refine eseq ?_
  refine HT.no rfl ?_
  refine HT.seq ?_
  refine HT.plain ?_
  refine sqS (q_eqs rfl rfl (r := false) (by kernel_rfl)) rfl ?_
  refine sAs rfl rfl ?_
  refine send ?_
  refine eseq ?_
  refine HT.no rfl ?_
  refine HT.seq ?_
  refine HT.plain ?_
  refine sqS (q_eqs rfl rfl (r := false) (by kernel_rfl)) rfl ?_
  refine sAs rfl rfl ?_
  refine send ?_
  refine eseq ?_
  refine HT.no rfl ?_
  refine HT.seq ?_
  refine HT.plain ?_
  refine sqS (q_eqs rfl rfl (r := false) (by kernel_rfl)) rfl ?_
  refine sAs rfl rfl ?_
  refine send ?_
  refine eseq ?_
  refine HT.no rfl ?_
  refine HT.seq ?_
  refine HT.plain ?_
  refine sqS (q_eqs rfl rfl (r := true) (by kernel_rfl)) rfl ?_
  refine sAs rfl rfl ?_
  refine send ?_
  refine eseq ?_
  refine HT.yes rfl ?_
  refine HT.plain ?_
  refine sMv rfl rfl ?_
  refine sMv rfl rfl ?_
  refine sqS (q_iface rfl Tryz.underlying199 (fun _ h => nomatch h)) rfl ?_
  refine sl_ (l_callX1 (vs := [(.slice A n c), (.iface 199 (.pointer (some ⟨b9, 0, none⟩)))]) (Kc := [⟨b9, 201, [some .nilIface], true⟩]) (Bc := [Byt A n c bs]) [0] [0] [Byt A n c bs] (fun b8 => [⟨b5, 206, [some (.string (⟨#[110, 111, 32, 107, 105, 110, 100]⟩))], true⟩, ⟨b9, 201, [some (.iface 137 (.pointer (some ⟨b8, 0, none⟩)))], true⟩, ⟨b8, 146, [some (.slice (cutA A c 0) (n - 0) (c - 0)), some (.slice none 0 0), some (.int .u8 ((((nb bs 0) &&& 224) / 32 : Nat) : Int)), some (.int .u8 (((nb bs 0) &&& 31 : Nat) : Int)), some (.int .u8 ((((nb bs 1) &&& 192) / 64 : Nat) : Int)), some (.bool (decide ((nb bs 1) &&& 32 ≠ 0))), some (.bool (decide ((nb bs 1) &&& 16 ≠ 0))), some (.bool (decide ((nb bs 1) &&& 8 ≠ 0))), some (.bool false), some (.bool (decide ((nb bs 1) &&& 2 ≠ 0))), some (.bool (decide ((nb bs 1) &&& 1 ≠ 0))), some (.int .u8 ((nb bs 2 : Nat) : Int)), some (.int .u32 ((bN bs 4 4 : Nat) : Int)), some (.int .u32 ((bN bs 8 4 : Nat) : Int)), some (.int .u32 ((bN bs 12 4 : Nat) : Int)), some (.int .u32 ((bN bs 16 4 : Nat) : Int)), some (.int .u32 ((bN bs 20 4 : Nat) : Int)), some (.pointer none)], true⟩]) (fun b8 => [Byt A n c bs]) (by decide) rfl ca_84 (fun _ h => h) rfl rfl rfl rfl (fun w h => bfd_d3 w A n c bs b9 (by omega) (by omega) (by omega) (by omega) h) (fun _ => rfl) (fun _ => rfl) (fun _ => rfl) (fun _ => rfl) fun b8 hf3 he4 => ?_)
  refine sAs rfl rfl ?_
  refine send ?_
  refine ein ?_
  refine eseq ?_
  refine HT.seq ?_
  refine HT.seq ?_
  refine HT.plain ?_
  refine sMv rfl rfl ?_
  refine sqS (q_notNil rfl rfl Tryz.underlying59) rfl ?_
  refine send ?_
  refine eseq ?_
  refine HT.no rfl ?_
  refine HT.skip ?_
  refine eseq ?_
  refine HT.seq ?_
  refine HT.plain ?_
  refine sMv rfl rfl ?_
  refine sqS (q_nil rfl) rfl ?_
  refine sqS (q_field (b := b9) (off := 0) rfl fo_201_0) rfl ?_
  refine sqS (q_load (b := b9) (off := 0) (j := 1) rfl nagg_43 (fun _ h => h) rfl rfl rfl) rfl ?_
  refine sAs rfl rfl ?_
  refine sAs rfl rfl ?_
  refine send ?_
  refine eseq ?_
  refine HT.ret ?_
  exact fun a ha w' hw => fin_ ha (res2 ha Tryz.results58 rfl rfl) ⟨b8, rfl, (hw.wk [(2, [])] rfl), fr0⟩

theorem bfd_e3 (w : World) (A : Option Addr) (n : Nat) (c : Nat) (bs : List UInt8) (hn : n ≤ 400) (ha : 24 ≤ n) (hb : nb bs 3 = n) (hc : nb bs 1 / 4 % 2 = 0) (hst : St w [] [] [Byt A n c bs] w) : Calls Tryz.prog 46 #[(.string ⟨#[98, 102, 100]⟩), (.slice A n c)] w (CP3 w [] [Byt A n c bs] (fun b8 A5 c5 => (.tuple #[(.iface 137 (.pointer (some ⟨b8, 0, none⟩))), (.bool true)])) (fun b8 A5 c5 => [⟨b8, 146, [some (.slice (cutA A5 c5 0) (n - 0) (c5 - 0)), some (.slice none 0 0), some (.int .u8 ((((nb bs 0) &&& 224) / 32 : Nat) : Int)), some (.int .u8 (((nb bs 0) &&& 31 : Nat) : Int)), some (.int .u8 ((((nb bs 1) &&& 192) / 64 : Nat) : Int)), some (.bool (decide ((nb bs 1) &&& 32 ≠ 0))), some (.bool (decide ((nb bs 1) &&& 16 ≠ 0))), some (.bool (decide ((nb bs 1) &&& 8 ≠ 0))), some (.bool false), some (.bool (decide ((nb bs 1) &&& 2 ≠ 0))), some (.bool (decide ((nb bs 1) &&& 1 ≠ 0))), some (.int .u8 ((nb bs 2 : Nat) : Int)), some (.int .u32 ((bN bs 4 4 : Nat) : Int)), some (.int .u32 ((bN bs 8 4 : Nat) : Int)), some (.int .u32 ((bN bs 12 4 : Nat) : Int)), some (.int .u32 ((bN bs 16 4 : Nat) : Int)), some (.int .u32 ((bN bs 20 4 : Nat) : Int)), some (.pointer none)], true⟩]) (fun b8 A5 c5 => [Byt A5 n c5 bs])) := by
  have hnc00 : n ≤ c := (hst.fact (j := 0) rfl).2.1
  refine enter (vs := [(.string ⟨#[98, 102, 100]⟩), (.slice A n c)]) Tryz.func46 rfl rfl rfl hst ?_
  refine HT.seq ?_
  refine HT.plain ?_
  refine sAs rfl rfl ?_
  refine sAs rfl rfl ?_
  refine send ?_
  refine eseq ?_
  refine HT.seq ?_
  refine HT.seq ?_
  refine HT.plain ?_
  refine sMv rfl rfl ?_
  refine sqS (q_len (len := n) rfl Tryz.underlying22) rfl ?_
  refine sqS (q_F (q_gt (p := n) (q := 2000) rfl rfl) (by omega)) rfl ?_
  refine send ?_
  refine eseq ?_
  refine HT.no rfl ?_
  refine HT.skip ?_
  refine eseq ?_
  refine HT.seq ?_
  refine HT.plain ?_
  refine sMv rfl rfl ?_
  refine sAs rfl rfl ?_
  refine send ?_
  refine eseq ?_
  refine HT.seq ?_
  refine HT.seq ?_
  refine HT.plain ?_
  refine sMv rfl rfl ?_
  refine sqS (q_eqs rfl rfl (r := false) (by kernel_rfl)) rfl ?_
  refine sMv rfl rfl ?_
  refine sgqS rfl (q_move rfl) rfl ?_
  refine sgqS rfl (q_eqs rfl rfl (r := false) (by kernel_rfl)) rfl ?_
  refine sqS (q_pick rfl (fun h => nomatch h) (fun _ => rfl)) rfl ?_
  refine send ?_
  refine eseq ?_
  refine HT.no rfl ?_
  refine HT.seq ?_
  refine HT.plain ?_
  refine sMv rfl rfl ?_
  refine sqS (q_eqs rfl rfl (r := false) (by kernel_rfl)) rfl ?_
  refine send ?_
  refine eseq ?_
  refine HT.no rfl ?_
  refine HT.skip ?_
  refine eseq ?_
  refine HT.seq ?_
  refine HT.seq ?_
  refine HT.plain ?_
  refine sMv rfl rfl ?_
  refine sMv rfl rfl ?_
  refine sqS (q_call (vs := [(.string ⟨#[98, 102, 100]⟩), (.slice A n c)]) (v := (.bool true)) rfl ca_57 (fun w h => bfd_c3 w A n c bs (by omega) (by omega) (by omega) (by omega) (St.enter (sp := []) (Kc := []) (bi := [0]) h rfl rfl rfl))) rfl ?_
  refine sqS (q_not rfl) rfl ?_
  refine send ?_
  refine eseq ?_
  refine HT.no rfl ?_
  refine HT.skip ?_
  refine eseq ?_
  refine HT.seq ?_
  refine HT.plain ?_
  refine sMv rfl rfl ?_
  refine sMv rfl rfl ?_
  refine sl_ (l_callX2 (vs := [(.slice A n c)]) (Kc := []) (Bc := [Byt A n c bs]) [] [0] [Byt A n c bs] (fun A5 c5 => []) (fun A5 c5 => [Byt A n c bs, Byt A5 n c5 bs]) (by decide) rfl ca_59 (fun _ h => h) rfl rfl rfl rfl (fun w h => Clone w A n c bs (by omega) h) (fun _ _ => rfl) (fun _ _ => rfl) (fun _ _ => rfl) (fun _ _ => rfl) fun A5 c5 hf1 he2 => ?_)
  have hnc3 : n ≤ c5 := by obtain ⟨w, h⟩ := he2; exact (h _ List.mem_cons_self).2.1
  refine sl_ (l_callX1 (vs := [(.string ⟨#[98, 102, 100]⟩), (.slice A5 n c5)]) (Kc := []) (Bc := [Byt A5 n c5 bs]) [] [1] [Byt A n c bs, Byt A5 n c5 bs] (fun b8 => [⟨b8, 146, [some (.slice (cutA A5 c5 0) (n - 0) (c5 - 0)), some (.slice none 0 0), some (.int .u8 ((((nb bs 0) &&& 224) / 32 : Nat) : Int)), some (.int .u8 (((nb bs 0) &&& 31 : Nat) : Int)), some (.int .u8 ((((nb bs 1) &&& 192) / 64 : Nat) : Int)), some (.bool (decide ((nb bs 1) &&& 32 ≠ 0))), some (.bool (decide ((nb bs 1) &&& 16 ≠ 0))), some (.bool (decide ((nb bs 1) &&& 8 ≠ 0))), some (.bool false), some (.bool (decide ((nb bs 1) &&& 2 ≠ 0))), some (.bool (decide ((nb bs 1) &&& 1 ≠ 0))), some (.int .u8 ((nb bs 2 : Nat) : Int)), some (.int .u32 ((bN bs 4 4 : Nat) : Int)), some (.int .u32 ((bN bs 8 4 : Nat) : Int)), some (.int .u32 ((bN bs 12 4 : Nat) : Int)), some (.int .u32 ((bN bs 16 4 : Nat) : Int)), some (.int .u32 ((bN bs 20 4 : Nat) : Int)), some (.pointer none)], true⟩]) (fun b8 => [Byt A n c bs, Byt A5 n c5 bs]) (by decide) rfl ca_58 (fun _ h => h) rfl rfl rfl rfl (fun w h => bfd_z3 w A5 n c5 bs (by omega) (by omega) (by omega) (by omega) h) (fun _ => rfl) (fun _ => rfl) (fun _ => rfl) (fun _ => rfl) fun b8 hf4 he5 => ?_)
  refine sMv rfl rfl ?_
  refine sqS (q_extract (vs := [(.iface 137 (.pointer (some ⟨b8, 0, none⟩))), .nilIface]) (i := 0) rfl rfl) rfl ?_
  refine sqS (q_extract (vs := [(.iface 137 (.pointer (some ⟨b8, 0, none⟩))), .nilIface]) (i := 1) rfl rfl) rfl ?_
  refine sAs rfl rfl ?_
  refine sAs rfl rfl ?_
  refine send ?_
  refine eseq ?_
  refine HT.seq ?_
  refine HT.seq ?_
  refine HT.plain ?_
  refine sMv rfl rfl ?_
  refine sqS (q_notNil rfl rfl Tryz.underlying59) rfl ?_
  refine sMv rfl rfl ?_
  refine sgqS rfl (q_move rfl) rfl ?_
  refine sgqS rfl (q_isNil' rfl rfl Tryz.underlying43) rfl ?_
  refine sqS (q_pick rfl (fun h => nomatch h) (fun _ => rfl)) rfl ?_
  refine send ?_
  refine eseq ?_
  refine HT.no rfl ?_
  refine HT.skip ?_
  refine eseq ?_
  refine HT.seq ?_
  refine HT.seq ?_
  refine HT.plain ?_
  refine sMv rfl rfl ?_
  refine sqS (q_isnt (T := 137) (z := (.pointer none)) rfl Tryz.underlying63 (fun _ h => nomatch h) (by decide) zero_63) rfl ?_
  refine sMv rfl rfl ?_
  refine sqS (q_extract (vs := [(.pointer none), (.bool false)]) (i := 0) rfl rfl) rfl ?_
  refine sqS (q_extract (vs := [(.pointer none), (.bool false)]) (i := 1) rfl rfl) rfl ?_
  refine sAs rfl rfl ?_
  refine sAs rfl rfl ?_
  refine send ?_
  refine eseq ?_
  refine HT.seq ?_
  refine HT.plain ?_
  refine sMv rfl rfl ?_
  refine sMv rfl rfl ?_
  refine sqS (q_eqs rfl rfl (r := false) (by kernel_rfl)) rfl ?_
  refine sqS (q_neb rfl rfl Tryz.underlying4) rfl ?_
  refine sMv rfl rfl ?_
  refine sskip rfl rfl ?_
  refine sskip rfl rfl ?_
  refine sqS (q_pick rfl (fun h => nomatch h) (fun _ => rfl)) rfl ?_
  refine send ?_
  refine eseq ?_
  refine HT.no rfl ?_
  refine HT.skip ?_
  refine eseq ?_
  refine HT.seq ?_
  refine HT.plain ?_
  refine sMv rfl rfl ?_
  refine sAs rfl rfl ?_
  refine sAs rfl rfl ?_
  refine send ?_
  refine eseq ?_
  refine HT.ret ?_
  exact fun a ha w' hw => fin_ ha (res2 ha Tryz.results46 rfl rfl) ⟨b8, A5, c5, rfl, hw, (fr1 (hf1 _ List.mem_cons_self) fr0)⟩

theorem bfd_D3 (A5 : Option Addr) (n : Nat) (c5 : Nat) (bs : List UInt8) (b8 : Nat) (hn : n ≤ 400) (ha : 24 ≤ n) (hb : nb bs 3 = n) (hc : nb bs 1 / 4 % 2 = 0) : LD.mk [((nb bs 0) &&& 224) / 32, (nb bs 0) &&& 31, ((nb bs 1) &&& 192) / 64, bitN (decide ((nb bs 1) &&& 32 ≠ 0)), bitN (decide ((nb bs 1) &&& 16 ≠ 0)), bitN (decide ((nb bs 1) &&& 8 ≠ 0)), bitN false, bitN (decide ((nb bs 1) &&& 2 ≠ 0)), bitN (decide ((nb bs 1) &&& 1 ≠ 0)), nb bs 2, bN bs 4 4, bN bs 8 4, bN bs 12 4, bN bs 16 4, bN bs 20 4] [] [] [] = LD.mk [(nb bs 0) / 32, (nb bs 0) &&& 31, (nb bs 1) / 64, ((nb bs 1) / 32) &&& 1, ((nb bs 1) / 16) &&& 1, ((nb bs 1) / 8) &&& 1, ((nb bs 1) / 4) &&& 1, ((nb bs 1) / 2) &&& 1, ((nb bs 1) / 1) &&& 1, nb bs 2, bN bs 4 4, bN bs 8 4, bN bs 12 4, bN bs 16 4, bN bs 20 4] [] [] [] := (LD_eq (lc (show ((nb bs 0) &&& 224) / 32 = (nb bs 0) / 32 from by (have := nb_lt bs 0; first | omega | ((try simp only [zd224, zd240, zd192, zd24, zd56, zd65520, zd4, zd8, zd48, zd112]) <;> (try simp only [zt1, zt2, zt4, zt8, zt16, zt32, zt64, zt128, zt256, zt512, zt1024, zt2048, zt4096, zt8192]) <;> (try simp only [zm1, zm3, zm7, zm15, zm31, zm63, zm127, zm255, zm1023, zm4095, zm1048575, zb1, zb2, zb4, zb8, zb16, zb32, zb64, zb128, zb256, zb512, zb1024, zb2048, zb4096, zb8192, bitN, cond_true, cond_false]) <;> omega) | ((try simp only [zd224, zd240, zd192, zd24, zd56, zd65520, zd4, zd8, zd48, zd112]) <;> (try simp only [zt1, zt2, zt4, zt8, zt16, zt32, zt64, zt128, zt256, zt512, zt1024, zt2048, zt4096, zt8192]) <;> (try simp only [zm1, zm3, zm7, zm15, zm31, zm63, zm127, zm255, zm1023, zm4095, zm1048575, zb1, zb2, zb4, zb8, zb16, zb32, zb64, zb128, zb256, zb512, zb1024, zb2048, zb4096, zb8192, bitN, cond_true, cond_false, lN, bN, Nat.zero_mul, Nat.zero_add, Nat.add_zero, Nat.reduceAdd, Nat.reduceDiv, Nat.reduceMul]) <;> omega))) (lc rfl (lc (show ((nb bs 1) &&& 192) / 64 = (nb bs 1) / 64 from by (have := nb_lt bs 1; first | omega | ((try simp only [zd224, zd240, zd192, zd24, zd56, zd65520, zd4, zd8, zd48, zd112]) <;> (try simp only [zt1, zt2, zt4, zt8, zt16, zt32, zt64, zt128, zt256, zt512, zt1024, zt2048, zt4096, zt8192]) <;> (try simp only [zm1, zm3, zm7, zm15, zm31, zm63, zm127, zm255, zm1023, zm4095, zm1048575, zb1, zb2, zb4, zb8, zb16, zb32, zb64, zb128, zb256, zb512, zb1024, zb2048, zb4096, zb8192, bitN, cond_true, cond_false]) <;> omega) | ((try simp only [zd224, zd240, zd192, zd24, zd56, zd65520, zd4, zd8, zd48, zd112]) <;> (try simp only [zt1, zt2, zt4, zt8, zt16, zt32, zt64, zt128, zt256, zt512, zt1024, zt2048, zt4096, zt8192]) <;> (try simp only [zm1, zm3, zm7, zm15, zm31, zm63, zm127, zm255, zm1023, zm4095, zm1048575, zb1, zb2, zb4, zb8, zb16, zb32, zb64, zb128, zb256, zb512, zb1024, zb2048, zb4096, zb8192, bitN, cond_true, cond_false, lN, bN, Nat.zero_mul, Nat.zero_add, Nat.add_zero, Nat.reduceAdd, Nat.reduceDiv, Nat.reduceMul]) <;> omega))) (lc (show bitN (decide ((nb bs 1) &&& 32 ≠ 0)) = ((nb bs 1) / 32) &&& 1 from by (have := nb_lt bs 1; first | omega | ((try simp only [zd224, zd240, zd192, zd24, zd56, zd65520, zd4, zd8, zd48, zd112]) <;> (try simp only [zt1, zt2, zt4, zt8, zt16, zt32, zt64, zt128, zt256, zt512, zt1024, zt2048, zt4096, zt8192]) <;> (try simp only [zm1, zm3, zm7, zm15, zm31, zm63, zm127, zm255, zm1023, zm4095, zm1048575, zb1, zb2, zb4, zb8, zb16, zb32, zb64, zb128, zb256, zb512, zb1024, zb2048, zb4096, zb8192, bitN, cond_true, cond_false]) <;> omega) | ((try simp only [zd224, zd240, zd192, zd24, zd56, zd65520, zd4, zd8, zd48, zd112]) <;> (try simp only [zt1, zt2, zt4, zt8, zt16, zt32, zt64, zt128, zt256, zt512, zt1024, zt2048, zt4096, zt8192]) <;> (try simp only [zm1, zm3, zm7, zm15, zm31, zm63, zm127, zm255, zm1023, zm4095, zm1048575, zb1, zb2, zb4, zb8, zb16, zb32, zb64, zb128, zb256, zb512, zb1024, zb2048, zb4096, zb8192, bitN, cond_true, cond_false, lN, bN, Nat.zero_mul, Nat.zero_add, Nat.add_zero, Nat.reduceAdd, Nat.reduceDiv, Nat.reduceMul]) <;> omega))) (lc (show bitN (decide ((nb bs 1) &&& 16 ≠ 0)) = ((nb bs 1) / 16) &&& 1 from by (have := nb_lt bs 1; first | omega | ((try simp only [zd224, zd240, zd192, zd24, zd56, zd65520, zd4, zd8, zd48, zd112]) <;> (try simp only [zt1, zt2, zt4, zt8, zt16, zt32, zt64, zt128, zt256, zt512, zt1024, zt2048, zt4096, zt8192]) <;> (try simp only [zm1, zm3, zm7, zm15, zm31, zm63, zm127, zm255, zm1023, zm4095, zm1048575, zb1, zb2, zb4, zb8, zb16, zb32, zb64, zb128, zb256, zb512, zb1024, zb2048, zb4096, zb8192, bitN, cond_true, cond_false]) <;> omega) | ((try simp only [zd224, zd240, zd192, zd24, zd56, zd65520, zd4, zd8, zd48, zd112]) <;> (try simp only [zt1, zt2, zt4, zt8, zt16, zt32, zt64, zt128, zt256, zt512, zt1024, zt2048, zt4096, zt8192]) <;> (try simp only [zm1, zm3, zm7, zm15, zm31, zm63, zm127, zm255, zm1023, zm4095, zm1048575, zb1, zb2, zb4, zb8, zb16, zb32, zb64, zb128, zb256, zb512, zb1024, zb2048, zb4096, zb8192, bitN, cond_true, cond_false, lN, bN, Nat.zero_mul, Nat.zero_add, Nat.add_zero, Nat.reduceAdd, Nat.reduceDiv, Nat.reduceMul]) <;> omega))) (lc (show bitN (decide ((nb bs 1) &&& 8 ≠ 0)) = ((nb bs 1) / 8) &&& 1 from by (have := nb_lt bs 1; first | omega | ((try simp only [zd224, zd240, zd192, zd24, zd56, zd65520, zd4, zd8, zd48, zd112]) <;> (try simp only [zt1, zt2, zt4, zt8, zt16, zt32, zt64, zt128, zt256, zt512, zt1024, zt2048, zt4096, zt8192]) <;> (try simp only [zm1, zm3, zm7, zm15, zm31, zm63, zm127, zm255, zm1023, zm4095, zm1048575, zb1, zb2, zb4, zb8, zb16, zb32, zb64, zb128, zb256, zb512, zb1024, zb2048, zb4096, zb8192, bitN, cond_true, cond_false]) <;> omega) | ((try simp only [zd224, zd240, zd192, zd24, zd56, zd65520, zd4, zd8, zd48, zd112]) <;> (try simp only [zt1, zt2, zt4, zt8, zt16, zt32, zt64, zt128, zt256, zt512, zt1024, zt2048, zt4096, zt8192]) <;> (try simp only [zm1, zm3, zm7, zm15, zm31, zm63, zm127, zm255, zm1023, zm4095, zm1048575, zb1, zb2, zb4, zb8, zb16, zb32, zb64, zb128, zb256, zb512, zb1024, zb2048, zb4096, zb8192, bitN, cond_true, cond_false, lN, bN, Nat.zero_mul, Nat.zero_add, Nat.add_zero, Nat.reduceAdd, Nat.reduceDiv, Nat.reduceMul]) <;> omega))) (lc (show bitN false = ((nb bs 1) / 4) &&& 1 from by (have := nb_lt bs 1; first | omega | ((try simp only [zd224, zd240, zd192, zd24, zd56, zd65520, zd4, zd8, zd48, zd112]) <;> (try simp only [zt1, zt2, zt4, zt8, zt16, zt32, zt64, zt128, zt256, zt512, zt1024, zt2048, zt4096, zt8192]) <;> (try simp only [zm1, zm3, zm7, zm15, zm31, zm63, zm127, zm255, zm1023, zm4095, zm1048575, zb1, zb2, zb4, zb8, zb16, zb32, zb64, zb128, zb256, zb512, zb1024, zb2048, zb4096, zb8192, bitN, cond_true, cond_false]) <;> omega) | ((try simp only [zd224, zd240, zd192, zd24, zd56, zd65520, zd4, zd8, zd48, zd112]) <;> (try simp only [zt1, zt2, zt4, zt8, zt16, zt32, zt64, zt128, zt256, zt512, zt1024, zt2048, zt4096, zt8192]) <;> (try simp only [zm1, zm3, zm7, zm15, zm31, zm63, zm127, zm255, zm1023, zm4095, zm1048575, zb1, zb2, zb4, zb8, zb16, zb32, zb64, zb128, zb256, zb512, zb1024, zb2048, zb4096, zb8192, bitN, cond_true, cond_false, lN, bN, Nat.zero_mul, Nat.zero_add, Nat.add_zero, Nat.reduceAdd, Nat.reduceDiv, Nat.reduceMul]) <;> omega))) (lc (show bitN (decide ((nb bs 1) &&& 2 ≠ 0)) = ((nb bs 1) / 2) &&& 1 from by (have := nb_lt bs 1; first | omega | ((try simp only [zd224, zd240, zd192, zd24, zd56, zd65520, zd4, zd8, zd48, zd112]) <;> (try simp only [zt1, zt2, zt4, zt8, zt16, zt32, zt64, zt128, zt256, zt512, zt1024, zt2048, zt4096, zt8192]) <;> (try simp only [zm1, zm3, zm7, zm15, zm31, zm63, zm127, zm255, zm1023, zm4095, zm1048575, zb1, zb2, zb4, zb8, zb16, zb32, zb64, zb128, zb256, zb512, zb1024, zb2048, zb4096, zb8192, bitN, cond_true, cond_false]) <;> omega) | ((try simp only [zd224, zd240, zd192, zd24, zd56, zd65520, zd4, zd8, zd48, zd112]) <;> (try simp only [zt1, zt2, zt4, zt8, zt16, zt32, zt64, zt128, zt256, zt512, zt1024, zt2048, zt4096, zt8192]) <;> (try simp only [zm1, zm3, zm7, zm15, zm31, zm63, zm127, zm255, zm1023, zm4095, zm1048575, zb1, zb2, zb4, zb8, zb16, zb32, zb64, zb128, zb256, zb512, zb1024, zb2048, zb4096, zb8192, bitN, cond_true, cond_false, lN, bN, Nat.zero_mul, Nat.zero_add, Nat.add_zero, Nat.reduceAdd, Nat.reduceDiv, Nat.reduceMul]) <;> omega))) (lc (show bitN (decide ((nb bs 1) &&& 1 ≠ 0)) = ((nb bs 1) / 1) &&& 1 from by (have := nb_lt bs 1; first | omega | ((try simp only [zd224, zd240, zd192, zd24, zd56, zd65520, zd4, zd8, zd48, zd112]) <;> (try simp only [zt1, zt2, zt4, zt8, zt16, zt32, zt64, zt128, zt256, zt512, zt1024, zt2048, zt4096, zt8192]) <;> (try simp only [zm1, zm3, zm7, zm15, zm31, zm63, zm127, zm255, zm1023, zm4095, zm1048575, zb1, zb2, zb4, zb8, zb16, zb32, zb64, zb128, zb256, zb512, zb1024, zb2048, zb4096, zb8192, bitN, cond_true, cond_false]) <;> omega) | ((try simp only [zd224, zd240, zd192, zd24, zd56, zd65520, zd4, zd8, zd48, zd112]) <;> (try simp only [zt1, zt2, zt4, zt8, zt16, zt32, zt64, zt128, zt256, zt512, zt1024, zt2048, zt4096, zt8192]) <;> (try simp only [zm1, zm3, zm7, zm15, zm31, zm63, zm127, zm255, zm1023, zm4095, zm1048575, zb1, zb2, zb4, zb8, zb16, zb32, zb64, zb128, zb256, zb512, zb1024, zb2048, zb4096, zb8192, bitN, cond_true, cond_false, lN, bN, Nat.zero_mul, Nat.zero_add, Nat.add_zero, Nat.reduceAdd, Nat.reduceDiv, Nat.reduceMul]) <;> omega))) (lc rfl (lc rfl (lc rfl (lc rfl (lc rfl (lc rfl rfl))))))))))))))) rfl rfl rfl)

theorem bfd_t3 (w : World) (A5 : Option Addr) (n : Nat) (c5 : Nat) (bs : List UInt8) (b8 : Nat) (hn : n ≤ 400) (ha : 24 ≤ n) (hb : nb bs 3 = n) (hc : nb bs 1 / 4 % 2 = 0) (hst : St w [] [⟨b8, 146, [some (.slice (cutA A5 c5 0) (n - 0) (c5 - 0)), some (.slice none 0 0), some (.int .u8 ((((nb bs 0) &&& 224) / 32 : Nat) : Int)), some (.int .u8 (((nb bs 0) &&& 31 : Nat) : Int)), some (.int .u8 ((((nb bs 1) &&& 192) / 64 : Nat) : Int)), some (.bool (decide ((nb bs 1) &&& 32 ≠ 0))), some (.bool (decide ((nb bs 1) &&& 16 ≠ 0))), some (.bool (decide ((nb bs 1) &&& 8 ≠ 0))), some (.bool false), some (.bool (decide ((nb bs 1) &&& 2 ≠ 0))), some (.bool (decide ((nb bs 1) &&& 1 ≠ 0))), some (.int .u8 ((nb bs 2 : Nat) : Int)), some (.int .u32 ((bN bs 4 4 : Nat) : Int)), some (.int .u32 ((bN bs 8 4 : Nat) : Int)), some (.int .u32 ((bN bs 12 4 : Nat) : Int)), some (.int .u32 ((bN bs 16 4 : Nat) : Int)), some (.int .u32 ((bN bs 20 4 : Nat) : Int)), some (.pointer none)], false⟩] [Byt A5 n c5 bs] w) : Calls Tryz.prog 47 #[(.iface 137 (.pointer (some ⟨b8, 0, none⟩))), (.slice none 0 0)] w (IP w (Byt A5 n c5 bs) (some (some ⟨[(nb bs 0) / 32, (nb bs 0) &&& 31, (nb bs 1) / 64, ((nb bs 1) / 32) &&& 1, ((nb bs 1) / 16) &&& 1, ((nb bs 1) / 8) &&& 1, ((nb bs 1) / 4) &&& 1, ((nb bs 1) / 2) &&& 1, ((nb bs 1) / 1) &&& 1, nb bs 2, bN bs 4 4, bN bs 8 4, bN bs 12 4, bN bs 16 4, bN bs 20 4], [], [], []⟩))) := by
  have hnc00 : n ≤ c5 := (hst.fact (j := 0) rfl).2.1
  refine enter (vs := [(.iface 137 (.pointer (some ⟨b8, 0, none⟩))), (.slice none 0 0)]) Tryz.func47 rfl rfl rfl hst ?_
  refine HT.seq ?_
  refine HT.plain ?_
  refine sl_ (l_alloc (by decide) zero_29 fun b4 => ?_)
  refine sAs rfl rfl ?_
  refine send ?_
  refine eseq ?_
  refine HT.seq ?_
  refine HT.plain ?_
  refine sMv rfl rfl ?_
  refine sqS (q_call (vs := [(.slice none 0 0)]) (v := (.slice none 0 0)) rfl ca_60 (fun w h => cloneNil w   (St.enter (sp := []) (Kc := []) (bi := []) h rfl rfl rfl))) rfl ?_
  refine sqS (q_build (vs := [(3, (.slice none 0 0))]) (v := (.agg #[(.slice none 0 0), (.slice none 0 0), (.slice none 0 0), (.slice none 0 0)])) rfl (fun _ => by kernel_rfl)) rfl ?_
  refine sl_ (l_box (by decide) rfl fun b50 => ?_)
  refine sAs rfl rfl ?_
  refine send ?_
  refine eseq ?_
  refine HT.seq ?_
  refine HT.seq ?_
  refine HT.plain ?_
  refine sMv rfl rfl ?_
  refine send ?_
  refine eseq ?_
  refine HT.block ?_
  refine HT.seq ?_
  refine HT.plain ?_
  refine sqS (q_isnt (T := 137) (z := (.pointer none)) rfl Tryz.underlying66 (fun _ h => nomatch h) (by decide) zero_66) rfl ?_
  refine sqS (q_extract (vs := [(.pointer none), (.bool false)]) (i := 1) rfl rfl) rfl ?_
  refine sqS (q_extract (vs := [(.pointer none), (.bool false)]) (i := 0) rfl rfl) rfl ?_
  refine send ?_
  refine eseq ?_
  refine HT.no rfl ?_
  refine HT.seq ?_
  refine HT.plain ?_
  refine sqS (q_isnt (T := 137) (z := (.pointer none)) rfl Tryz.underlying73 (fun _ h => nomatch h) (by decide) zero_73) rfl ?_
  refine sqS (q_extract (vs := [(.pointer none), (.bool false)]) (i := 1) rfl rfl) rfl ?_
  refine sqS (q_extract (vs := [(.pointer none), (.bool false)]) (i := 0) rfl rfl) rfl ?_
  refine send ?_
  refine eseq ?_
  refine HT.no rfl ?_
  refine HT.seq ?_
  refine HT.plain ?_
  refine sqS (q_isnt (T := 137) (z := (.pointer none)) rfl Tryz.underlying78 (fun _ h => nomatch h) (by decide) zero_78) rfl ?_
  refine sqS (q_extract (vs := [(.pointer none), (.bool false)]) (i := 1) rfl rfl) rfl ?_
  refine sqS (q_extract (vs := [(.pointer none), (.bool false)]) (i := 0) rfl rfl) rfl ?_
  refine send ?_
  refine eseq ?_
  refine HT.no rfl ?_
  refine HT.seq ?_
  refine HT.plain ?_
  refine sqS (q_isnt (T := 137) (z := (.pointer none)) rfl Tryz.underlying81 (fun _ h => nomatch h) (by decide) zero_81) rfl ?_
  refine sqS (q_extract (vs := [(.pointer none), (.bool false)]) (i := 1) rfl rfl) rfl ?_
  refine sqS (q_extract (vs := [(.pointer none), (.bool false)]) (i := 0) rfl rfl) rfl ?_
  refine send ?_
  refine eseq ?_
  refine HT.no rfl ?_
  refine HT.seq ?_
  refine HT.plain ?_
  refine sqS (q_isnt (T := 137) (z := (.pointer none)) rfl Tryz.underlying85 (fun _ h => nomatch h) (by decide) zero_85) rfl ?_
  refine sqS (q_extract (vs := [(.pointer none), (.bool false)]) (i := 1) rfl rfl) rfl ?_
  refine sqS (q_extract (vs := [(.pointer none), (.bool false)]) (i := 0) rfl rfl) rfl ?_
  refine send ?_
  refine eseq ?_
  refine HT.no rfl ?_
  refine HT.seq ?_
  refine HT.plain ?_
  refine sqS (q_isnt (T := 137) (z := (.pointer none)) rfl Tryz.underlying89 (fun _ h => nomatch h) (by decide) zero_89) rfl ?_
  refine sqS (q_extract (vs := [(.pointer none), (.bool false)]) (i := 1) rfl rfl) rfl ?_
  refine sqS (q_extract (vs := [(.pointer none), (.bool false)]) (i := 0) rfl rfl) rfl ?_
  refine send ?_
  refine eseq ?_
  refine HT.no rfl ?_
  refine HT.seq ?_
  refine HT.plain ?_
  refine sqS (q_isnt (T := 137) (z := (.pointer none)) rfl Tryz.underlying94 (fun _ h => nomatch h) (by decide) zero_94) rfl ?_
  refine sqS (q_extract (vs := [(.pointer none), (.bool false)]) (i := 1) rfl rfl) rfl ?_
  refine sqS (q_extract (vs := [(.pointer none), (.bool false)]) (i := 0) rfl rfl) rfl ?_
  refine send ?_
  refine eseq ?_
  refine HT.no rfl ?_
  refine HT.seq ?_
  refine HT.plain ?_
  refine sqS (q_isnt (T := 137) (z := (.pointer none)) rfl Tryz.underlying95 (fun _ h => nomatch h) (by decide) zero_95) rfl ?_
  refine sqS (q_extract (vs := [(.pointer none), (.bool false)]) (i := 1) rfl rfl) rfl ?_
  refine sqS (q_extract (vs := [(.pointer none), (.bool false)]) (i := 0) rfl rfl) rfl ?_
  refine send ?_
  refine eseq ?_
  refine HT.no rfl ?_
  refine HT.seq ?_
  refine HT.plain ?_
  refine sqS (q_isnt (T := 137) (z := (.pointer none)) rfl Tryz.underlying99 (fun _ h => nomatch h) (by decide) zero_99) rfl ?_
  refine sqS (q_extract (vs := [(.pointer none), (.bool false)]) (i := 1) rfl rfl) rfl ?_
  refine sqS (q_extract (vs := [(.pointer none), (.bool false)]) (i := 0) rfl rfl) rfl ?_
  refine send ?_
  refine eseq ?_
  refine HT.no rfl ?_
  refine HT.seq ?_
  refine HT.plain ?_
  refine sqS (q_isnt (T := 137) (z := (.pointer none)) rfl Tryz.underlying105 (fun _ h => nomatch h) (by decide) zero_105) rfl ?_
  refine sqS (q_extract (vs := [(.pointer none), (.bool false)]) (i := 1) rfl rfl) rfl ?_
  refine sqS (q_extract (vs := [(.pointer none), (.bool false)]) (i := 0) rfl rfl) rfl ?_
  refine send ?_
  refine eseq ?_
  refine HT.no rfl ?_
  refine HT.seq ?_
  refine HT.plain ?_
  refine sqS (q_isnt (T := 137) (z := (.pointer none)) rfl Tryz.underlying110 (fun _ h => nomatch h) (by decide) zero_110) rfl ?_
  refine sqS (q_extract (vs := [(.pointer none), (.bool false)]) (i := 1) rfl rfl) rfl ?_
  refine sqS (q_extract (vs := [(.pointer none), (.bool false)]) (i := 0) rfl rfl) rfl ?_
  refine send ?_
  refine eseq ?_
  refine HT.no rfl ?_
  refine HT.seq ?_
  refine HT.plain ?_
  refine sqS (q_isnt (T := 137) (z := (.pointer none)) rfl Tryz.underlying114 (fun _ h => nomatch h) (by decide) zero_114) rfl ?_
  refine sqS (q_extract (vs := [(.pointer none), (.bool false)]) (i := 1) rfl rfl) rfl ?_
  refine sqS (q_extract (vs := [(.pointer none), (.bool false)]) (i := 0) rfl rfl) rfl ?_
  refine send ?_
  refine eseq ?_
  refine HT.no rfl ?_
  refine HT.seq ?_
  refine HT.plain ?_
  refine sqS (q_isnt (T := 137) (z := (.pointer none)) rfl Tryz.underlying121 (fun _ h => nomatch h) (by decide) zero_121) rfl ?_
  refine sqS (q_extract (vs := [(.pointer none), (.bool false)]) (i := 1) rfl rfl) rfl ?_
  refine sqS (q_extract (vs := [(.pointer none), (.bool false)]) (i := 0) rfl rfl) rfl ?_
  refine send ?_
  refine eseq ?_
  refine HT.no rfl ?_
  refine HT.seq ?_
  refine HT.plain ?_
  refine sqS (q_isnt (T := 137) (z := (.pointer none)) rfl Tryz.underlying127 (fun _ h => nomatch h) (by decide) zero_127) rfl ?_
  refine sqS (q_extract (vs := [(.pointer none), (.bool false)]) (i := 1) rfl rfl) rfl ?_
  refine sqS (q_extract (vs := [(.pointer none), (.bool false)]) (i := 0) rfl rfl) rfl ?_
  refine send ?_
  refine eseq ?_
  refine HT.no rfl ?_
  refine HT.seq ?_
  refine HT.plain ?_
  refine sqS (q_isnt (T := 137) (z := (.pointer none)) rfl Tryz.underlying130 (fun _ h => nomatch h) (by decide) zero_130) rfl ?_
  refine sqS (q_extract (vs := [(.pointer none), (.bool false)]) (i := 1) rfl rfl) rfl ?_
  refine sqS (q_extract (vs := [(.pointer none), (.bool false)]) (i := 0) rfl rfl) rfl ?_
  refine send ?_
  refine eseq ?_
  refine HT.no rfl ?_
  refine HT.seq ?_
  refine HT.plain ?_
  refine sqS (q_isnt (T := 137) (z := (.pointer none)) rfl Tryz.underlying133 (fun _ h => nomatch h) (by decide) zero_133) rfl ?_
  refine sqS (q_extract (vs := [(.pointer none), (.bool false)]) (i := 1) rfl rfl) rfl ?_
  refine sqS (q_extract (vs := [(.pointer none), (.bool false)]) (i := 0) rfl rfl) rfl ?_
  refine send ?_
  refine eseq ?_
  refine HT.no rfl ?_
  refine HT.seq ?_
  refine HT.plain ?_
  refine sqS (q_is rfl Tryz.underlying137 (fun _ h => nomatch h)) rfl ?_
  refine sqS (q_extract (vs := [(.pointer (some ⟨b8, 0, none⟩)), (.bool true)]) (i := 1) rfl rfl) rfl ?_
  refine sqS (q_extract (vs := [(.pointer (some ⟨b8, 0, none⟩)), (.bool true)]) (i := 0) rfl rfl) rfl ?_
  refine send ?_
  refine eseq ?_
  refine HT.yes rfl ?_
  refine HT.seq ?_
  refine HT.plain ?_
  refine sAs rfl rfl ?_
  refine send ?_
  refine eseq ?_
  refine HT.seq ?_
  refine HT.drawn mixed (St.closed _ _ _ _) (St w [] [⟨b8, 146, [some (.slice (cutA A5 c5 0) (n - 0) (c5 - 0)), some (.slice none 0 0), some (.int .u8 ((((nb bs 0) &&& 224) / 32 : Nat) : Int)), some (.int .u8 (((nb bs 0) &&& 31 : Nat) : Int)), some (.int .u8 ((((nb bs 1) &&& 192) / 64 : Nat) : Int)), some (.bool (decide ((nb bs 1) &&& 32 ≠ 0))), some (.bool (decide ((nb bs 1) &&& 16 ≠ 0))), some (.bool (decide ((nb bs 1) &&& 8 ≠ 0))), some (.bool false), some (.bool (decide ((nb bs 1) &&& 2 ≠ 0))), some (.bool (decide ((nb bs 1) &&& 1 ≠ 0))), some (.int .u8 ((nb bs 2 : Nat) : Int)), some (.int .u32 ((bN bs 4 4 : Nat) : Int)), some (.int .u32 ((bN bs 8 4 : Nat) : Int)), some (.int .u32 ((bN bs 12 4 : Nat) : Int)), some (.int .u32 ((bN bs 16 4 : Nat) : Int)), some (.int .u32 ((bN bs 20 4 : Nat) : Int)), some (.pointer none)], false⟩, ⟨b4, 29, [some (.slice none 0 0), some (.slice none 0 0), some (.slice none 0 0), some (.slice none 0 0)], true⟩, ⟨b50, 29, [none, some (.slice none 0 0), some (.slice none 0 0), some (.slice none 0 0)], true⟩] [Byt A5 n c5 bs]) ?_
  refine dtake (f := 4) [0, 1, 2, 3, 4, 5, 6, 7, 8, 9, 10, 11, 12, 13, 14, 15, 16, 17, 18, 19, 20, 21, 22, 23, 24, 25, 26, 27, 28, 29, 30, 31, 32, 33, 34, 35, 36, 37, 38, 39, 40, 41, 42, 43, 44, 45, 46, 47, 48, 49, 50, 51, 52, 53, 54, 55, 56, 57, 58, 59, 60, 61, 62, 63, 64, 65, 66, 67, 68, 69, 70, 71, 72, 73, 74, 75] (by kernel_rfl) (St.closed _ _ _ _) (fun _ h => (h.wk [(0, []), (1, []), (2, [0])] rfl)) (by kernel_rfl) ?_
  refine dq rfl (q_move rfl) ?_
  refine dq rfl (q_move rfl) ?_
  refine dq rfl (q_nil rfl) ?_
  refine dq rfl (q_field (b := b8) (off := 0) rfl fo_146_1) ?_
  refine dq rfl (q_load (b := b8) (off := 2) (j := 0) rfl nagg_138 (fun _ h => h) rfl rfl rfl) ?_
  refine dq rfl (q_convn (p := ((nb bs 0) &&& 224) / 32) rfl Tryz.underlying138 Tryz.underlying39 (show ((nb bs 0) &&& 224) / 32 < 18446744073709551616 by have := nb_lt bs 0; have := Nat.and_le_left (n := nb bs 0) (m := 224); have := Nat.and_le_right (n := nb bs 0) (m := 224); omega)) ?_
  refine dq rfl (q_move rfl) ?_
  refine dq rfl (q_nil rfl) ?_
  refine dq rfl (q_field (b := b8) (off := 0) rfl fo_146_2) ?_
  refine dq rfl (q_load (b := b8) (off := 3) (j := 0) rfl nagg_139 (fun _ h => h) rfl rfl rfl) ?_
  refine dq rfl (q_convn (p := (nb bs 0) &&& 31) rfl Tryz.underlying139 Tryz.underlying39 (show (nb bs 0) &&& 31 < 18446744073709551616 by have := nb_lt bs 0; have := zm31 (nb bs 0); have := Nat.and_le_left (n := nb bs 0) (m := 31); have := Nat.and_le_right (n := nb bs 0) (m := 31); omega)) ?_
  refine dq rfl (q_move rfl) ?_
  refine dq rfl (q_nil rfl) ?_
  refine dq rfl (q_field (b := b8) (off := 0) rfl fo_146_3) ?_
  refine dq rfl (q_load (b := b8) (off := 4) (j := 0) rfl nagg_140 (fun _ h => h) rfl rfl rfl) ?_
  refine dq rfl (q_convn (p := ((nb bs 1) &&& 192) / 64) rfl Tryz.underlying140 Tryz.underlying39 (show ((nb bs 1) &&& 192) / 64 < 18446744073709551616 by have := nb_lt bs 1; have := Nat.and_le_left (n := nb bs 1) (m := 192); have := Nat.and_le_right (n := nb bs 1) (m := 192); omega)) ?_
  refine dq rfl (q_move rfl) ?_
  refine dq rfl (q_nil rfl) ?_
  refine dq rfl (q_field (b := b8) (off := 0) rfl fo_146_4) ?_
  refine dq rfl (q_load (b := b8) (off := 5) (j := 0) rfl nagg_4 (fun _ h => h) rfl rfl rfl) ?_
  refine dq rfl (q_call (vs := [(.bool (decide ((nb bs 1) &&& 32 ≠ 0)))]) (v := (.int .u64 ((bitN (decide ((nb bs 1) &&& 32 ≠ 0)) : Nat) : Int))) rfl ca_61 (fun w h => bitC w (decide ((nb bs 1) &&& 32 ≠ 0))  (St.enter (sp := []) (Kc := []) (bi := []) h rfl rfl rfl))) ?_
  refine dq rfl (q_move rfl) ?_
  refine dq rfl (q_nil rfl) ?_
  refine dq rfl (q_field (b := b8) (off := 0) rfl fo_146_5) ?_
  refine dq rfl (q_load (b := b8) (off := 6) (j := 0) rfl nagg_4 (fun _ h => h) rfl rfl rfl) ?_
  refine dq rfl (q_call (vs := [(.bool (decide ((nb bs 1) &&& 16 ≠ 0)))]) (v := (.int .u64 ((bitN (decide ((nb bs 1) &&& 16 ≠ 0)) : Nat) : Int))) rfl ca_61 (fun w h => bitC w (decide ((nb bs 1) &&& 16 ≠ 0))  (St.enter (sp := []) (Kc := []) (bi := []) h rfl rfl rfl))) ?_
  refine dq rfl (q_move rfl) ?_
  refine dq rfl (q_nil rfl) ?_
  refine dq rfl (q_field (b := b8) (off := 0) rfl fo_146_6) ?_
  refine dq rfl (q_load (b := b8) (off := 7) (j := 0) rfl nagg_4 (fun _ h => h) rfl rfl rfl) ?_
  refine dq rfl (q_call (vs := [(.bool (decide ((nb bs 1) &&& 8 ≠ 0)))]) (v := (.int .u64 ((bitN (decide ((nb bs 1) &&& 8 ≠ 0)) : Nat) : Int))) rfl ca_61 (fun w h => bitC w (decide ((nb bs 1) &&& 8 ≠ 0))  (St.enter (sp := []) (Kc := []) (bi := []) h rfl rfl rfl))) ?_
  refine dq rfl (q_move rfl) ?_
  refine dq rfl (q_nil rfl) ?_
  refine dq rfl (q_field (b := b8) (off := 0) rfl fo_146_7) ?_
  refine dq rfl (q_load (b := b8) (off := 8) (j := 0) rfl nagg_4 (fun _ h => h) rfl rfl rfl) ?_
  refine dq rfl (q_call (vs := [(.bool false)]) (v := (.int .u64 ((bitN false : Nat) : Int))) rfl ca_61 (fun w h => bitC w false  (St.enter (sp := []) (Kc := []) (bi := []) h rfl rfl rfl))) ?_
  refine dq rfl (q_move rfl) ?_
  refine dq rfl (q_nil rfl) ?_
  refine dq rfl (q_field (b := b8) (off := 0) rfl fo_146_8) ?_
  refine dq rfl (q_load (b := b8) (off := 9) (j := 0) rfl nagg_4 (fun _ h => h) rfl rfl rfl) ?_
  refine dq rfl (q_call (vs := [(.bool (decide ((nb bs 1) &&& 2 ≠ 0)))]) (v := (.int .u64 ((bitN (decide ((nb bs 1) &&& 2 ≠ 0)) : Nat) : Int))) rfl ca_61 (fun w h => bitC w (decide ((nb bs 1) &&& 2 ≠ 0))  (St.enter (sp := []) (Kc := []) (bi := []) h rfl rfl rfl))) ?_
  refine dq rfl (q_move rfl) ?_
  refine dq rfl (q_nil rfl) ?_
  refine dq rfl (q_field (b := b8) (off := 0) rfl fo_146_9) ?_
  refine dq rfl (q_load (b := b8) (off := 10) (j := 0) rfl nagg_4 (fun _ h => h) rfl rfl rfl) ?_
  refine dq rfl (q_call (vs := [(.bool (decide ((nb bs 1) &&& 1 ≠ 0)))]) (v := (.int .u64 ((bitN (decide ((nb bs 1) &&& 1 ≠ 0)) : Nat) : Int))) rfl ca_61 (fun w h => bitC w (decide ((nb bs 1) &&& 1 ≠ 0))  (St.enter (sp := []) (Kc := []) (bi := []) h rfl rfl rfl))) ?_
  refine dq rfl (q_move rfl) ?_
  refine dq rfl (q_nil rfl) ?_
  refine dq rfl (q_field (b := b8) (off := 0) rfl fo_146_10) ?_
  refine dq rfl (q_load (b := b8) (off := 11) (j := 0) rfl nagg_141 (fun _ h => h) rfl rfl rfl) ?_
  refine dq rfl (q_convn (p := nb bs 2) rfl Tryz.underlying141 Tryz.underlying39 (show nb bs 2 < 18446744073709551616 by have := nb_lt bs 2; omega)) ?_
  refine dq rfl (q_move rfl) ?_
  refine dq rfl (q_nil rfl) ?_
  refine dq rfl (q_field (b := b8) (off := 0) rfl fo_146_11) ?_
  refine dq rfl (q_load (b := b8) (off := 12) (j := 0) rfl nagg_142 (fun _ h => h) rfl rfl rfl) ?_
  refine dq rfl (q_convn (p := bN bs 4 4) rfl Tryz.underlying142 Tryz.underlying39 (show bN bs 4 4 < 18446744073709551616 by have := bN_lt bs 4 4 4294967296 rfl; omega)) ?_
  refine dq rfl (q_move rfl) ?_
  refine dq rfl (q_nil rfl) ?_
  refine dq rfl (q_field (b := b8) (off := 0) rfl fo_146_12) ?_
  refine dq rfl (q_load (b := b8) (off := 13) (j := 0) rfl nagg_142 (fun _ h => h) rfl rfl rfl) ?_
  refine dq rfl (q_convn (p := bN bs 8 4) rfl Tryz.underlying142 Tryz.underlying39 (show bN bs 8 4 < 18446744073709551616 by have := bN_lt bs 8 4 4294967296 rfl; omega)) ?_
  refine dq rfl (q_move rfl) ?_
  refine dq rfl (q_nil rfl) ?_
  refine dq rfl (q_field (b := b8) (off := 0) rfl fo_146_13) ?_
  refine dq rfl (q_load (b := b8) (off := 14) (j := 0) rfl nagg_143 (fun _ h => h) rfl rfl rfl) ?_
  refine dq rfl (q_convn (p := bN bs 12 4) rfl Tryz.underlying143 Tryz.underlying39 (show bN bs 12 4 < 18446744073709551616 by have := bN_lt bs 12 4 4294967296 rfl; omega)) ?_
  refine dq rfl (q_move rfl) ?_
  refine dq rfl (q_nil rfl) ?_
  refine dq rfl (q_field (b := b8) (off := 0) rfl fo_146_14) ?_
  refine dq rfl (q_load (b := b8) (off := 15) (j := 0) rfl nagg_143 (fun _ h => h) rfl rfl rfl) ?_
  refine dq rfl (q_convn (p := bN bs 16 4) rfl Tryz.underlying143 Tryz.underlying39 (show bN bs 16 4 < 18446744073709551616 by have := bN_lt bs 16 4 4294967296 rfl; omega)) ?_
  refine dq rfl (q_move rfl) ?_
  refine dq rfl (q_nil rfl) ?_
  refine dq rfl (q_field (b := b8) (off := 0) rfl fo_146_15) ?_
  refine dq rfl (q_load (b := b8) (off := 16) (j := 0) rfl nagg_143 (fun _ h => h) rfl rfl rfl) ?_
  refine dq rfl (q_convn (p := bN bs 20 4) rfl Tryz.underlying143 Tryz.underlying39 (show bN bs 20 4 < 18446744073709551616 by have := bN_lt bs 20 4 4294967296 rfl; omega)) ?_
  refine QL.nil ?_
  refine RG.step1 76 (by kernel_rfl) ?_
  refine dop rfl (l_buildSlice (e := 39) (vs := [(0, (.int .u64 ((((nb bs 0) &&& 224) / 32 : Nat) : Int))), (1, (.int .u64 (((nb bs 0) &&& 31 : Nat) : Int))), (2, (.int .u64 ((((nb bs 1) &&& 192) / 64 : Nat) : Int))), (3, (.int .u64 ((bitN (decide ((nb bs 1) &&& 32 ≠ 0)) : Nat) : Int))), (4, (.int .u64 ((bitN (decide ((nb bs 1) &&& 16 ≠ 0)) : Nat) : Int))), (5, (.int .u64 ((bitN (decide ((nb bs 1) &&& 8 ≠ 0)) : Nat) : Int))), (6, (.int .u64 ((bitN false : Nat) : Int))), (7, (.int .u64 ((bitN (decide ((nb bs 1) &&& 2 ≠ 0)) : Nat) : Int))), (8, (.int .u64 ((bitN (decide ((nb bs 1) &&& 1 ≠ 0)) : Nat) : Int))), (9, (.int .u64 ((nb bs 2 : Nat) : Int))), (10, (.int .u64 ((bN bs 4 4 : Nat) : Int))), (11, (.int .u64 ((bN bs 8 4 : Nat) : Int))), (12, (.int .u64 ((bN bs 12 4 : Nat) : Int))), (13, (.int .u64 ((bN bs 16 4 : Nat) : Int))), (14, (.int .u64 ((bN bs 20 4 : Nat) : Int)))]) (cs := [(.int .u64 ((((nb bs 0) &&& 224) / 32 : Nat) : Int)), (.int .u64 (((nb bs 0) &&& 31 : Nat) : Int)), (.int .u64 ((((nb bs 1) &&& 192) / 64 : Nat) : Int)), (.int .u64 ((bitN (decide ((nb bs 1) &&& 32 ≠ 0)) : Nat) : Int)), (.int .u64 ((bitN (decide ((nb bs 1) &&& 16 ≠ 0)) : Nat) : Int)), (.int .u64 ((bitN (decide ((nb bs 1) &&& 8 ≠ 0)) : Nat) : Int)), (.int .u64 ((bitN false : Nat) : Int)), (.int .u64 ((bitN (decide ((nb bs 1) &&& 2 ≠ 0)) : Nat) : Int)), (.int .u64 ((bitN (decide ((nb bs 1) &&& 1 ≠ 0)) : Nat) : Int)), (.int .u64 ((nb bs 2 : Nat) : Int)), (.int .u64 ((bN bs 4 4 : Nat) : Int)), (.int .u64 ((bN bs 8 4 : Nat) : Int)), (.int .u64 ((bN bs 12 4 : Nat) : Int)), (.int .u64 ((bN bs 16 4 : Nat) : Int)), (.int .u64 ((bN bs 20 4 : Nat) : Int))]) (by decide) rfl (fun _ => by kernel_rfl) fun b747 => ⟨(fun _ h => (h.wk [(0, []), (1, []), (2, [0])] rfl)), ?_⟩)
  refine dtake (f := 1) [77, 78] (by kernel_rfl) (St.closed _ _ _ _) (fun _ h => (h.wk [(0, []), (1, []), (2, [0])] rfl)) (by kernel_rfl) ?_
  refine dq rfl (q_nil rfl) ?_
  refine dq rfl (q_field (b := b50) (off := 0) rfl fo_29_0) ?_
  refine QL.nil ?_
  refine RG.step1 79 (by kernel_rfl) ?_
  refine dop rfl (l_store (b := b50) (off := 0) (j := 2) rfl rfl nagg_25 rfl rfl rfl rfl (dlt rfl) ⟨(fun _ h => (h.wk [(0, []), (1, []), (2, [0])] rfl)), ?_⟩)
  refine dend (by kernel_rfl) ?_
  refine eseq ?_
  refine HT.seq ?_
  refine HT.plain ?_
  refine sMv rfl rfl ?_
  refine sqS (q_nil rfl) rfl ?_
  refine sqS (q_field (b := b8) (off := 0) rfl fo_146_16) rfl ?_
  refine sqS (q_load (b := b8) (off := 17) (j := 0) rfl nagg_144 (fun _ h => h) rfl rfl rfl) rfl ?_
  refine sAs rfl rfl ?_
  refine send ?_
  refine eseq ?_
  refine HT.seq ?_
  refine HT.plain ?_
  refine sMv rfl rfl ?_
  refine sqS (q_ptrIsNil rfl rfl Tryz.underlying144) rfl ?_
  refine send ?_
  refine eseq ?_
  refine HT.no rfl ?_
  refine HT.skip ?_
  refine ein ?_
  refine eseq ?_
  refine HT.seq ?_
  refine HT.plain ?_
  refine sMv rfl rfl ?_
  refine sqS (q_nil rfl) rfl ?_
  refine sqS (q_loadAgg (b := b50) (off := 0) (j := 2) (vs := [(.slice (some ⟨b747, 0, none⟩) 15 15), (.slice none 0 0), (.slice none 0 0), (.slice none 0 0)]) rfl aggs_29 (fun _ h => h) rfl rfl rfl) rfl ?_
  refine sl_ (l_storeAgg (b := b4) (off := 0) (j := 1) (vs := [(.slice (some ⟨b747, 0, none⟩) 15 15), (.slice none 0 0), (.slice none 0 0), (.slice none 0 0)]) rfl rfl aggs_29 (by simp [Value.one1]) rfl rfl rfl (Nat.le_of_ble_eq_true rfl) ?_)
  refine sAs rfl rfl ?_
  refine send ?_
  refine eseq ?_
  refine HT.ret ?_
  have hDD := bfd_D3 A5 n c5 bs b8 hn ha hb hc
  exact fun a ha w' hw => fin_ ha (resc2 ha Tryz.results47 rfl (ld_ aggs_29 hw (j := 1) rfl rfl (vs := [(.slice (some ⟨b747, 0, none⟩) 15 15), (.slice none 0 0), (.slice none 0 0), (.slice none 0 0)]) rfl) rfl) ⟨⟨⟨some ⟨b747, 0, none⟩, 15, 15, [((nb bs 0) &&& 224) / 32, (nb bs 0) &&& 31, ((nb bs 1) &&& 192) / 64, bitN (decide ((nb bs 1) &&& 32 ≠ 0)), bitN (decide ((nb bs 1) &&& 16 ≠ 0)), bitN (decide ((nb bs 1) &&& 8 ≠ 0)), bitN false, bitN (decide ((nb bs 1) &&& 2 ≠ 0)), bitN (decide ((nb bs 1) &&& 1 ≠ 0)), nb bs 2, bN bs 4 4, bN bs 8 4, bN bs 12 4, bN bs 16 4, bN bs 20 4]⟩, none, 0, 0, [], none, 0, 0, [], ⟨none, 0, 0, []⟩⟩, rfl, hw.pres, Own.lay (all1 (Own.cel hw (j := 3) (sz := 1) (r := []) rfl rfl rfl rfl (Nat.le_refl _)) (all1 (Own.nilCel 1) (all1 (Own.nilCel 2) (all1 Own.nilByt all0)))), hDD⟩

theorem bfd_I3 (w : World) (A : Option Addr) (n : Nat) (c : Nat) (bs : List UInt8) (hn : n ≤ 400) (ha : 24 ≤ n) (hb : nb bs 3 = n) (hc : nb bs 1 / 4 % 2 = 0) (hst : St w [] [] [Byt A n c bs] w) : Calls Tryz.prog 27 #[(.string ⟨#[98, 102, 100]⟩), (.slice A n c)] w (IP w (Byt A n c bs) (some (some ⟨[(nb bs 0) / 32, (nb bs 0) &&& 31, (nb bs 1) / 64, ((nb bs 1) / 32) &&& 1, ((nb bs 1) / 16) &&& 1, ((nb bs 1) / 8) &&& 1, ((nb bs 1) / 4) &&& 1, ((nb bs 1) / 2) &&& 1, ((nb bs 1) / 1) &&& 1, nb bs 2, bN bs 4 4, bN bs 8 4, bN bs 12 4, bN bs 16 4, bN bs 20 4], [], [], []⟩))) := by
  have hnc00 : n ≤ c := (hst.fact (j := 0) rfl).2.1
  refine enter (vs := [(.string ⟨#[98, 102, 100]⟩), (.slice A n c)]) Tryz.func27 rfl rfl rfl hst ?_
  refine HT.seq ?_
  refine HT.plain ?_
  refine sl_ (l_alloc (by decide) zero_29 fun b4 => ?_)
  refine sAs rfl rfl ?_
  refine send ?_
  refine eseq ?_
  refine HT.seq ?_
  refine HT.plain ?_
  refine sMv rfl rfl ?_
  refine sMv rfl rfl ?_
  refine sl_ (l_callX3 (vs := [(.string ⟨#[98, 102, 100]⟩), (.slice A n c)]) (Kc := []) (Bc := [Byt A n c bs]) [] [0] [Byt A n c bs] (fun b8 A5 c5 => [⟨b4, 29, [some (.slice none 0 0), some (.slice none 0 0), some (.slice none 0 0), some (.slice none 0 0)], true⟩, ⟨b8, 146, [some (.slice (cutA A5 c5 0) (n - 0) (c5 - 0)), some (.slice none 0 0), some (.int .u8 ((((nb bs 0) &&& 224) / 32 : Nat) : Int)), some (.int .u8 (((nb bs 0) &&& 31 : Nat) : Int)), some (.int .u8 ((((nb bs 1) &&& 192) / 64 : Nat) : Int)), some (.bool (decide ((nb bs 1) &&& 32 ≠ 0))), some (.bool (decide ((nb bs 1) &&& 16 ≠ 0))), some (.bool (decide ((nb bs 1) &&& 8 ≠ 0))), some (.bool false), some (.bool (decide ((nb bs 1) &&& 2 ≠ 0))), some (.bool (decide ((nb bs 1) &&& 1 ≠ 0))), some (.int .u8 ((nb bs 2 : Nat) : Int)), some (.int .u32 ((bN bs 4 4 : Nat) : Int)), some (.int .u32 ((bN bs 8 4 : Nat) : Int)), some (.int .u32 ((bN bs 12 4 : Nat) : Int)), some (.int .u32 ((bN bs 16 4 : Nat) : Int)), some (.int .u32 ((bN bs 20 4 : Nat) : Int)), some (.pointer none)], true⟩]) (fun b8 A5 c5 => [Byt A n c bs, Byt A5 n c5 bs]) (by decide) rfl ca_46 (fun _ h => h) rfl rfl rfl rfl (fun w h => bfd_e3 w A n c bs (by omega) (by omega) (by omega) (by omega) h) (fun _ _ _ => rfl) (fun _ _ _ => rfl) (fun _ _ _ => rfl) (fun _ _ _ => rfl) fun b8 A5 c5 hf1 he2 => ?_)
  have hnc3 : n ≤ c5 := by obtain ⟨w, h⟩ := he2; exact (h _ List.mem_cons_self).2.1
  refine sMv rfl rfl ?_
  refine sqS (q_extract (vs := [(.iface 137 (.pointer (some ⟨b8, 0, none⟩))), (.bool true)]) (i := 0) rfl rfl) rfl ?_
  refine sqS (q_extract (vs := [(.iface 137 (.pointer (some ⟨b8, 0, none⟩))), (.bool true)]) (i := 1) rfl rfl) rfl ?_
  refine sAs rfl rfl ?_
  refine sAs rfl rfl ?_
  refine send ?_
  refine eseq ?_
  refine HT.seq ?_
  refine HT.seq ?_
  refine HT.plain ?_
  refine sMv rfl rfl ?_
  refine sqS (q_not rfl) rfl ?_
  refine send ?_
  refine eseq ?_
  refine HT.no rfl ?_
  refine HT.skip ?_
  refine eseq ?_
  refine HT.seq ?_
  refine HT.plain ?_
  refine sMv rfl rfl ?_
  refine sMv rfl rfl ?_
  refine sqS (q_invoke (vs := []) (v := (.slice none 0 0)) rfl (fun w => me_137_LayerPayload _ w) rfl ca_120 (fun w h => layPay0 w b8 146 _ _ _ (h.ro (j := 1) rfl))) rfl ?_
  refine sl_ (l_callLay (vs := [(.iface 137 (.pointer (some ⟨b8, 0, none⟩))), (.slice none 0 0)]) (tup := fun L => .tuple #[L.val, .bool true]) 1 (by decide) rfl ca_47 rfl (fun w h => bfd_t3 w A5 n c5 bs b8 (by omega) (by omega) (by omega) (by omega) (h.ro2 (j := 1) rfl (bi := [1]) rfl)) fun L20 hfr hda hoL => ?_)
  refine sqS (q_extract (vs := [(.agg #[(L20.nums.val), (.slice L20.dA L20.dn L20.dc), (.slice L20.pA L20.pn L20.pc), (L20.pay.val)]), (.bool true)]) (i := 0) rfl rfl) rfl ?_
  refine sqS (q_extract (vs := [(.agg #[(L20.nums.val), (.slice L20.dA L20.dn L20.dc), (.slice L20.pA L20.pn L20.pc), (L20.pay.val)]), (.bool true)]) (i := 1) rfl rfl) rfl ?_
  refine sl_ (l_storeAgg (b := b4) (off := 0) (j := 0) (vs := [(L20.nums.val), (.slice L20.dA L20.dn L20.dc), (.slice L20.pA L20.pn L20.pc), (L20.pay.val)]) rfl rfl aggs_29 (by simp [Value.one1]) rfl rfl rfl (Nat.le_of_ble_eq_true rfl) ?_)
  refine sAs rfl rfl ?_
  refine send ?_
  refine eseq ?_
  refine HT.ret ?_
  exact fun a ha w' hw => fin_ ha (resc2 ha Tryz.results27 rfl (ld_ aggs_29 hw (j := 0) rfl rfl (vs := [(L20.nums.val), (.slice L20.dA L20.dn L20.dc), (.slice L20.pA L20.pn L20.pc), (L20.pay.val)]) rfl) rfl) ⟨L20, rfl, hw.pres, ⟨hw.fact (j := 2) rfl, fun i hi => (hfr i hi).elim .inl (fun h => .inl ((hf1 _ List.mem_cons_self) i h))⟩, hda⟩
end Go.Proofs.YtfkaafbeeegenaaGreat.Zed
