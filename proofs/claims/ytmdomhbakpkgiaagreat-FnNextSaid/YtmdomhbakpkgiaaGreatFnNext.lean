/- FnNext -/
import Derived.Test.YtmdomhbakpkgiaaGreatNext0
import Derived.KernelRfl
namespace Go.Proofs.YtmdomhbakpkgiaaGreat.Zed
set_option linter.unusedVariables false
set_option linter.unusedSimpArgs false
set_option maxRecDepth 100000
set_option maxHeartbeats 4000000
theorem ca_4 : callable Tryz.prog 4 = true := by kernel_rfl
theorem size_5 : (Tryz.prog.info? 5).map (·.size) = some 1 := by kernel_rfl
theorem ca_5 : callable Tryz.prog 5 = true := by kernel_rfl

theorem cloneKS (w : World) (a : Addr) (n : Nat) (c : Nat) (bs : List UInt8) (hn : n ≤ 2147483647) (h0 : 0 < n) (hst : St w [] [] [Byt (some a) n c bs] w) : Calls Tryz.prog 4 #[(.slice (some a) n c)] w (CP w [] [Byt (some a) n c bs] (ι := {p : Nat × Nat × List (Option Value) // n ≤ p.2.1}) (fun p => (.slice (some ⟨p.1.1, 0, none⟩) n p.1.2.1)) (fun p => [⟨p.1.1, 5, cb bs ++ p.1.2.2, true⟩]) (fun _ => [])) := by
  have hnc00 : n ≤ c := (hst.fact (j := 0) rfl).2.1
  refine enter (vs := [(.slice (some a) n c)]) Tryz.func4 rfl rfl rfl hst ?_
  refine HT.seq ?_
  refine HT.plain ?_
  refine sq (St.closed _ _ _ _) (q_assign rfl) rfl ?_
  refine send ?_
  refine eseq ?_
  refine HT.seq ?_
  refine HT.seq ?_
  refine HT.plain ?_
  refine sq (St.closed _ _ _ _) (q_move rfl) rfl ?_
  refine sq (St.closed _ _ _ _) (q_eqNil rfl rfl Tryz.underlying22 (r := false) rfl) rfl ?_
  refine send ?_
  refine eseq ?_
  refine HT.no rfl ?_
  refine HT.skip ?_
  refine eseq ?_
  refine HT.seq ?_
  refine HT.plain ?_
  refine sl_ (l_buildSlice (e := 5) (vs := []) (cs := []) (by decide) rfl (fun _ => by kernel_rfl) fun b5 => ?_)
  refine sq (St.closed _ _ _ _) (q_move rfl) rfl ?_
  refine sl_ (l_append1K (by decide) rfl rfl Tryz.underlying22 byteT_5 (q := 0) (j := 0) rfl rfl (by omega) (by omega) fun i7 => ?_)
  refine sq (St.closed _ _ _ _) (q_assign rfl) rfl ?_
  refine send ?_
  refine eseq ?_
  refine HT.ret ?_
  exact fun a ha w' hw => fin_ ha (res1 ha Tryz.results4 rfl) ⟨i7, rfl, hw, fr0⟩

theorem cloneK (w : World) (A : Option Addr) (n : Nat) (c : Nat) (bs : List UInt8) (hn : n ≤ 2147483647) (h0 : 0 < n) (hst : St w [] [] [Byt A n c bs] w) : Calls Tryz.prog 4 #[(.slice A n c)] w (CP w [] [Byt A n c bs] (ι := {p : Nat × Nat × List (Option Value) // n ≤ p.2.1}) (fun p => (.slice (some ⟨p.1.1, 0, none⟩) n p.1.2.1)) (fun p => [⟨p.1.1, 5, cb bs ++ p.1.2.2, true⟩]) (fun _ => [])) := by
  cases A with
  | none =>
    have hb := hst.fact (j := 0) rfl
    have e : bs = [] := Classical.byContradiction fun h => by obtain ⟨_, hA, _⟩ := hb.2.2 h; cases hA
    have := hb.1
    rw [e] at this
    exact absurd this (by simp; omega)
  | some a => exact cloneKS w a n c bs hn h0 hst

theorem fnNextB (w : World) (A : Option Addr) (n : Nat) (c : Nat) (bs : List UInt8) (six : Bool) (hn : 2147483647 < n) (hst : St w [] [] [Byt A n c bs] w) : Calls Tryz.prog 3 #[(.slice A n c), (.bool six)] w (fun e w' => e = .returned (.bool true) ∧ Pres [] w w') := by
  have hnc00 : n ≤ c := (hst.fact (j := 0) rfl).2.1
  refine enter (vs := [(.slice A n c), (.bool six)]) Tryz.func3 rfl rfl rfl hst ?_
  refine HT.seq ?_
  refine HT.plain ?_
  refine sq (St.closed _ _ _ _) (q_assign rfl) rfl ?_
  refine send ?_
  refine eseq ?_
  refine HT.seq ?_
  refine HT.seq ?_
  refine HT.plain ?_
  refine sq (St.closed _ _ _ _) (q_move rfl) rfl ?_
  refine sq (St.closed _ _ _ _) (q_len (len := n) rfl Tryz.underlying22) rfl ?_
  refine sq (St.closed _ _ _ _) (q_T (q_gt (p := n) (q := 2147483647) rfl rfl) (by omega)) rfl ?_
  refine send ?_
  refine eseq ?_
  refine HT.yes rfl ?_
  refine HT.seq ?_
  refine HT.plain ?_
  refine sq (St.closed _ _ _ _) (q_assign rfl) rfl ?_
  refine send ?_
  refine eseq ?_
  refine HT.ret ?_
  refine rt_then ?_
  exact fun a ha w' hw => fin_ ha (res1 ha Tryz.results3 rfl) ⟨rfl, hw.pres⟩

theorem fnNextH (w : World) (A : Option Addr) (n : Nat) (c : Nat) (bs : List UInt8) (six : Bool) (hn : n ≤ 2147483647) (ha : 100 < n) (hst : St w [] [] [Byt A n c bs] w) : Calls Tryz.prog 3 #[(.slice A n c), (.bool six)] w (fun e w' => e = .returned (.bool true) ∧ Pres [] w w') := by
  have hnc00 : n ≤ c := (hst.fact (j := 0) rfl).2.1
  refine enter (vs := [(.slice A n c), (.bool six)]) Tryz.func3 rfl rfl rfl hst ?_
  refine HT.seq ?_
  refine HT.plain ?_
  refine sq (St.closed _ _ _ _) (q_assign rfl) rfl ?_
  refine send ?_
  refine eseq ?_
  refine HT.seq ?_
  refine HT.seq ?_
  refine HT.plain ?_
  refine sq (St.closed _ _ _ _) (q_move rfl) rfl ?_
  refine sq (St.closed _ _ _ _) (q_len (len := n) rfl Tryz.underlying22) rfl ?_
  refine sq (St.closed _ _ _ _) (q_F (q_gt (p := n) (q := 2147483647) rfl rfl) (by omega)) rfl ?_
  refine send ?_
  refine eseq ?_
  refine HT.no rfl ?_
  refine HT.skip ?_
  refine eseq ?_
  refine HT.seq ?_
  refine HT.seq ?_
  refine HT.plain ?_
  refine sq (St.closed _ _ _ _) (q_move rfl) rfl ?_
  refine sq (St.closed _ _ _ _) (q_len (len := n) rfl Tryz.underlying22) rfl ?_
  refine sq (St.closed _ _ _ _) (q_T (q_gt (p := n) (q := 100) rfl rfl) (by omega)) rfl ?_
  refine sq (St.closed _ _ _ _) (q_move rfl) rfl ?_
  refine sskip rfl rfl ?_
  refine sskip rfl rfl ?_
  refine sskip rfl rfl ?_
  refine sq (St.closed _ _ _ _) (q_pick rfl (fun _ => rfl) (fun h => nomatch h)) rfl ?_
  refine send ?_
  refine eseq ?_
  refine HT.yes rfl ?_
  refine HT.seq ?_
  refine HT.plain ?_
  refine sq (St.closed _ _ _ _) (q_assign rfl) rfl ?_
  refine send ?_
  refine eseq ?_
  refine HT.ret ?_
  refine rt_then ?_
  exact fun a ha w' hw => fin_ ha (res1 ha Tryz.results3 rfl) ⟨rfl, hw.pres⟩

theorem fnNextL (w : World) (A : Option Addr) (n : Nat) (c : Nat) (bs : List UInt8) (six : Bool) (hn : n < 5) (hst : St w [] [] [Byt A n c bs] w) : Calls Tryz.prog 3 #[(.slice A n c), (.bool six)] w (fun e w' => e = .returned (.bool true) ∧ Pres [] w w') := by
  have hnc00 : n ≤ c := (hst.fact (j := 0) rfl).2.1
  refine enter (vs := [(.slice A n c), (.bool six)]) Tryz.func3 rfl rfl rfl hst ?_
  refine HT.seq ?_
  refine HT.plain ?_
  refine sq (St.closed _ _ _ _) (q_assign rfl) rfl ?_
  refine send ?_
  refine eseq ?_
  refine HT.seq ?_
  refine HT.seq ?_
  refine HT.plain ?_
  refine sq (St.closed _ _ _ _) (q_move rfl) rfl ?_
  refine sq (St.closed _ _ _ _) (q_len (len := n) rfl Tryz.underlying22) rfl ?_
  refine sq (St.closed _ _ _ _) (q_F (q_gt (p := n) (q := 2147483647) rfl rfl) (by omega)) rfl ?_
  refine send ?_
  refine eseq ?_
  refine HT.no rfl ?_
  refine HT.skip ?_
  refine eseq ?_
  refine HT.seq ?_
  refine HT.seq ?_
  refine HT.plain ?_
  refine sq (St.closed _ _ _ _) (q_move rfl) rfl ?_
  refine sq (St.closed _ _ _ _) (q_len (len := n) rfl Tryz.underlying22) rfl ?_
  refine sq (St.closed _ _ _ _) (q_F (q_gt (p := n) (q := 100) rfl rfl) (by omega)) rfl ?_
  refine sq (St.closed _ _ _ _) (q_move rfl) rfl ?_
  refine sgq (St.closed _ _ _ _) rfl (q_move rfl) rfl ?_
  refine sgq (St.closed _ _ _ _) rfl (q_len (len := n) rfl Tryz.underlying22) rfl ?_
  refine sgq (St.closed _ _ _ _) rfl (q_T (q_lt (p := n) (q := 5) rfl rfl) (by omega)) rfl ?_
  refine sq (St.closed _ _ _ _) (q_pick rfl (fun h => nomatch h) (fun _ => rfl)) rfl ?_
  refine send ?_
  refine eseq ?_
  refine HT.yes rfl ?_
  refine HT.seq ?_
  refine HT.plain ?_
  refine sq (St.closed _ _ _ _) (q_assign rfl) rfl ?_
  refine send ?_
  refine eseq ?_
  refine HT.ret ?_
  refine rt_then ?_
  exact fun a ha w' hw => fin_ ha (res1 ha Tryz.results3 rfl) ⟨rfl, hw.pres⟩

theorem fnNext4 (w : World) (A : Option Addr) (n : Nat) (c : Nat) (bs : List UInt8) (hn : n ≤ 100) (ha : 5 ≤ n) (hst : St w [] [] [Byt A n c bs] w) : Calls Tryz.prog 3 #[(.slice A n c), (.bool false)] w (fun e w' => e = .returned (.bool true) ∧ Pres [] w w') := by
  have hbl : n = bs.length := (hst.fact (j := 0) rfl).1
  have hnc00 : n ≤ c := (hst.fact (j := 0) rfl).2.1
  refine enter (vs := [(.slice A n c), (.bool false)]) Tryz.func3 rfl rfl rfl hst ?_
  refine HT.seq ?_
  refine HT.plain ?_
  refine sq (St.closed _ _ _ _) (q_assign rfl) rfl ?_
  refine send ?_
  refine eseq ?_
  refine HT.seq ?_
  refine HT.seq ?_
  refine HT.plain ?_
  refine sq (St.closed _ _ _ _) (q_move rfl) rfl ?_
  refine sq (St.closed _ _ _ _) (q_len (len := n) rfl Tryz.underlying22) rfl ?_
  refine sq (St.closed _ _ _ _) (q_F (q_gt (p := n) (q := 2147483647) rfl rfl) (by omega)) rfl ?_
  refine send ?_
  refine eseq ?_
  refine HT.no rfl ?_
  refine HT.skip ?_
  refine eseq ?_
  refine HT.seq ?_
  refine HT.seq ?_
  refine HT.plain ?_
  refine sq (St.closed _ _ _ _) (q_move rfl) rfl ?_
  refine sq (St.closed _ _ _ _) (q_len (len := n) rfl Tryz.underlying22) rfl ?_
  refine sq (St.closed _ _ _ _) (q_F (q_gt (p := n) (q := 100) rfl rfl) (by omega)) rfl ?_
  refine sq (St.closed _ _ _ _) (q_move rfl) rfl ?_
  refine sgq (St.closed _ _ _ _) rfl (q_move rfl) rfl ?_
  refine sgq (St.closed _ _ _ _) rfl (q_len (len := n) rfl Tryz.underlying22) rfl ?_
  refine sgq (St.closed _ _ _ _) rfl (q_F (q_lt (p := n) (q := 5) rfl rfl) (by omega)) rfl ?_
  refine sq (St.closed _ _ _ _) (q_pick rfl (fun h => nomatch h) (fun _ => rfl)) rfl ?_
  refine send ?_
  refine eseq ?_
  refine HT.no rfl ?_
  refine HT.skip ?_
  refine eseq ?_
  refine HT.seq ?_
  refine HT.plain ?_
  refine sq (St.closed _ _ _ _) (q_move rfl) rfl ?_
  refine sl_ (l_callX (ι := {p : Nat × Nat × List (Option Value) // n ≤ p.2.1}) (vs := [(.slice A n c)]) (Kc := []) (Bc := [Byt A n c bs]) [] [0] (K' := fun p => [⟨p.1.1, 5, cb bs ++ p.1.2.2, true⟩]) (by decide) rfl ca_4 rfl (fun _ h => h) rfl rfl rfl (fun w h => cloneK w A n c bs (by omega) (by omega) h) (fun _ => rfl) (fun _ => rfl) (fun _ => rfl) fun ⟨(q26, c26, r26), hc26⟩ _ _ => ?_)
  refine sq (St.closed _ _ _ _) (q_assign rfl) rfl ?_
  refine send ?_
  refine eseq ?_
  refine HT.seq ?_
  refine HT.plain ?_
  refine sq (St.closed _ _ _ _) (q_move rfl) rfl ?_
  refine sq (St.closed _ _ _ _) (q_indexK (b := q26) (i := 2) (sz := 1) rfl rfl Tryz.underlying22 size_5 (by omega)) rfl ?_
  refine sq (St.closed _ _ _ _) (q_loadB (b := q26) (i := 2) (j := 0) (bs := bs) rfl nagg_5 (fun _ h => h) rfl rfl rfl (by (try simp only [setb_length]); omega)) rfl ?_
  refine sq (St.closed _ _ _ _) (q_and (p := nb bs 2) (q := 254) rfl rfl rfl (show nb bs 2 < 256 by have := nb_lt bs 2; omega) (by decide)) rfl ?_
  refine sq (St.closed _ _ _ _) (q_indexK (b := q26) (i := 2) (sz := 1) rfl rfl Tryz.underlying22 size_5 (by omega)) rfl ?_
  refine sl_ (l_storeB (b := q26) (i := 2) (j := 0) (bs := bs) (r := r26) (K' := [⟨q26, 5, cb (setb bs 2 ((nb bs 2) &&& 254)) ++ r26, true⟩]) rfl rfl nagg_5 rfl rfl rfl rfl (by (try simp only [setb_length]); omega) (show (nb bs 2) &&& 254 < 256 by have := nb_lt bs 2; have := Nat.and_le_left (n := nb bs 2) (m := 254); have := Nat.and_le_right (n := nb bs 2) (m := 254); omega) rfl ?_)
  refine send ?_
  refine eseq ?_
  refine HT.seq ?_
  refine HT.plain ?_
  refine sq (St.closed _ _ _ _) (q_move rfl) rfl ?_
  refine sl_ (l_callX (ι := {p : Nat × Nat × List (Option Value) // n ≤ p.2.1}) (vs := [(.slice A n c)]) (Kc := []) (Bc := [Byt A n c bs]) [] [0] (K' := fun p => [⟨q26, 5, cb (setb bs 2 ((nb bs 2) &&& 254)) ++ r26, true⟩, ⟨p.1.1, 5, cb bs ++ p.1.2.2, true⟩]) (by decide) rfl ca_4 rfl (fun _ h => h) rfl rfl rfl (fun w h => cloneK w A n c bs (by omega) (by omega) h) (fun _ => rfl) (fun _ => rfl) (fun _ => rfl) fun ⟨(q33, c33, r33), hc33⟩ _ _ => ?_)
  refine sq (St.closed _ _ _ _) (q_assign rfl) rfl ?_
  refine send ?_
  refine eseq ?_
  refine HT.seq ?_
  refine HT.plain ?_
  refine sq (St.closed _ _ _ _) (q_move rfl) rfl ?_
  refine sq (St.closed _ _ _ _) (q_move rfl) rfl ?_
  refine sq (St.closed _ _ _ _) (q_indexK (b := q33) (i := 3) (sz := 1) rfl rfl Tryz.underlying22 size_5 (by omega)) rfl ?_
  refine sl_ (l_storeB (b := q33) (i := 3) (j := 1) (bs := bs) (r := r33) (K' := [⟨q26, 5, cb (setb bs 2 ((nb bs 2) &&& 254)) ++ r26, true⟩, ⟨q33, 5, cb (setb bs 3 8) ++ r33, true⟩]) rfl rfl nagg_5 rfl rfl rfl rfl (by (try simp only [setb_length]); omega) (show 8 < 256 by omega) rfl ?_)
  refine sq (St.closed _ _ _ _) (q_indexK (b := q33) (i := 4) (sz := 1) rfl rfl Tryz.underlying22 size_5 (by omega)) rfl ?_
  refine sl_ (l_storeB (b := q33) (i := 4) (j := 1) (bs := setb bs 3 8) (r := r33) (K' := [⟨q26, 5, cb (setb bs 2 ((nb bs 2) &&& 254)) ++ r26, true⟩, ⟨q33, 5, cb (setb (setb bs 3 8) 4 0) ++ r33, true⟩]) rfl rfl nagg_5 rfl rfl rfl rfl (by (try simp only [setb_length]); omega) (show 0 < 256 by omega) rfl ?_)
  refine send ?_
  refine eseq ?_
  refine HT.seq ?_
  refine HT.plain ?_
  refine sq (St.closed _ _ _ _) (q_assign rfl) rfl ?_
  refine send ?_
  refine eseq ?_
  refine HT.seq ?_
  refine HT.seq ?_
  refine HT.plain ?_
  refine sq (St.closed _ _ _ _) (q_move rfl) rfl ?_
  refine send ?_
  refine eseq ?_
  refine HT.no rfl ?_
  refine HT.skip ?_
  refine eseq ?_
  refine HT.seq ?_
  refine HT.plain ?_
  refine sq (St.closed _ _ _ _) (q_move rfl) rfl ?_
  refine sq (St.closed _ _ _ _) (q_call (vs := [(.string ⟨#[109, 112, 108, 115]⟩), (.slice (some ⟨q26, 0, none⟩) n c26)]) (v := (.tuple #[(.int .u64 ((24 : Nat) : Int)), (.bool true)])) rfl ca_5 (fun w h => nm0N w (some ⟨q26, 0, none⟩) n c26 (setb bs 2 ((nb bs 2) &&& 254)) (by omega) (by omega) (mp_even bs (by omega)) (h.bytr (j := 0) (bs := setb bs 2 ((nb bs 2) &&& 254)) rfl rfl (by (try simp only [setb_length]); omega) (by omega)))) rfl ?_
  refine sq (St.closed _ _ _ _) (q_move rfl) rfl ?_
  refine sq (St.closed _ _ _ _) (q_extract (vs := [(.int .u64 ((24 : Nat) : Int)), (.bool true)]) (i := 0) rfl rfl) rfl ?_
  refine sq (St.closed _ _ _ _) (q_extract (vs := [(.int .u64 ((24 : Nat) : Int)), (.bool true)]) (i := 1) rfl rfl) rfl ?_
  refine sq (St.closed _ _ _ _) (q_assign rfl) rfl ?_
  refine sq (St.closed _ _ _ _) (q_assign rfl) rfl ?_
  refine send ?_
  refine eseq ?_
  refine HT.seq ?_
  refine HT.plain ?_
  refine sq (St.closed _ _ _ _) (q_move rfl) rfl ?_
  refine sq (St.closed _ _ _ _) (q_indexK (b := q26) (i := 2) (sz := 1) rfl rfl Tryz.underlying22 size_5 (by omega)) rfl ?_
  refine sq (St.closed _ _ _ _) (q_loadB (b := q26) (i := 2) (j := 0) (bs := setb bs 2 ((nb bs 2) &&& 254)) rfl nagg_5 (fun _ h => h) rfl rfl rfl (by (try simp only [setb_length]); omega)) rfl ?_
  refine sq (St.closed _ _ _ _) (q_or (p := nb (setb bs 2 ((nb bs 2) &&& 254)) 2) (q := 1) rfl rfl rfl (show nb (setb bs 2 ((nb bs 2) &&& 254)) 2 < 256 by have := nb_lt (setb bs 2 ((nb bs 2) &&& 254)) 2; omega) (by decide)) rfl ?_
  refine sq (St.closed _ _ _ _) (q_indexK (b := q26) (i := 2) (sz := 1) rfl rfl Tryz.underlying22 size_5 (by omega)) rfl ?_
  refine sl_ (l_storeB (b := q26) (i := 2) (j := 0) (bs := setb bs 2 ((nb bs 2) &&& 254)) (r := r26) (K' := [⟨q26, 5, cb (setb (setb bs 2 ((nb bs 2) &&& 254)) 2 ((nb (setb bs 2 ((nb bs 2) &&& 254)) 2) ||| 1)) ++ r26, true⟩, ⟨q33, 5, cb (setb (setb bs 3 8) 4 0) ++ r33, true⟩]) rfl rfl nagg_5 rfl rfl rfl rfl (by (try simp only [setb_length]); omega) (show (nb (setb bs 2 ((nb bs 2) &&& 254)) 2) ||| 1 < 256 by have := nb_lt (setb bs 2 ((nb bs 2) &&& 254)) 2; have := or_lt_ (nb (setb bs 2 ((nb bs 2) &&& 254)) 2) 1 8 (by have := nb_lt (setb bs 2 ((nb bs 2) &&& 254)) 2; omega) (by omega); omega) rfl ?_)
  refine send ?_
  refine eseq ?_
  refine HT.seq ?_
  refine HT.plain ?_
  refine sq (St.closed _ _ _ _) (q_move rfl) rfl ?_
  refine sq (St.closed _ _ _ _) (q_call (vs := [(.string ⟨#[109, 112, 108, 115]⟩), (.slice (some ⟨q26, 0, none⟩) n c26)]) (v := (.tuple #[(.int .u64 ((24 : Nat) : Int)), (.bool false)])) rfl ca_5 (fun w h => nm1N w (some ⟨q26, 0, none⟩) n c26 (setb (setb bs 2 ((nb bs 2) &&& 254)) 2 ((nb (setb bs 2 ((nb bs 2) &&& 254)) 2) ||| 1)) (by omega) (by omega) (mp_odd (setb bs 2 ((nb bs 2) &&& 254)) (by (try simp only [setb_length]); omega)) (h.bytr (j := 0) (bs := setb (setb bs 2 ((nb bs 2) &&& 254)) 2 ((nb (setb bs 2 ((nb bs 2) &&& 254)) 2) ||| 1)) rfl rfl (by (try simp only [setb_length]); omega) (by omega)))) rfl ?_
  refine sq (St.closed _ _ _ _) (q_move rfl) rfl ?_
  refine sq (St.closed _ _ _ _) (q_extract (vs := [(.int .u64 ((24 : Nat) : Int)), (.bool false)]) (i := 0) rfl rfl) rfl ?_
  refine sq (St.closed _ _ _ _) (q_extract (vs := [(.int .u64 ((24 : Nat) : Int)), (.bool false)]) (i := 1) rfl rfl) rfl ?_
  refine sq (St.closed _ _ _ _) (q_assign rfl) rfl ?_
  refine sq (St.closed _ _ _ _) (q_assign rfl) rfl ?_
  refine send ?_
  refine eseq ?_
  refine HT.seq ?_
  refine HT.plain ?_
  refine sq (St.closed _ _ _ _) (q_move rfl) rfl ?_
  refine sq (St.closed _ _ _ _) (q_call (vs := [(.string ⟨#[115, 110, 97, 112]⟩), (.slice (some ⟨q33, 0, none⟩) n c33)]) (v := (.tuple #[(.int .u64 ((20 : Nat) : Int)), (.bool true)])) rfl ca_5 (fun w h => ns4N w (some ⟨q33, 0, none⟩) n c33 (setb (setb bs 3 8) 4 0) (by omega) (by omega) ((sn_num bs (by omega) 8 0 (by decide) (by decide)).trans rfl) (h.bytr (j := 1) (bs := setb (setb bs 3 8) 4 0) rfl rfl (by (try simp only [setb_length]); omega) (by omega)))) rfl ?_
  refine sq (St.closed _ _ _ _) (q_move rfl) rfl ?_
  refine sq (St.closed _ _ _ _) (q_extract (vs := [(.int .u64 ((20 : Nat) : Int)), (.bool true)]) (i := 0) rfl rfl) rfl ?_
  refine sq (St.closed _ _ _ _) (q_extract (vs := [(.int .u64 ((20 : Nat) : Int)), (.bool true)]) (i := 1) rfl rfl) rfl ?_
  refine sq (St.closed _ _ _ _) (q_assign rfl) rfl ?_
  refine sq (St.closed _ _ _ _) (q_assign rfl) rfl ?_
  refine send ?_
  refine eseq ?_
  refine HT.seq ?_
  refine HT.plain ?_
  refine sq (St.closed _ _ _ _) (q_move rfl) rfl ?_
  refine sq (St.closed _ _ _ _) (q_move rfl) rfl ?_
  refine sgq (St.closed _ _ _ _) rfl (q_move rfl) rfl ?_
  refine sgq (St.closed _ _ _ _) rfl (q_T (q_eq (p := 24) (q := 24) rfl rfl) (by decide)) rfl ?_
  refine sq (St.closed _ _ _ _) (q_pick rfl (fun _ => rfl) (fun h => nomatch h)) rfl ?_
  refine sq (St.closed _ _ _ _) (q_move rfl) rfl ?_
  refine sgq (St.closed _ _ _ _) rfl (q_move rfl) rfl ?_
  refine sgq (St.closed _ _ _ _) rfl (q_not rfl) rfl ?_
  refine sq (St.closed _ _ _ _) (q_pick rfl (fun _ => rfl) (fun h => nomatch h)) rfl ?_
  refine sq (St.closed _ _ _ _) (q_move rfl) rfl ?_
  refine sgq (St.closed _ _ _ _) rfl (q_move rfl) rfl ?_
  refine sq (St.closed _ _ _ _) (q_pick rfl (fun _ => rfl) (fun h => nomatch h)) rfl ?_
  refine sq (St.closed _ _ _ _) (q_move rfl) rfl ?_
  refine sgq (St.closed _ _ _ _) rfl (q_move rfl) rfl ?_
  refine sgq (St.closed _ _ _ _) rfl (q_move rfl) rfl ?_
  refine sgq (St.closed _ _ _ _) rfl (q_T (q_eq (p := 20) (q := 20) rfl rfl) (by decide)) rfl ?_
  refine sq (St.closed _ _ _ _) (q_pick rfl (fun _ => rfl) (fun h => nomatch h)) rfl ?_
  refine sq (St.closed _ _ _ _) (q_assign rfl) rfl ?_
  refine send ?_
  refine eseq ?_
  refine HT.ret ?_
  exact fun a ha w' hw => fin_ ha (res1 ha Tryz.results3 rfl) ⟨rfl, hw.pres⟩

theorem fnNext6 (w : World) (A : Option Addr) (n : Nat) (c : Nat) (bs : List UInt8) (hn : n ≤ 100) (ha : 5 ≤ n) (hst : St w [] [] [Byt A n c bs] w) : Calls Tryz.prog 3 #[(.slice A n c), (.bool true)] w (fun e w' => e = .returned (.bool true) ∧ Pres [] w w') := by
  have hbl : n = bs.length := (hst.fact (j := 0) rfl).1
  have hnc00 : n ≤ c := (hst.fact (j := 0) rfl).2.1
  refine enter (vs := [(.slice A n c), (.bool true)]) Tryz.func3 rfl rfl rfl hst ?_
  refine HT.seq ?_
  refine HT.plain ?_
  refine sq (St.closed _ _ _ _) (q_assign rfl) rfl ?_
  refine send ?_
  refine eseq ?_
  refine HT.seq ?_
  refine HT.seq ?_
  refine HT.plain ?_
  refine sq (St.closed _ _ _ _) (q_move rfl) rfl ?_
  refine sq (St.closed _ _ _ _) (q_len (len := n) rfl Tryz.underlying22) rfl ?_
  refine sq (St.closed _ _ _ _) (q_F (q_gt (p := n) (q := 2147483647) rfl rfl) (by omega)) rfl ?_
  refine send ?_
  refine eseq ?_
  refine HT.no rfl ?_
  refine HT.skip ?_
  refine eseq ?_
  refine HT.seq ?_
  refine HT.seq ?_
  refine HT.plain ?_
  refine sq (St.closed _ _ _ _) (q_move rfl) rfl ?_
  refine sq (St.closed _ _ _ _) (q_len (len := n) rfl Tryz.underlying22) rfl ?_
  refine sq (St.closed _ _ _ _) (q_F (q_gt (p := n) (q := 100) rfl rfl) (by omega)) rfl ?_
  refine sq (St.closed _ _ _ _) (q_move rfl) rfl ?_
  refine sgq (St.closed _ _ _ _) rfl (q_move rfl) rfl ?_
  refine sgq (St.closed _ _ _ _) rfl (q_len (len := n) rfl Tryz.underlying22) rfl ?_
  refine sgq (St.closed _ _ _ _) rfl (q_F (q_lt (p := n) (q := 5) rfl rfl) (by omega)) rfl ?_
  refine sq (St.closed _ _ _ _) (q_pick rfl (fun h => nomatch h) (fun _ => rfl)) rfl ?_
  refine send ?_
  refine eseq ?_
  refine HT.no rfl ?_
  refine HT.skip ?_
  refine eseq ?_
  refine HT.seq ?_
  refine HT.plain ?_
  refine sq (St.closed _ _ _ _) (q_move rfl) rfl ?_
  refine sl_ (l_callX (ι := {p : Nat × Nat × List (Option Value) // n ≤ p.2.1}) (vs := [(.slice A n c)]) (Kc := []) (Bc := [Byt A n c bs]) [] [0] (K' := fun p => [⟨p.1.1, 5, cb bs ++ p.1.2.2, true⟩]) (by decide) rfl ca_4 rfl (fun _ h => h) rfl rfl rfl (fun w h => cloneK w A n c bs (by omega) (by omega) h) (fun _ => rfl) (fun _ => rfl) (fun _ => rfl) fun ⟨(q26, c26, r26), hc26⟩ _ _ => ?_)
  refine sq (St.closed _ _ _ _) (q_assign rfl) rfl ?_
  refine send ?_
  refine eseq ?_
  refine HT.seq ?_
  refine HT.plain ?_
  refine sq (St.closed _ _ _ _) (q_move rfl) rfl ?_
  refine sq (St.closed _ _ _ _) (q_indexK (b := q26) (i := 2) (sz := 1) rfl rfl Tryz.underlying22 size_5 (by omega)) rfl ?_
  refine sq (St.closed _ _ _ _) (q_loadB (b := q26) (i := 2) (j := 0) (bs := bs) rfl nagg_5 (fun _ h => h) rfl rfl rfl (by (try simp only [setb_length]); omega)) rfl ?_
  refine sq (St.closed _ _ _ _) (q_and (p := nb bs 2) (q := 254) rfl rfl rfl (show nb bs 2 < 256 by have := nb_lt bs 2; omega) (by decide)) rfl ?_
  refine sq (St.closed _ _ _ _) (q_indexK (b := q26) (i := 2) (sz := 1) rfl rfl Tryz.underlying22 size_5 (by omega)) rfl ?_
  refine sl_ (l_storeB (b := q26) (i := 2) (j := 0) (bs := bs) (r := r26) (K' := [⟨q26, 5, cb (setb bs 2 ((nb bs 2) &&& 254)) ++ r26, true⟩]) rfl rfl nagg_5 rfl rfl rfl rfl (by (try simp only [setb_length]); omega) (show (nb bs 2) &&& 254 < 256 by have := nb_lt bs 2; have := Nat.and_le_left (n := nb bs 2) (m := 254); have := Nat.and_le_right (n := nb bs 2) (m := 254); omega) rfl ?_)
  refine send ?_
  refine eseq ?_
  refine HT.seq ?_
  refine HT.plain ?_
  refine sq (St.closed _ _ _ _) (q_move rfl) rfl ?_
  refine sl_ (l_callX (ι := {p : Nat × Nat × List (Option Value) // n ≤ p.2.1}) (vs := [(.slice A n c)]) (Kc := []) (Bc := [Byt A n c bs]) [] [0] (K' := fun p => [⟨q26, 5, cb (setb bs 2 ((nb bs 2) &&& 254)) ++ r26, true⟩, ⟨p.1.1, 5, cb bs ++ p.1.2.2, true⟩]) (by decide) rfl ca_4 rfl (fun _ h => h) rfl rfl rfl (fun w h => cloneK w A n c bs (by omega) (by omega) h) (fun _ => rfl) (fun _ => rfl) (fun _ => rfl) fun ⟨(q33, c33, r33), hc33⟩ _ _ => ?_)
  refine sq (St.closed _ _ _ _) (q_assign rfl) rfl ?_
  refine send ?_
  refine eseq ?_
  refine HT.seq ?_
  refine HT.plain ?_
  refine sq (St.closed _ _ _ _) (q_move rfl) rfl ?_
  refine sq (St.closed _ _ _ _) (q_move rfl) rfl ?_
  refine sq (St.closed _ _ _ _) (q_indexK (b := q33) (i := 3) (sz := 1) rfl rfl Tryz.underlying22 size_5 (by omega)) rfl ?_
  refine sl_ (l_storeB (b := q33) (i := 3) (j := 1) (bs := bs) (r := r33) (K' := [⟨q26, 5, cb (setb bs 2 ((nb bs 2) &&& 254)) ++ r26, true⟩, ⟨q33, 5, cb (setb bs 3 8) ++ r33, true⟩]) rfl rfl nagg_5 rfl rfl rfl rfl (by (try simp only [setb_length]); omega) (show 8 < 256 by omega) rfl ?_)
  refine sq (St.closed _ _ _ _) (q_indexK (b := q33) (i := 4) (sz := 1) rfl rfl Tryz.underlying22 size_5 (by omega)) rfl ?_
  refine sl_ (l_storeB (b := q33) (i := 4) (j := 1) (bs := setb bs 3 8) (r := r33) (K' := [⟨q26, 5, cb (setb bs 2 ((nb bs 2) &&& 254)) ++ r26, true⟩, ⟨q33, 5, cb (setb (setb bs 3 8) 4 0) ++ r33, true⟩]) rfl rfl nagg_5 rfl rfl rfl rfl (by (try simp only [setb_length]); omega) (show 0 < 256 by omega) rfl ?_)
  refine send ?_
  refine eseq ?_
  refine HT.seq ?_
  refine HT.plain ?_
  refine sq (St.closed _ _ _ _) (q_assign rfl) rfl ?_
  refine send ?_
  refine eseq ?_
  refine HT.seq ?_
  refine HT.seq ?_
  refine HT.plain ?_
  refine sq (St.closed _ _ _ _) (q_move rfl) rfl ?_
  refine send ?_
  refine eseq ?_
  refine HT.yes rfl ?_
  refine HT.seq ?_
  refine HT.plain ?_
  refine sq (St.closed _ _ _ _) (q_move rfl) rfl ?_
  refine sq (St.closed _ _ _ _) (q_move rfl) rfl ?_
  refine sq (St.closed _ _ _ _) (q_indexK (b := q33) (i := 3) (sz := 1) rfl rfl Tryz.underlying22 size_5 (by omega)) rfl ?_
  refine sl_ (l_storeB (b := q33) (i := 3) (j := 1) (bs := setb (setb bs 3 8) 4 0) (r := r33) (K' := [⟨q26, 5, cb (setb bs 2 ((nb bs 2) &&& 254)) ++ r26, true⟩, ⟨q33, 5, cb (setb (setb (setb bs 3 8) 4 0) 3 134) ++ r33, true⟩]) rfl rfl nagg_5 rfl rfl rfl rfl (by (try simp only [setb_length]); omega) (show 134 < 256 by omega) rfl ?_)
  refine sq (St.closed _ _ _ _) (q_indexK (b := q33) (i := 4) (sz := 1) rfl rfl Tryz.underlying22 size_5 (by omega)) rfl ?_
  refine sl_ (l_storeB (b := q33) (i := 4) (j := 1) (bs := setb (setb (setb bs 3 8) 4 0) 3 134) (r := r33) (K' := [⟨q26, 5, cb (setb bs 2 ((nb bs 2) &&& 254)) ++ r26, true⟩, ⟨q33, 5, cb (setb (setb (setb (setb bs 3 8) 4 0) 3 134) 4 221) ++ r33, true⟩]) rfl rfl nagg_5 rfl rfl rfl rfl (by (try simp only [setb_length]); omega) (show 221 < 256 by omega) rfl ?_)
  refine send ?_
  refine eseq ?_
  refine HT.plain ?_
  refine sq (St.closed _ _ _ _) (q_assign rfl) rfl ?_
  refine send ?_
  refine eseq ?_
  refine HT.seq ?_
  refine HT.plain ?_
  refine sq (St.closed _ _ _ _) (q_move rfl) rfl ?_
  refine sq (St.closed _ _ _ _) (q_call (vs := [(.string ⟨#[109, 112, 108, 115]⟩), (.slice (some ⟨q26, 0, none⟩) n c26)]) (v := (.tuple #[(.int .u64 ((24 : Nat) : Int)), (.bool true)])) rfl ca_5 (fun w h => nm0N w (some ⟨q26, 0, none⟩) n c26 (setb bs 2 ((nb bs 2) &&& 254)) (by omega) (by omega) (mp_even bs (by omega)) (h.bytr (j := 0) (bs := setb bs 2 ((nb bs 2) &&& 254)) rfl rfl (by (try simp only [setb_length]); omega) (by omega)))) rfl ?_
  refine sq (St.closed _ _ _ _) (q_move rfl) rfl ?_
  refine sq (St.closed _ _ _ _) (q_extract (vs := [(.int .u64 ((24 : Nat) : Int)), (.bool true)]) (i := 0) rfl rfl) rfl ?_
  refine sq (St.closed _ _ _ _) (q_extract (vs := [(.int .u64 ((24 : Nat) : Int)), (.bool true)]) (i := 1) rfl rfl) rfl ?_
  refine sq (St.closed _ _ _ _) (q_assign rfl) rfl ?_
  refine sq (St.closed _ _ _ _) (q_assign rfl) rfl ?_
  refine send ?_
  refine eseq ?_
  refine HT.seq ?_
  refine HT.plain ?_
  refine sq (St.closed _ _ _ _) (q_move rfl) rfl ?_
  refine sq (St.closed _ _ _ _) (q_indexK (b := q26) (i := 2) (sz := 1) rfl rfl Tryz.underlying22 size_5 (by omega)) rfl ?_
  refine sq (St.closed _ _ _ _) (q_loadB (b := q26) (i := 2) (j := 0) (bs := setb bs 2 ((nb bs 2) &&& 254)) rfl nagg_5 (fun _ h => h) rfl rfl rfl (by (try simp only [setb_length]); omega)) rfl ?_
  refine sq (St.closed _ _ _ _) (q_or (p := nb (setb bs 2 ((nb bs 2) &&& 254)) 2) (q := 1) rfl rfl rfl (show nb (setb bs 2 ((nb bs 2) &&& 254)) 2 < 256 by have := nb_lt (setb bs 2 ((nb bs 2) &&& 254)) 2; omega) (by decide)) rfl ?_
  refine sq (St.closed _ _ _ _) (q_indexK (b := q26) (i := 2) (sz := 1) rfl rfl Tryz.underlying22 size_5 (by omega)) rfl ?_
  refine sl_ (l_storeB (b := q26) (i := 2) (j := 0) (bs := setb bs 2 ((nb bs 2) &&& 254)) (r := r26) (K' := [⟨q26, 5, cb (setb (setb bs 2 ((nb bs 2) &&& 254)) 2 ((nb (setb bs 2 ((nb bs 2) &&& 254)) 2) ||| 1)) ++ r26, true⟩, ⟨q33, 5, cb (setb (setb (setb (setb bs 3 8) 4 0) 3 134) 4 221) ++ r33, true⟩]) rfl rfl nagg_5 rfl rfl rfl rfl (by (try simp only [setb_length]); omega) (show (nb (setb bs 2 ((nb bs 2) &&& 254)) 2) ||| 1 < 256 by have := nb_lt (setb bs 2 ((nb bs 2) &&& 254)) 2; have := or_lt_ (nb (setb bs 2 ((nb bs 2) &&& 254)) 2) 1 8 (by have := nb_lt (setb bs 2 ((nb bs 2) &&& 254)) 2; omega) (by omega); omega) rfl ?_)
  refine send ?_
  refine eseq ?_
  refine HT.seq ?_
  refine HT.plain ?_
  refine sq (St.closed _ _ _ _) (q_move rfl) rfl ?_
  refine sq (St.closed _ _ _ _) (q_call (vs := [(.string ⟨#[109, 112, 108, 115]⟩), (.slice (some ⟨q26, 0, none⟩) n c26)]) (v := (.tuple #[(.int .u64 ((24 : Nat) : Int)), (.bool false)])) rfl ca_5 (fun w h => nm1N w (some ⟨q26, 0, none⟩) n c26 (setb (setb bs 2 ((nb bs 2) &&& 254)) 2 ((nb (setb bs 2 ((nb bs 2) &&& 254)) 2) ||| 1)) (by omega) (by omega) (mp_odd (setb bs 2 ((nb bs 2) &&& 254)) (by (try simp only [setb_length]); omega)) (h.bytr (j := 0) (bs := setb (setb bs 2 ((nb bs 2) &&& 254)) 2 ((nb (setb bs 2 ((nb bs 2) &&& 254)) 2) ||| 1)) rfl rfl (by (try simp only [setb_length]); omega) (by omega)))) rfl ?_
  refine sq (St.closed _ _ _ _) (q_move rfl) rfl ?_
  refine sq (St.closed _ _ _ _) (q_extract (vs := [(.int .u64 ((24 : Nat) : Int)), (.bool false)]) (i := 0) rfl rfl) rfl ?_
  refine sq (St.closed _ _ _ _) (q_extract (vs := [(.int .u64 ((24 : Nat) : Int)), (.bool false)]) (i := 1) rfl rfl) rfl ?_
  refine sq (St.closed _ _ _ _) (q_assign rfl) rfl ?_
  refine sq (St.closed _ _ _ _) (q_assign rfl) rfl ?_
  refine send ?_
  refine eseq ?_
  refine HT.seq ?_
  refine HT.plain ?_
  refine sq (St.closed _ _ _ _) (q_move rfl) rfl ?_
  refine sq (St.closed _ _ _ _) (q_call (vs := [(.string ⟨#[115, 110, 97, 112]⟩), (.slice (some ⟨q33, 0, none⟩) n c33)]) (v := (.tuple #[(.int .u64 ((21 : Nat) : Int)), (.bool true)])) rfl ca_5 (fun w h => ns6N w (some ⟨q33, 0, none⟩) n c33 (setb (setb (setb (setb bs 3 8) 4 0) 3 134) 4 221) (by omega) (by omega) ((sn_num (setb (setb bs 3 8) 4 0) (by (try simp only [setb_length]); omega) 134 221 (by decide) (by decide)).trans rfl) (h.bytr (j := 1) (bs := setb (setb (setb (setb bs 3 8) 4 0) 3 134) 4 221) rfl rfl (by (try simp only [setb_length]); omega) (by omega)))) rfl ?_
  refine sq (St.closed _ _ _ _) (q_move rfl) rfl ?_
  refine sq (St.closed _ _ _ _) (q_extract (vs := [(.int .u64 ((21 : Nat) : Int)), (.bool true)]) (i := 0) rfl rfl) rfl ?_
  refine sq (St.closed _ _ _ _) (q_extract (vs := [(.int .u64 ((21 : Nat) : Int)), (.bool true)]) (i := 1) rfl rfl) rfl ?_
  refine sq (St.closed _ _ _ _) (q_assign rfl) rfl ?_
  refine sq (St.closed _ _ _ _) (q_assign rfl) rfl ?_
  refine send ?_
  refine eseq ?_
  refine HT.seq ?_
  refine HT.plain ?_
  refine sq (St.closed _ _ _ _) (q_move rfl) rfl ?_
  refine sq (St.closed _ _ _ _) (q_move rfl) rfl ?_
  refine sgq (St.closed _ _ _ _) rfl (q_move rfl) rfl ?_
  refine sgq (St.closed _ _ _ _) rfl (q_T (q_eq (p := 24) (q := 24) rfl rfl) (by decide)) rfl ?_
  refine sq (St.closed _ _ _ _) (q_pick rfl (fun _ => rfl) (fun h => nomatch h)) rfl ?_
  refine sq (St.closed _ _ _ _) (q_move rfl) rfl ?_
  refine sgq (St.closed _ _ _ _) rfl (q_move rfl) rfl ?_
  refine sgq (St.closed _ _ _ _) rfl (q_not rfl) rfl ?_
  refine sq (St.closed _ _ _ _) (q_pick rfl (fun _ => rfl) (fun h => nomatch h)) rfl ?_
  refine sq (St.closed _ _ _ _) (q_move rfl) rfl ?_
  refine sgq (St.closed _ _ _ _) rfl (q_move rfl) rfl ?_
  refine sq (St.closed _ _ _ _) (q_pick rfl (fun _ => rfl) (fun h => nomatch h)) rfl ?_
  refine sq (St.closed _ _ _ _) (q_move rfl) rfl ?_
  refine sgq (St.closed _ _ _ _) rfl (q_move rfl) rfl ?_
  refine sgq (St.closed _ _ _ _) rfl (q_move rfl) rfl ?_
  refine sgq (St.closed _ _ _ _) rfl (q_T (q_eq (p := 21) (q := 21) rfl rfl) (by decide)) rfl ?_
  refine sq (St.closed _ _ _ _) (q_pick rfl (fun _ => rfl) (fun h => nomatch h)) rfl ?_
  refine sq (St.closed _ _ _ _) (q_assign rfl) rfl ?_
  refine send ?_
  refine eseq ?_
  refine HT.ret ?_
  exact fun a ha w' hw => fin_ ha (res1 ha Tryz.results3 rfl) ⟨rfl, hw.pres⟩

theorem fn_next (w : World) (A : Option Addr) (n c : Nat) (bs : List UInt8) (six : Bool) (hst : St w [] [] [Byt A n c bs] w) : Calls Tryz.prog 3 #[(.slice A n c), (.bool six)] w (fun e w' => e = .returned (.bool true) ∧ Pres [] w w') := by
  by_cases h1 : 2147483647 < n
  · exact fnNextB w A n c bs six h1 hst
  · by_cases h2 : 100 < n
    · exact fnNextH w A n c bs six (by omega) h2 hst
    · by_cases h3 : n < 5
      · exact fnNextL w A n c bs six h3 hst
      · cases six
        · exact fnNext4 w A n c bs (by omega) (by omega) hst
        · exact fnNext6 w A n c bs (by omega) (by omega) hst
end Go.Proofs.YtmdomhbakpkgiaaGreat.Zed
