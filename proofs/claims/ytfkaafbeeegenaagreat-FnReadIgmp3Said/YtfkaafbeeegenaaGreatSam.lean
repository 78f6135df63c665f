/- sameness -/
import Derived.Test.YtfkaafbeeegenaaGreatBas
import Derived.Test.YtfkaafbeeegenaaGreatCel
import Derived.KernelRfl
namespace Go.Proofs.YtfkaafbeeegenaaGreat.Zed
set_option linter.unusedVariables false
set_option linter.unusedSimpArgs false
set_option maxRecDepth 100000
set_option maxHeartbeats 4000000
theorem size_39 : (Tryz.prog.info? 39).map (·.size) = some 1 := by kernel_rfl
theorem size_22 : (Tryz.prog.info? 22).map (·.size) = some 1 := by kernel_rfl
theorem ca_50 : callable Tryz.prog 50 = true := by kernel_rfl
theorem fo_49_0 : foff Tryz.prog 49 0 = some 0 := by kernel_rfl
theorem nagg_25 : nagg Tryz.prog 25 = true := by kernel_rfl
theorem ca_49 : callable Tryz.prog 49 = true := by kernel_rfl
theorem fo_49_1 : foff Tryz.prog 49 1 = some 1 := by kernel_rfl
theorem size_49 : (Tryz.prog.info? 49).map (·.size) = some 2 := by kernel_rfl
theorem aggs_49 : aggs Tryz.prog 49 = some 2 := by kernel_rfl
theorem zero_49 : (Tryz.prog.info? 49).bind (·.zero) = some (.agg #[(.slice none 0 0), (.slice none 0 0)]) := by kernel_rfl
theorem ca_48 : callable Tryz.prog 48 = true := by kernel_rfl
theorem fo_29_0 : foff Tryz.prog 29 0 = some 0 := by kernel_rfl
theorem fo_29_1 : foff Tryz.prog 29 1 = some 1 := by kernel_rfl
theorem nagg_26 : nagg Tryz.prog 26 = true := by kernel_rfl
theorem ca_51 : callable Tryz.prog 51 = true := by kernel_rfl
theorem fo_29_2 : foff Tryz.prog 29 2 = some 2 := by kernel_rfl
theorem nagg_27 : nagg Tryz.prog 27 = true := by kernel_rfl
theorem ca_52 : callable Tryz.prog 52 = true := by kernel_rfl
theorem fo_29_3 : foff Tryz.prog 29 3 = some 3 := by kernel_rfl

theorem eqNums (w : World) (A : Option Addr) (n : Nat) (c : Nat) (A2 : Option Addr) (c2 : Nat) (xs : List Nat) (hl : n = xs.length) (hn : n ≤ 4611686018427387903) (hst : St w [] [] [Cel A n c 1 (xs.map fun x => Value.int .u64 ((x : Nat) : Int)), Cel A2 n c2 1 (xs.map fun x => Value.int .u64 ((x : Nat) : Int))] w) : Calls Tryz.prog 49 #[(.slice A n c), (.slice A2 n c2)] w (fun e w' => e = .returned (.bool true) ∧ Pres [] w w') := by
  refine enter (vs := [(.slice A n c), (.slice A2 n c2)]) Tryz.func49 rfl rfl rfl hst ?_
  refine HT.seq ?_
  refine HT.plain ?_
  refine sq (St.closed _ _ _ _) (q_assign rfl) rfl ?_
  refine send ?_
  refine eseq ?_
  refine HT.seq ?_
  refine HT.seq ?_
  refine HT.plain ?_
  refine sq (St.closed _ _ _ _) (q_move rfl) rfl ?_
  refine sq (St.closed _ _ _ _) (q_len (len := n) rfl Tryz.underlying25) rfl ?_
  refine sq (St.closed _ _ _ _) (q_move rfl) rfl ?_
  refine sq (St.closed _ _ _ _) (q_len (len := n) rfl Tryz.underlying25) rfl ?_
  refine sq (St.closed _ _ _ _) (q_ne (p := n) (q := n) rfl rfl) rfl ?_
  refine send ?_
  refine eseq ?_
  refine condd rfl (fun h1 => ?_) (fun h1 => ?_)
  · refine HT.seq ?_
    refine HT.plain ?_
    refine sq (St.closed _ _ _ _) (q_assign rfl) rfl ?_
    refine send ?_
    refine eseq ?_
    refine HT.ret ?_
    refine rt_then ?_
    exact absurd rfl (by omega)
  · refine HT.skip ?_
    refine eseq ?_
    refine HT.seq ?_
    refine HT.seq ?_
    refine HT.plain ?_
    refine sq (St.closed _ _ _ _) (q_move rfl) rfl ?_
    refine sq (St.closed _ _ _ _) (q_len (len := n) rfl Tryz.underlying25) rfl ?_
    refine sq (St.closed _ _ _ _) (q_move rfl) rfl ?_
    refine send ?_
    refine eseq ?_
    refine HT.block ?_
    refine HT.loop (ι := {i : Nat // i ≤ n}) (fun i => [(0, (.slice A n c)), (1, (.slice A2 n c2)), (4, (.bool false)), (12, (.int .i64 ((n : Nat) : Int))), (13, (.int .i64 ((i.1 : Nat) : Int)))]) (fun _ => St w [] [] [Cel A n c 1 (xs.map fun x => Value.int .u64 ((x : Nat) : Int)), Cel A2 n c2 1 (xs.map fun x => Value.int .u64 ((x : Nat) : Int))]) (fun i => n - i.1) ⟨0, Nat.zero_le _⟩ ⟨rfl, rfl, rfl, rfl, rfl, trivial⟩ (fun _ h => h) fun ⟨i, hi⟩ => ?_
    refine HT.seq ?_
    refine HT.plain ?_
    refine sq (St.closed _ _ _ _) (q_lt (p := i) (q := n) rfl rfl) rfl ?_
    refine send ?_
    refine eseq ?_
    refine HT.seq ?_
    refine condd rfl (fun h2 => ?_) (fun h2 => ?_)
    · refine HT.skip ?_
      refine eseq ?_
      refine HT.seq ?_
      refine HT.block ?_
      refine HT.seq ?_
      refine HT.plain ?_
      refine sq (St.closed _ _ _ _) (q_move rfl) rfl ?_
      refine sq (St.closed _ _ _ _) (q_assign rfl) rfl ?_
      refine send ?_
      refine eseq ?_
      refine HT.seq ?_
      refine HT.drawnS mixed (St.closed _ _ _ _) ?_
      refine dtake (f := 0) [0, 1, 2, 3, 4, 5, 6, 7, 8] (by kernel_rfl) (St.closed _ _ _ _) (fun _ h => h) (by kernel_rfl) ?_
      refine dq rfl (q_move rfl) ?_
      refine dq rfl (q_move rfl) ?_
      refine dq rfl (q_indexC (i := i) (sz := 1) rfl rfl Tryz.underlying25 size_39 (fun _ h => h.fact (j := 0) rfl) (by decide) (by omega)) ?_
      refine dq rfl (q_celLoad (i := i * 1) rfl nagg_39 (fun _ h => h.fact (j := 0) rfl) (u64at hl (by omega))) ?_
      refine dq rfl (q_move rfl) ?_
      refine dq rfl (q_move rfl) ?_
      refine dq rfl (q_indexC (i := i) (sz := 1) rfl rfl Tryz.underlying25 size_39 (fun _ h => h.fact (j := 1) rfl) (by decide) (by omega)) ?_
      refine dq rfl (q_celLoad (i := i * 1) rfl nagg_39 (fun _ h => h.fact (j := 1) rfl) (u64at hl (by omega))) ?_
      refine dq rfl (q_ne (p := xs.getD i 0) (q := xs.getD i 0) rfl rfl) ?_
      refine QL.nil ?_
      refine dend (by kernel_rfl) ?_
      refine eseq ?_
      refine condd rfl (fun h3 => ?_) (fun h3 => ?_)
      · refine HT.seq ?_
        refine HT.plain ?_
        refine sq (St.closed _ _ _ _) (q_assign rfl) rfl ?_
        refine send ?_
        refine eseq ?_
        refine HT.ret ?_
        refine rt_in ?_
        refine rt_then ?_
        refine rt_then ?_
        refine rt_in ?_
        refine rt_then ?_
        exact absurd rfl (by omega)
      · refine HT.skip ?_
        refine ein ?_
        refine eseq ?_
        refine HT.plain ?_
        refine sq (St.closed _ _ _ _) (q_add (p := i) (q := 1) rfl rfl (show i + 1 < 9223372036854775808 by omega)) rfl ?_
        refine sq (St.closed _ _ _ _) (q_move rfl) rfl ?_
        refine send ?_
        exact eround ⟨i + 1, by omega⟩ (show n - (i + 1) < n - i by omega) ⟨rfl, rfl, rfl, rfl, rfl, trivial⟩ (fun _ h => h)
    · refine HT.exit ?_
      refine ex_then ?_
      refine ex_then ?_
      refine ex_in ?_
      refine eseq ?_
      refine HT.seq ?_
      refine HT.plain ?_
      refine sq (St.closed _ _ _ _) (q_assign rfl) rfl ?_
      refine send ?_
      refine eseq ?_
      refine HT.ret ?_
      exact fun a ha w' hw => fin_ ha (res1 ha Tryz.results49 rfl) ⟨rfl, hw.pres⟩

theorem eqBytes (w : World) (A : Option Addr) (n : Nat) (c : Nat) (bs : List UInt8) (A2 : Option Addr) (n2 : Nat) (c2 : Nat) (bs2 : List UInt8) (hbs : bs = bs2) (hst : St w [] [] [Byt A n c bs, Byt A2 n2 c2 bs2] w) : Calls Tryz.prog 50 #[(.slice A n c), (.slice A2 n2 c2)] w (fun e w' => e = .returned (.bool true) ∧ Pres [] w w') := by
  have hnc00 : n ≤ c := (hst.fact (j := 0) rfl).2.1
  have hnc01 : n2 ≤ c2 := (hst.fact (j := 1) rfl).2.1
  refine enter (vs := [(.slice A n c), (.slice A2 n2 c2)]) Tryz.func50 rfl rfl rfl hst ?_
  refine HT.seq ?_
  refine HT.plain ?_
  refine sq (St.closed _ _ _ _) (q_assign rfl) rfl ?_
  refine send ?_
  refine eseq ?_
  refine HT.seq ?_
  refine HT.plain ?_
  refine sq (St.closed _ _ _ _) (q_move rfl) rfl ?_
  refine sq (St.closed _ _ _ _) (q_convBS rfl Tryz.underlying22 Tryz.underlying5 Tryz.underlying9 (fun _ h => h.fact (j := 0) rfl)) rfl ?_
  refine sq (St.closed _ _ _ _) (q_move rfl) rfl ?_
  refine sq (St.closed _ _ _ _) (q_convBS rfl Tryz.underlying22 Tryz.underlying5 Tryz.underlying9 (fun _ h => h.fact (j := 1) rfl)) rfl ?_
  refine sq (St.closed _ _ _ _) (q_eqsSame rfl rfl (by rw [hbs])) rfl ?_
  refine sq (St.closed _ _ _ _) (q_assign rfl) rfl ?_
  refine send ?_
  refine eseq ?_
  refine HT.ret ?_
  exact fun a ha w' hw => fin_ ha (res1 ha Tryz.results50 rfl) ⟨rfl, hw.pres⟩

theorem eqRows (w : World) (A : Option Addr) (n : Nat) (c : Nat) (A2 : Option Addr) (c2 : Nat) (ds : List BI) (ds2 : List BI) (hds : n = ds.length) (hds2 : n = ds2.length) (hb : ds.map BI.bs = ds2.map BI.bs) (hn : n ≤ 4611686018427387903) (hst : St w [] [] [Cel A n c 1 (ds.map BI.val), Cel A2 n c2 1 (ds2.map BI.val), Fact.all (ds.map BI.fact), Fact.all (ds2.map BI.fact)] w) : Calls Tryz.prog 51 #[(.slice A n c), (.slice A2 n c2), (.func (.func 50) #[] #[])] w (fun e w' => e = .returned (.bool true) ∧ Pres [] w w') := by
  refine enter (vs := [(.slice A n c), (.slice A2 n c2), (.func (.func 50) #[] #[])]) Tryz.func51 rfl rfl rfl hst ?_
  refine HT.seq ?_
  refine HT.plain ?_
  refine sq (St.closed _ _ _ _) (q_assign rfl) rfl ?_
  refine send ?_
  refine eseq ?_
  refine HT.seq ?_
  refine HT.seq ?_
  refine HT.plain ?_
  refine sq (St.closed _ _ _ _) (q_move rfl) rfl ?_
  refine sq (St.closed _ _ _ _) (q_len (len := n) rfl Tryz.underlying26) rfl ?_
  refine sq (St.closed _ _ _ _) (q_move rfl) rfl ?_
  refine sq (St.closed _ _ _ _) (q_len (len := n) rfl Tryz.underlying26) rfl ?_
  refine sq (St.closed _ _ _ _) (q_ne (p := n) (q := n) rfl rfl) rfl ?_
  refine send ?_
  refine eseq ?_
  refine condd rfl (fun h1 => ?_) (fun h1 => ?_)
  · refine HT.seq ?_
    refine HT.plain ?_
    refine sq (St.closed _ _ _ _) (q_assign rfl) rfl ?_
    refine send ?_
    refine eseq ?_
    refine HT.ret ?_
    refine rt_then ?_
    exact absurd rfl (by omega)
  · refine HT.skip ?_
    refine eseq ?_
    refine HT.seq ?_
    refine HT.seq ?_
    refine HT.plain ?_
    refine sq (St.closed _ _ _ _) (q_move rfl) rfl ?_
    refine sq (St.closed _ _ _ _) (q_len (len := n) rfl Tryz.underlying26) rfl ?_
    refine sq (St.closed _ _ _ _) (q_move rfl) rfl ?_
    refine send ?_
    refine eseq ?_
    refine HT.block ?_
    refine HT.loop (ι := {i : Nat // i ≤ n}) (fun i => [(0, (.slice A n c)), (1, (.slice A2 n c2)), (2, (.func (.func 50) #[] #[])), (6, (.bool false)), (15, (.slice A n c)), (16, (.int .i64 ((n : Nat) : Int))), (17, (.int .i64 ((i.1 : Nat) : Int)))]) (fun _ => St w [] [] [Cel A n c 1 (ds.map BI.val), Cel A2 n c2 1 (ds2.map BI.val), Fact.all (ds.map BI.fact), Fact.all (ds2.map BI.fact)]) (fun i => n - i.1) ⟨0, Nat.zero_le _⟩ ⟨rfl, rfl, rfl, rfl, rfl, rfl, rfl, trivial⟩ (fun _ h => h) fun ⟨i, hi⟩ => ?_
    refine HT.seq ?_
    refine HT.plain ?_
    refine sq (St.closed _ _ _ _) (q_lt (p := i) (q := n) rfl rfl) rfl ?_
    refine send ?_
    refine eseq ?_
    refine HT.seq ?_
    refine condd rfl (fun h2 => ?_) (fun h2 => ?_)
    · refine HT.skip ?_
      refine eseq ?_
      refine HT.seq ?_
      refine HT.block ?_
      refine HT.seq ?_
      refine HT.plain ?_
      refine sq (St.closed _ _ _ _) (q_move rfl) rfl ?_
      refine sq (St.closed _ _ _ _) (q_indexC (i := i) (sz := 1) rfl rfl Tryz.underlying26 size_22 (fun _ h => h.fact (j := 0) rfl) (by decide) (by omega)) rfl ?_
      refine sq (St.closed _ _ _ _) (q_celLoad (i := i * 1) rfl nagg_22 (fun _ h => h.fact (j := 0) rfl) (biat hds (by omega))) rfl ?_
      refine sq (St.closed _ _ _ _) (q_assign rfl) rfl ?_
      refine sq (St.closed _ _ _ _) (q_assign rfl) rfl ?_
      refine send ?_
      refine eseq ?_
      refine HT.seq ?_
      refine HT.plain ?_
      refine sq (St.closed _ _ _ _) (q_move rfl) rfl ?_
      refine sq (St.closed _ _ _ _) (q_move rfl) rfl ?_
      refine sq (St.closed _ _ _ _) (q_indexC (i := i) (sz := 1) rfl rfl Tryz.underlying26 size_22 (fun _ h => h.fact (j := 1) rfl) (by decide) (by omega)) rfl ?_
      refine sq (St.closed _ _ _ _) (q_celLoad (i := i * 1) rfl nagg_22 (fun _ h => h.fact (j := 1) rfl) (biat hds2 (by omega))) rfl ?_
      refine sq (St.closed _ _ _ _) (q_assign rfl) rfl ?_
      refine send ?_
      refine eseq ?_
      refine HT.seq ?_
      refine HT.plain ?_
      refine sq (St.closed _ _ _ _) (q_move rfl) rfl ?_
      refine sq (St.closed _ _ _ _) (q_move rfl) rfl ?_
      refine sq (St.closed _ _ _ _) (q_move rfl) rfl ?_
      refine sq (St.closed _ _ _ _) (q_callC (vs := [(.slice ((ds.getD i bi0).A) ((ds.getD i bi0).n) ((ds.getD i bi0).c)), (.slice ((ds2.getD i bi0).A) ((ds2.getD i bi0).n) ((ds2.getD i bi0).c))]) (v := (.bool true)) rfl rfl ca_50 (fun w h => eqBytes w _ _ _ _ _ _ _ _ (biEq hb i) (St.start2 (M := []) (h.fact (j := 2) rfl _ (bimem hds (by omega))) (h.fact (j := 3) rfl _ (bimem hds2 (by omega)))))) rfl ?_
      refine sq (St.closed _ _ _ _) (q_not rfl) rfl ?_
      refine send ?_
      refine eseq ?_
      refine HT.no rfl ?_
      refine HT.skip ?_
      refine ein ?_
      refine eseq ?_
      refine HT.plain ?_
      refine sq (St.closed _ _ _ _) (q_add (p := i) (q := 1) rfl rfl (show i + 1 < 9223372036854775808 by omega)) rfl ?_
      refine sq (St.closed _ _ _ _) (q_move rfl) rfl ?_
      refine send ?_
      exact eround ⟨i + 1, by omega⟩ (show n - (i + 1) < n - i by omega) ⟨rfl, rfl, rfl, rfl, rfl, rfl, rfl, trivial⟩ (fun _ h => h)
    · refine HT.exit ?_
      refine ex_then ?_
      refine ex_then ?_
      refine ex_in ?_
      refine eseq ?_
      refine HT.seq ?_
      refine HT.plain ?_
      refine sq (St.closed _ _ _ _) (q_assign rfl) rfl ?_
      refine send ?_
      refine eseq ?_
      refine HT.ret ?_
      exact fun a ha w' hw => fin_ ha (res1 ha Tryz.results51 rfl) ⟨rfl, hw.pres⟩

theorem eqNI (w : World) (a b : NI) (h : a.xs = b.xs) (hs : a.xs.length ≤ 1000) (ha : a.fact.ok w) (hb : b.fact.ok w) : Calls Tryz.prog 49 #[a.val, b.val] w (fun e w' => e = .returned (.bool true) ∧ Pres [] w w') := by
  obtain ⟨A, n, c, xs⟩ := a
  obtain ⟨A2, n2, c2, xs2⟩ := b
  simp only at h hs
  subst h
  have h1 : n = xs.length := by have := ha.1; simpa using this.symm
  have h2 : n2 = xs.length := by have := hb.1; simpa using this.symm
  subst h2
  subst h1
  exact eqNums w A xs.length c A2 c2 xs rfl (by omega) (St.start2 (M := []) ha hb)
theorem eqBI (w : World) (a b : BI) (h : a.bs = b.bs) (ha : a.fact.ok w) (hb : b.fact.ok w) : Calls Tryz.prog 50 #[a.val, b.val] w (fun e w' => e = .returned (.bool true) ∧ Pres [] w w') :=
  eqBytes w _ _ _ _ _ _ _ _ h (St.start2 (M := []) ha hb)
def LD.small (D : LD) : Prop := D.nums.length ≤ 1000 ∧ D.ds.length ≤ 1000 ∧ D.ps.length ≤ 1000 ∧ ∀ p ∈ D.ps, p.1.length ≤ 1000

theorem eqPart (w : World) (p : NI × BI) (q : NI × BI) (h1 : p.1.xs = q.1.xs) (h2 : p.2.bs = q.2.bs) (hs : p.1.xs.length ≤ 1000) (hst : St w [] [] [p.1.fact, p.2.fact, q.1.fact, q.2.fact] w) : Calls Tryz.prog 48 #[(.agg #[(.slice p.1.A p.1.n p.1.c), (.slice p.2.A p.2.n p.2.c)]), (.agg #[(.slice q.1.A q.1.n q.1.c), (.slice q.2.A q.2.n q.2.c)])] w (fun e w' => e = .returned (.bool true) ∧ Pres [] w w') := by
  refine enter (vs := [(.agg #[(.slice p.1.A p.1.n p.1.c), (.slice p.2.A p.2.n p.2.c)]), (.agg #[(.slice q.1.A q.1.n q.1.c), (.slice q.2.A q.2.n q.2.c)])]) Tryz.func48 rfl rfl rfl hst ?_
  refine HT.seq ?_
  refine HT.plain ?_
  refine sl_ (l_box (by decide) rfl fun b2 => ?_)
  refine sl_ (l_box (by decide) rfl fun b3 => ?_)
  refine sq (St.closed _ _ _ _) (q_assign rfl) rfl ?_
  refine send ?_
  refine eseq ?_
  refine HT.seq ?_
  refine HT.plain ?_
  refine sq (St.closed _ _ _ _) (q_field (b := b2) (off := 0) rfl fo_49_0) rfl ?_
  refine sq (St.closed _ _ _ _) (q_load (b := b2) (off := 0) (j := 0) rfl nagg_25 (fun _ h => h) rfl rfl rfl) rfl ?_
  refine sq (St.closed _ _ _ _) (q_field (b := b3) (off := 0) rfl fo_49_0) rfl ?_
  refine sq (St.closed _ _ _ _) (q_load (b := b3) (off := 0) (j := 1) rfl nagg_25 (fun _ h => h) rfl rfl rfl) rfl ?_
  refine sq (St.closed _ _ _ _) (q_call (vs := [(.slice p.1.A p.1.n p.1.c), (.slice q.1.A q.1.n q.1.c)]) (v := (.bool true)) rfl ca_49 (fun w h => eqNI w p.1 q.1 h1 hs (h.fact (j := 0) rfl) (h.fact (j := 2) rfl))) rfl ?_
  refine sq (St.closed _ _ _ _) (q_move rfl) rfl ?_
  refine sgq (St.closed _ _ _ _) rfl (q_field (b := b2) (off := 0) rfl fo_49_1) rfl ?_
  refine sgq (St.closed _ _ _ _) rfl (q_load (b := b2) (off := 1) (j := 0) rfl nagg_22 (fun _ h => h) rfl rfl rfl) rfl ?_
  refine sgq (St.closed _ _ _ _) rfl (q_field (b := b3) (off := 0) rfl fo_49_1) rfl ?_
  refine sgq (St.closed _ _ _ _) rfl (q_load (b := b3) (off := 1) (j := 1) rfl nagg_22 (fun _ h => h) rfl rfl rfl) rfl ?_
  refine sgq (St.closed _ _ _ _) rfl (q_call (vs := [(.slice p.2.A p.2.n p.2.c), (.slice q.2.A q.2.n q.2.c)]) (v := (.bool true)) rfl ca_50 (fun w h => eqBI w p.2 q.2 h2 (h.fact (j := 1) rfl) (h.fact (j := 3) rfl))) rfl ?_
  refine sq (St.closed _ _ _ _) (q_pick rfl (fun _ => rfl) (fun h => nomatch h)) rfl ?_
  refine sq (St.closed _ _ _ _) (q_assign rfl) rfl ?_
  refine send ?_
  refine eseq ?_
  refine HT.ret ?_
  exact fun a ha w' hw => fin_ ha (res1 ha Tryz.results48 rfl) ⟨rfl, hw.pres⟩

theorem St.facts4 {w : World} {a b c d : Fact} (ha : a.ok w) (hb : b.ok w) (hc : c.ok w) (hd : d.ok w) : St w [] [] [a, b, c, d] w :=
  St.start (by simp) (by simp) (by simp) (all1 ha (all1 hb (all1 hc (all1 hd all0)))) (by simp)

theorem eqParts (w : World) (A : Option Addr) (n : Nat) (c : Nat) (A2 : Option Addr) (c2 : Nat) (ps : List (NI × BI)) (ps2 : List (NI × BI)) (hds : n = ps.length) (hds2 : n = ps2.length) (hb : ps.map (fun p => (p.1.xs, p.2.bs)) = ps2.map (fun p => (p.1.xs, p.2.bs))) (hs : ∀ i : Nat, (ps.getD i pi0).1.xs.length ≤ 1000) (hn : n ≤ 4611686018427387903) (hst : St w [] [] [Cel A n c 2 (ps.flatMap fun p => [p.1.val, p.2.val]), Cel A2 n c2 2 (ps2.flatMap fun p => [p.1.val, p.2.val]), Fact.all (ps.flatMap fun p => [p.1.fact, p.2.fact]), Fact.all (ps2.flatMap fun p => [p.1.fact, p.2.fact])] w) : Calls Tryz.prog 52 #[(.slice A n c), (.slice A2 n c2), (.func (.func 48) #[] #[])] w (fun e w' => e = .returned (.bool true) ∧ Pres [] w w') := by
  refine enter (vs := [(.slice A n c), (.slice A2 n c2), (.func (.func 48) #[] #[])]) Tryz.func52 rfl rfl rfl hst ?_
  refine HT.seq ?_
  refine HT.plain ?_
  refine sq (St.closed _ _ _ _) (q_assign rfl) rfl ?_
  refine send ?_
  refine eseq ?_
  refine HT.seq ?_
  refine HT.seq ?_
  refine HT.plain ?_
  refine sq (St.closed _ _ _ _) (q_move rfl) rfl ?_
  refine sq (St.closed _ _ _ _) (q_len (len := n) rfl Tryz.underlying27) rfl ?_
  refine sq (St.closed _ _ _ _) (q_move rfl) rfl ?_
  refine sq (St.closed _ _ _ _) (q_len (len := n) rfl Tryz.underlying27) rfl ?_
  refine sq (St.closed _ _ _ _) (q_ne (p := n) (q := n) rfl rfl) rfl ?_
  refine send ?_
  refine eseq ?_
  refine condd rfl (fun h1 => ?_) (fun h1 => ?_)
  · refine HT.seq ?_
    refine HT.plain ?_
    refine sq (St.closed _ _ _ _) (q_assign rfl) rfl ?_
    refine send ?_
    refine eseq ?_
    refine HT.ret ?_
    refine rt_then ?_
    exact absurd rfl (by omega)
  · refine HT.skip ?_
    refine eseq ?_
    refine HT.seq ?_
    refine HT.seq ?_
    refine HT.plain ?_
    refine sq (St.closed _ _ _ _) (q_move rfl) rfl ?_
    refine sq (St.closed _ _ _ _) (q_len (len := n) rfl Tryz.underlying27) rfl ?_
    refine sq (St.closed _ _ _ _) (q_move rfl) rfl ?_
    refine send ?_
    refine eseq ?_
    refine HT.block ?_
    refine HT.loop (ι := {i : Nat // i ≤ n}) (fun i => [(0, (.slice A n c)), (1, (.slice A2 n c2)), (2, (.func (.func 48) #[] #[])), (6, (.bool false)), (15, (.slice A n c)), (16, (.int .i64 ((n : Nat) : Int))), (17, (.int .i64 ((i.1 : Nat) : Int)))]) (fun _ => St w [] [] [Cel A n c 2 (ps.flatMap fun p => [p.1.val, p.2.val]), Cel A2 n c2 2 (ps2.flatMap fun p => [p.1.val, p.2.val]), Fact.all (ps.flatMap fun p => [p.1.fact, p.2.fact]), Fact.all (ps2.flatMap fun p => [p.1.fact, p.2.fact])]) (fun i => n - i.1) ⟨0, Nat.zero_le _⟩ ⟨rfl, rfl, rfl, rfl, rfl, rfl, rfl, trivial⟩ (fun _ h => h) fun ⟨i, hi⟩ => ?_
    refine HT.seq ?_
    refine HT.plain ?_
    refine sq (St.closed _ _ _ _) (q_lt (p := i) (q := n) rfl rfl) rfl ?_
    refine send ?_
    refine eseq ?_
    refine HT.seq ?_
    refine condd rfl (fun h2 => ?_) (fun h2 => ?_)
    · refine HT.skip ?_
      refine eseq ?_
      refine HT.seq ?_
      refine HT.block ?_
      refine HT.seq ?_
      refine HT.plain ?_
      refine sq (St.closed _ _ _ _) (q_move rfl) rfl ?_
      refine sq (St.closed _ _ _ _) (q_indexC (i := i) (sz := 2) rfl rfl Tryz.underlying27 size_49 (fun _ h => h.fact (j := 0) rfl) (by decide) (by omega)) rfl ?_
      refine sq (St.closed _ _ _ _) (q_celAgg (i := i * 2) rfl aggs_49 (fun _ h => h.fact (j := 0) rfl) (flat2 ps i (by omega)).1 (flat2 ps i (by omega)).2) rfl ?_
      refine sl_ (l_alloc (by decide) zero_49 fun b8 => ?_)
      refine sq (St.closed _ _ _ _) (q_assign rfl) rfl ?_
      refine sl_ (l_storeAgg (b := b8) (off := 0) (j := 0) (vs := [(.slice (ps.getD i pi0).1.A (ps.getD i pi0).1.n (ps.getD i pi0).1.c), (.slice (ps.getD i pi0).2.A (ps.getD i pi0).2.n (ps.getD i pi0).2.c)]) rfl rfl aggs_49 (by simp [Value.one1]) rfl rfl rfl (Nat.le_of_ble_eq_true rfl) ?_)
      refine send ?_
      refine eseq ?_
      refine HT.seq ?_
      refine HT.plain ?_
      refine sq (St.closed _ _ _ _) (q_move rfl) rfl ?_
      refine sq (St.closed _ _ _ _) (q_move rfl) rfl ?_
      refine sq (St.closed _ _ _ _) (q_indexC (i := i) (sz := 2) rfl rfl Tryz.underlying27 size_49 (fun _ h => h.fact (j := 1) rfl) (by decide) (by omega)) rfl ?_
      refine sq (St.closed _ _ _ _) (q_celAgg (i := i * 2) rfl aggs_49 (fun _ h => h.fact (j := 1) rfl) (flat2 ps2 i (by omega)).1 (flat2 ps2 i (by omega)).2) rfl ?_
      refine sl_ (l_alloc (by decide) zero_49 fun b9 => ?_)
      refine sl_ (l_storeAgg (b := b9) (off := 0) (j := 1) (vs := [(.slice (ps2.getD i pi0).1.A (ps2.getD i pi0).1.n (ps2.getD i pi0).1.c), (.slice (ps2.getD i pi0).2.A (ps2.getD i pi0).2.n (ps2.getD i pi0).2.c)]) rfl rfl aggs_49 (by simp [Value.one1]) rfl rfl rfl (Nat.le_of_ble_eq_true rfl) ?_)
      refine send ?_
      refine eseq ?_
      refine HT.seq ?_
      refine HT.plain ?_
      refine sq (St.closed _ _ _ _) (q_move rfl) rfl ?_
      refine sq (St.closed _ _ _ _) (q_loadAgg (b := b8) (off := 0) (j := 0) (vs := [(.slice (ps.getD i pi0).1.A (ps.getD i pi0).1.n (ps.getD i pi0).1.c), (.slice (ps.getD i pi0).2.A (ps.getD i pi0).2.n (ps.getD i pi0).2.c)]) rfl aggs_49 (fun _ h => h) rfl rfl rfl) rfl ?_
      refine sq (St.closed _ _ _ _) (q_loadAgg (b := b9) (off := 0) (j := 1) (vs := [(.slice (ps2.getD i pi0).1.A (ps2.getD i pi0).1.n (ps2.getD i pi0).1.c), (.slice (ps2.getD i pi0).2.A (ps2.getD i pi0).2.n (ps2.getD i pi0).2.c)]) rfl aggs_49 (fun _ h => h) rfl rfl rfl) rfl ?_
      refine sq (St.closed _ _ _ _) (q_callC (vs := [(.agg #[(.slice (ps.getD i pi0).1.A (ps.getD i pi0).1.n (ps.getD i pi0).1.c), (.slice (ps.getD i pi0).2.A (ps.getD i pi0).2.n (ps.getD i pi0).2.c)]), (.agg #[(.slice (ps2.getD i pi0).1.A (ps2.getD i pi0).1.n (ps2.getD i pi0).1.c), (.slice (ps2.getD i pi0).2.A (ps2.getD i pi0).2.n (ps2.getD i pi0).2.c)])]) (v := (.bool true)) rfl rfl ca_48 (fun w h => eqPart w (ps.getD i pi0) (ps2.getD i pi0) (piEq hb i).1 (piEq hb i).2 (hs i) (St.facts4 (h.fact (j := 2) rfl _ (pimem (by omega)).1) (h.fact (j := 2) rfl _ (pimem (by omega)).2) (h.fact (j := 3) rfl _ (pimem (by omega)).1) (h.fact (j := 3) rfl _ (pimem (by omega)).2)))) rfl ?_
      refine sq (St.closed _ _ _ _) (q_not rfl) rfl ?_
      refine send ?_
      refine eseq ?_
      refine HT.no rfl ?_
      refine HT.skip ?_
      refine ein ?_
      refine eseq ?_
      refine HT.plain ?_
      refine sq (St.closed _ _ _ _) (q_add (p := i) (q := 1) rfl rfl (show i + 1 < 9223372036854775808 by omega)) rfl ?_
      refine sq (St.closed _ _ _ _) (q_move rfl) rfl ?_
      refine send ?_
      exact eround ⟨i + 1, by omega⟩ (show n - (i + 1) < n - i by omega) ⟨rfl, rfl, rfl, rfl, rfl, rfl, rfl, trivial⟩ (fun _ h => h.wk [] rfl)
    · refine HT.exit ?_
      refine ex_then ?_
      refine ex_then ?_
      refine ex_in ?_
      refine eseq ?_
      refine HT.seq ?_
      refine HT.plain ?_
      refine sq (St.closed _ _ _ _) (q_assign rfl) rfl ?_
      refine send ?_
      refine eseq ?_
      refine HT.ret ?_
      exact fun a ha w' hw => fin_ ha (res1 ha Tryz.results52 rfl) ⟨rfl, hw.pres⟩

theorem Lay.fact_of {L : Lay} {w : World} (h : (LayF L).ok w) {φ : Fact} (hm : φ ∈ L.facts) : φ.ok w := h φ hm
theorem eqDs (w : World) (L M : Lay) (hd : L.data = M.data) (hs : L.data.small) (hL : (LayF L).ok w) (hM : (LayF M).ok w) : Calls Tryz.prog 51 #[.slice L.dA L.dn L.dc, .slice M.dA M.dn M.dc, .func (.func 50) #[] #[]] w (fun e w' => e = .returned (.bool true) ∧ Pres [] w w') := by
  have e : L.ds.map BI.bs = M.ds.map BI.bs := congrArg LD.ds hd
  have f1 := Lay.fact_of hL (φ := Cel L.dA L.dn L.dc 1 (L.ds.map BI.val)) (by simp [Lay.facts])
  have f2 := Lay.fact_of hM (φ := Cel M.dA M.dn M.dc 1 (M.ds.map BI.val)) (by simp [Lay.facts])
  have n1 : L.dn = L.ds.length := by have := f1.1; simpa using this.symm
  have n2 : M.dn = M.ds.length := by have := f2.1; simpa using this.symm
  have n3 : L.ds.length = M.ds.length := by have := congrArg List.length e; simpa using this
  have n4 : L.ds.length ≤ 1000 := by have := hs.2.1; simpa [Lay.data] using this
  have n5 : M.dn = L.dn := by omega
  rw [n5] at f2 ⊢
  exact eqRows w _ _ _ _ _ L.ds M.ds n1 (by omega) e (by omega) (St.facts4 f1 f2 (fun φ hφ => hL φ (by simp only [Lay.facts, List.mem_append]; exact .inl (.inr hφ))) (fun φ hφ => hM φ (by simp only [Lay.facts, List.mem_append]; exact .inl (.inr hφ))))
theorem eqPs (w : World) (L M : Lay) (hd : L.data = M.data) (hs : L.data.small) (hL : (LayF L).ok w) (hM : (LayF M).ok w) : Calls Tryz.prog 52 #[.slice L.pA L.pn L.pc, .slice M.pA M.pn M.pc, .func (.func 48) #[] #[]] w (fun e w' => e = .returned (.bool true) ∧ Pres [] w w') := by
  have e : L.ps.map (fun p => (p.1.xs, p.2.bs)) = M.ps.map (fun p => (p.1.xs, p.2.bs)) := congrArg LD.ps hd
  have f1 := Lay.fact_of hL (φ := Cel L.pA L.pn L.pc 2 (L.ps.flatMap fun p => [p.1.val, p.2.val])) (by simp [Lay.facts])
  have f2 := Lay.fact_of hM (φ := Cel M.pA M.pn M.pc 2 (M.ps.flatMap fun p => [p.1.val, p.2.val])) (by simp [Lay.facts])
  have n1 : L.pn = L.ps.length := by have := f1.1; rw [flat_len] at this; omega
  have n2 : M.pn = M.ps.length := by have := f2.1; rw [flat_len] at this; omega
  have n3 : L.ps.length = M.ps.length := by have := congrArg List.length e; simpa using this
  have n4 : L.ps.length ≤ 1000 := by have := hs.2.2.1; simpa [Lay.data] using this
  have n5 : M.pn = L.pn := by omega
  have hsm : ∀ i : Nat, (L.ps.getD i pi0).1.xs.length ≤ 1000 := by
    intro i
    rcases Nat.lt_or_ge i L.ps.length with h | h
    · rw [List.getD_eq_getElem?_getD, List.getElem?_eq_getElem h, Option.getD_some]
      exact hs.2.2.2 (L.ps[i].1.xs, L.ps[i].2.bs) (List.mem_map.2 ⟨_, List.getElem_mem h, rfl⟩)
    · rw [List.getD_eq_getElem?_getD, List.getElem?_eq_none h]
      simp
  rw [n5] at f2 ⊢
  exact eqParts w _ _ _ _ _ L.ps M.ps n1 (by omega) e hsm (by omega) (St.facts4 f1 f2 (fun φ hφ => hL φ (by simp only [Lay.facts, List.mem_append]; exact .inr hφ)) (fun φ hφ => hM φ (by simp only [Lay.facts, List.mem_append]; exact .inr hφ)))
theorem eqNs (w : World) (L M : Lay) (hd : L.data = M.data) (hs : L.data.small) (hL : (LayF L).ok w) (hM : (LayF M).ok w) : Calls Tryz.prog 49 #[L.nums.val, M.nums.val] w (fun e w' => e = .returned (.bool true) ∧ Pres [] w w') :=
  eqNI w L.nums M.nums (congrArg LD.nums hd) hs.1 (Lay.fact_of hL (φ := _) (by simp [Lay.facts])) (Lay.fact_of hM (φ := _) (by simp [Lay.facts]))
theorem eqPay (w : World) (L M : Lay) (hd : L.data = M.data) (hL : (LayF L).ok w) (hM : (LayF M).ok w) : Calls Tryz.prog 50 #[L.pay.val, M.pay.val] w (fun e w' => e = .returned (.bool true) ∧ Pres [] w w') :=
  eqBI w L.pay M.pay (congrArg LD.pay hd) (Lay.fact_of hL (φ := _) (by simp [Lay.facts])) (Lay.fact_of hM (φ := _) (by simp [Lay.facts]))

theorem sameC (w : World) (L : Lay) (M : Lay) (hd : L.data = M.data) (hs : L.data.small) (hst : St w [] [] [LayF L, LayF M] w) : Calls Tryz.prog 28 #[(.agg #[(.slice L.nums.A L.nums.n L.nums.c), (.slice L.dA L.dn L.dc), (.slice L.pA L.pn L.pc), (.slice L.pay.A L.pay.n L.pay.c)]), (.agg #[(.slice M.nums.A M.nums.n M.nums.c), (.slice M.dA M.dn M.dc), (.slice M.pA M.pn M.pc), (.slice M.pay.A M.pay.n M.pay.c)])] w (fun e w' => e = .returned (.bool true) ∧ Pres [] w w') := by
  refine enter (vs := [(.agg #[(.slice L.nums.A L.nums.n L.nums.c), (.slice L.dA L.dn L.dc), (.slice L.pA L.pn L.pc), (.slice L.pay.A L.pay.n L.pay.c)]), (.agg #[(.slice M.nums.A M.nums.n M.nums.c), (.slice M.dA M.dn M.dc), (.slice M.pA M.pn M.pc), (.slice M.pay.A M.pay.n M.pay.c)])]) Tryz.func28 rfl rfl rfl hst ?_
  refine HT.seq ?_
  refine HT.plain ?_
  refine sl_ (l_box (by decide) rfl fun b2 => ?_)
  refine sl_ (l_box (by decide) rfl fun b3 => ?_)
  refine sq (St.closed _ _ _ _) (q_assign rfl) rfl ?_
  refine send ?_
  refine eseq ?_
  refine HT.seq ?_
  refine HT.plain ?_
  refine sq (St.closed _ _ _ _) (q_assign rfl) rfl ?_
  refine send ?_
  refine eseq ?_
  refine HT.seq ?_
  refine HT.plain ?_
  refine sq (St.closed _ _ _ _) (q_field (b := b2) (off := 0) rfl fo_29_0) rfl ?_
  refine sq (St.closed _ _ _ _) (q_load (b := b2) (off := 0) (j := 0) rfl nagg_25 (fun _ h => h) rfl rfl rfl) rfl ?_
  refine sq (St.closed _ _ _ _) (q_field (b := b3) (off := 0) rfl fo_29_0) rfl ?_
  refine sq (St.closed _ _ _ _) (q_load (b := b3) (off := 0) (j := 1) rfl nagg_25 (fun _ h => h) rfl rfl rfl) rfl ?_
  refine sq (St.closed _ _ _ _) (q_call (vs := [(.slice L.nums.A L.nums.n L.nums.c), (.slice M.nums.A M.nums.n M.nums.c)]) (v := (.bool true)) rfl ca_49 (fun w h => eqNs w L M hd hs (h.fact (j := 0) rfl) (h.fact (j := 1) rfl))) rfl ?_
  refine sq (St.closed _ _ _ _) (q_move rfl) rfl ?_
  refine sgq (St.closed _ _ _ _) rfl (q_field (b := b2) (off := 0) rfl fo_29_1) rfl ?_
  refine sgq (St.closed _ _ _ _) rfl (q_load (b := b2) (off := 1) (j := 0) rfl nagg_26 (fun _ h => h) rfl rfl rfl) rfl ?_
  refine sgq (St.closed _ _ _ _) rfl (q_field (b := b3) (off := 0) rfl fo_29_1) rfl ?_
  refine sgq (St.closed _ _ _ _) rfl (q_load (b := b3) (off := 1) (j := 1) rfl nagg_26 (fun _ h => h) rfl rfl rfl) rfl ?_
  refine sgq (St.closed _ _ _ _) rfl (q_call (vs := [(.slice L.dA L.dn L.dc), (.slice M.dA M.dn M.dc), (.func (.func 50) #[] #[])]) (v := (.bool true)) rfl ca_51 (fun w h => eqDs w L M hd hs (h.fact (j := 0) rfl) (h.fact (j := 1) rfl))) rfl ?_
  refine sq (St.closed _ _ _ _) (q_pick rfl (fun _ => rfl) (fun h => nomatch h)) rfl ?_
  refine sq (St.closed _ _ _ _) (q_move rfl) rfl ?_
  refine sgq (St.closed _ _ _ _) rfl (q_field (b := b2) (off := 0) rfl fo_29_2) rfl ?_
  refine sgq (St.closed _ _ _ _) rfl (q_load (b := b2) (off := 2) (j := 0) rfl nagg_27 (fun _ h => h) rfl rfl rfl) rfl ?_
  refine sgq (St.closed _ _ _ _) rfl (q_field (b := b3) (off := 0) rfl fo_29_2) rfl ?_
  refine sgq (St.closed _ _ _ _) rfl (q_load (b := b3) (off := 2) (j := 1) rfl nagg_27 (fun _ h => h) rfl rfl rfl) rfl ?_
  refine sgq (St.closed _ _ _ _) rfl (q_move rfl) rfl ?_
  refine sgq (St.closed _ _ _ _) rfl (q_call (vs := [(.slice L.pA L.pn L.pc), (.slice M.pA M.pn M.pc), (.func (.func 48) #[] #[])]) (v := (.bool true)) rfl ca_52 (fun w h => eqPs w L M hd hs (h.fact (j := 0) rfl) (h.fact (j := 1) rfl))) rfl ?_
  refine sq (St.closed _ _ _ _) (q_pick rfl (fun _ => rfl) (fun h => nomatch h)) rfl ?_
  refine sq (St.closed _ _ _ _) (q_move rfl) rfl ?_
  refine sgq (St.closed _ _ _ _) rfl (q_field (b := b2) (off := 0) rfl fo_29_3) rfl ?_
  refine sgq (St.closed _ _ _ _) rfl (q_load (b := b2) (off := 3) (j := 0) rfl nagg_22 (fun _ h => h) rfl rfl rfl) rfl ?_
  refine sgq (St.closed _ _ _ _) rfl (q_field (b := b3) (off := 0) rfl fo_29_3) rfl ?_
  refine sgq (St.closed _ _ _ _) rfl (q_load (b := b3) (off := 3) (j := 1) rfl nagg_22 (fun _ h => h) rfl rfl rfl) rfl ?_
  refine sgq (St.closed _ _ _ _) rfl (q_call (vs := [(.slice L.pay.A L.pay.n L.pay.c), (.slice M.pay.A M.pay.n M.pay.c)]) (v := (.bool true)) rfl ca_50 (fun w h => eqPay w L M hd (h.fact (j := 0) rfl) (h.fact (j := 1) rfl))) rfl ?_
  refine sq (St.closed _ _ _ _) (q_pick rfl (fun _ => rfl) (fun h => nomatch h)) rfl ?_
  refine sq (St.closed _ _ _ _) (q_assign rfl) rfl ?_
  refine send ?_
  refine eseq ?_
  refine HT.ret ?_
  exact fun a ha w' hw => fin_ ha (res1 ha Tryz.results28 rfl) ⟨rfl, hw.pres⟩
end Go.Proofs.YtfkaafbeeegenaaGreat.Zed
