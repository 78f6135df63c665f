/- Program-free: numbers of bytes, rows of cells, what a call owns, layers, calls with blocks of their own, copies of bytes, a map of names. -/
import Derived.Test.YtfkaafbeeegenaaGreatMem
import Derived.Maps.AppendAt
namespace Go.Proofs.YtfkaafbeeegenaaGreat.Zed
set_option linter.unusedVariables false
set_option linter.unusedSimpArgs false
open Go.RowKit

/-! ### Numbers of bytes, the highest first -/

def bN (r : List UInt8) (i : Nat) : Nat → Nat
  | 0 => 0
  | k + 1 => bN r i k * 256 + nb r (i + k)

theorem bN_lt (r : List UInt8) (i k N : Nat) (h : 256 ^ k = N) : bN r i k < N := by
  subst h
  induction k with
  | zero => simp [bN]
  | succ k ih =>
    have := nb_lt r (i + k)
    simp only [bN, Nat.pow_succ]
    omega

theorem bN_sl {r : List UInt8} {lo hi : Nat} (i : Nat) : ∀ k : Nat, lo + i + k ≤ hi → bN (sl r lo hi) i k = bN r (lo + i) k
  | 0, _ => rfl
  | k + 1, h => by
    simp only [bN]
    rw [bN_sl i k (by omega), nb_sl (by omega), Nat.add_assoc]

/-! ### Rows of cells -/

def Cel (A : Option Addr) (n c sz : Nat) (vs : List Value) : Fact where
  fp i := vs ≠ [] ∧ ∃ ad, A = some ad ∧ i = ad.block
  ok w := vs.length = n * sz ∧ n ≤ c ∧ (vs ≠ [] → ∃ ad, A = some ad ∧ ad.block < w.heap.size ∧ ∀ i v, vs[i]? = some v → w.cell? (ad.add i) = some v)
  inb := by
    rintro w ⟨_, _, h⟩ i ⟨hne, ad, hA, rfl⟩
    obtain ⟨ad', hA', hlt, _⟩ := h hne
    rw [hA] at hA'
    obtain rfl := Option.some.inj hA'
    exact hlt
  stable := by
    rintro w w' ⟨h1, h2, h⟩ hs
    refine ⟨h1, h2, fun hne => ?_⟩
    obtain ⟨ad, hA, hlt, hc⟩ := h hne
    have hb := hs ad.block ⟨hne, ad, hA, rfl⟩
    refine ⟨ad, hA, ?_, fun i v hi => ?_⟩
    · rcases Nat.lt_or_ge ad.block w'.heap.size with h' | h'
      · exact h'
      · rw [Array.getElem?_eq_none h'] at hb
        exact absurd hb.symm (by rw [Array.getElem?_eq_getElem hlt]; simp)
    · rw [← hc i v hi]
      unfold World.cell?
      rw [add_block, hb]

theorem fits_some : ∀ {vs c : List Value}, fits (vs.map some) c → c = vs
  | [], [], _ => rfl
  | v :: vs, u :: c, h => by rw [h.1, fits_some (vs := vs) (c := c) h.2]
  | [], _ :: _, h => h.elim
  | _ :: _, [], h => h.elim

theorem add_mk (b i : Nat) : Addr.add ⟨b, 0, none⟩ i = ⟨b, i, none⟩ := by
  unfold Addr.add
  split
  · rename_i h0; simp [h0]
  · simp

theorem fits_pre {vs : List Value} {r : List (Option Value)} {c : List Value} (h : fits (vs.map some ++ r) c) (i : Nat) (v : Value) (hi : vs[i]? = some v) : c[i]? = some v := by
  refine fits_get h ?_
  rw [List.getElem?_append_left (by rw [List.length_map]; exact (List.getElem?_eq_some_iff.1 hi).1)]
  simp [hi]

/-- A known block's head is a row. -/
theorem Kb.ok.cel {k : Kb} {w : World} (h : k.ok w) {n cp sz : Nat} {vs : List Value} {r : List (Option Value)} (hcs : k.cs = vs.map some ++ r) (hn : vs.length = n * sz) (hc : n ≤ cp) : (Cel (some ⟨k.num, 0, none⟩) n cp sz vs).ok w := by
  refine ⟨hn, hc, fun _ => ⟨⟨k.num, 0, none⟩, rfl, h.lt, fun i v hi => ?_⟩⟩
  rw [add_mk]
  obtain ⟨c, hcell, hf⟩ := h
  rw [hcs] at hf
  have := fits_pre hf i v hi
  unfold World.cell?
  simp [hcell, this]

def Fact.all (l : List Fact) : Fact where
  fp i := ∃ φ ∈ l, φ.fp i
  ok w := ∀ φ ∈ l, φ.ok w
  inb := by
    rintro w h i ⟨φ, hφ, hi⟩
    exact φ.inb w (h φ hφ) i hi
  stable := by
    intro w w' h hs φ hφ
    exact φ.stable w w' (h φ hφ) fun i hi => hs i ⟨φ, hφ, hi⟩

/-- A fact that stands, on blocks that are new since w0 or that the facts R speak of. -/
def Own (w0 : World) (R : Fact) (φ : Fact) (w : World) : Prop := φ.ok w ∧ ∀ i, φ.fp i → w0.heap.size ≤ i ∨ R.fp i

theorem Own.all {w0 : World} {R : Fact} {l : List Fact} {w : World} (h : ∀ φ ∈ l, Own w0 R φ w) : Own w0 R (Fact.all l) w :=
  ⟨fun φ hφ => (h φ hφ).1, fun i ⟨φ, hφ, hi⟩ => (h φ hφ).2 i hi⟩
theorem Own.cel {w0 w : World} {R : Fact} {K : List Kb} {B : List Fact} (h : St w0 [] K B w) {j : Nat} {k : Kb} (hk : K[j]? = some k) (hrw : k.rw = true) {n cp sz : Nat} {vs : List Value} {r : List (Option Value)} (hcs : k.cs = vs.map some ++ r) (hn : vs.length = n * sz) (hc : n ≤ cp) :
    Own w0 R (Cel (some ⟨k.num, 0, none⟩) n cp sz vs) w := by
  refine ⟨(h.kb hk).cel hcs hn hc, fun i hi => ?_⟩
  obtain ⟨_, ad, ha, rfl⟩ := hi
  obtain rfl := Option.some.inj ha
  rcases h.wr k (List.mem_of_getElem? hk) hrw with h' | h'
  · cases h'
  · exact .inl h'
theorem Own.cut {w0 w : World} {R : Fact} {M : List Nat} {K : List Kb} {B : List Fact} (h : St w0 M K B w) {j : Nat} {A : Option Addr} {n c : Nat} {bs : List UInt8} (hj : B[j]? = some (Byt A n c bs)) (hR : ∀ i, (Byt A n c bs).fp i → w0.heap.size ≤ i ∨ R.fp i) {lo hi : Nat} (h1 : lo ≤ hi) (h2 : hi ≤ n) :
    Own w0 R (Byt (cutA A c lo) (hi - lo) (c - lo) (sl bs lo hi)) w :=
  ⟨Byt.cut (h.fact hj) h1 h2, fun i hi' => hR i (Byt.cut_fp hi'.1 hi')⟩
theorem Own.byt {w0 w : World} {R : Fact} {M : List Nat} {K : List Kb} {B : List Fact} (h : St w0 M K B w) {j : Nat} {φ : Fact} (hj : B[j]? = some φ) (hR : ∀ i, φ.fp i → w0.heap.size ≤ i ∨ R.fp i) : Own w0 R φ w :=
  ⟨h.fact hj, hR⟩
theorem Own.nilCel {w0 w : World} {R : Fact} (sz : Nat) : Own w0 R (Cel none 0 0 sz []) w := ⟨⟨by simp, Nat.le_refl _, fun h => absurd rfl h⟩, fun i hi => absurd rfl hi.1⟩
theorem Own.nilByt {w0 w : World} {R : Fact} : Own w0 R (Byt none 0 0 []) w := ⟨⟨rfl, Nat.le_refl _, fun h => absurd rfl h⟩, fun i hi => absurd rfl hi.1⟩

/-! ### Layers -/

/-- A slice of bytes in memory. -/
structure BI where
  A : Option Addr
  n : Nat
  c : Nat
  bs : List UInt8
abbrev BI.val (b : BI) : Value := .slice b.A b.n b.c
abbrev BI.fact (b : BI) : Fact := Byt b.A b.n b.c b.bs
/-- A slice of numbers in memory. -/
structure NI where
  A : Option Addr
  n : Nat
  c : Nat
  xs : List Nat
abbrev NI.val (b : NI) : Value := .slice b.A b.n b.c
abbrev NI.fact (b : NI) : Fact := Cel b.A b.n b.c 1 (b.xs.map fun x => .int .u64 ((x : Nat) : Int))
structure Lay where
  nums : NI
  dA : Option Addr
  dn : Nat
  dc : Nat
  ds : List BI
  pA : Option Addr
  pn : Nat
  pc : Nat
  ps : List (NI × BI)
  pay : BI
structure LD where
  nums : List Nat
  ds : List (List UInt8)
  ps : List (List Nat × List UInt8)
  pay : List UInt8
abbrev Lay.val (L : Lay) : Value := .agg #[L.nums.val, .slice L.dA L.dn L.dc, .slice L.pA L.pn L.pc, L.pay.val]
def Lay.facts (L : Lay) : List Fact :=
  [L.nums.fact, Cel L.dA L.dn L.dc 1 (L.ds.map BI.val), Cel L.pA L.pn L.pc 2 (L.ps.flatMap fun p => [p.1.val, p.2.val]), L.pay.fact] ++ L.ds.map BI.fact ++ L.ps.flatMap fun p => [p.1.fact, p.2.fact]
def LayF (L : Lay) : Fact := Fact.all L.facts
def Lay.data (L : Lay) : LD := ⟨L.nums.xs, L.ds.map BI.bs, L.ps.map fun p => (p.1.xs, p.2.bs), L.pay.bs⟩
abbrev nilS : Value := .slice none 0 0
abbrev emptyLay : Value := .agg #[nilS, nilS, nilS, nilS]

/-- What the reference comes to: untold (none), no layer (some none), a layer. -/
def SP (w : World) (R : Fact) : Option (Option LD) → Ending → World → Prop
  | none, e, w' => ∃ (a b c d : BI) (ok : Bool), e = .returned (.tuple #[.agg #[a.val, b.val, c.val, d.val], .bool ok, .bool false]) ∧ Pres [] w w'
  | some none, e, w' => e = .returned (.tuple #[emptyLay, .bool false, .bool true]) ∧ Pres [] w w'
  | some (some D), e, w' => ∃ L : Lay, e = .returned (.tuple #[L.val, .bool true, .bool true]) ∧ Pres [] w w' ∧ Own w R (LayF L) w' ∧ L.data = D
/-- What the package comes to, where the reference tells. -/
def IP (w : World) (R : Fact) : Option (Option LD) → Ending → World → Prop
  | none, _, _ => True
  | some none, e, w' => e = .returned (.tuple #[emptyLay, .bool false]) ∧ Pres [] w w'
  | some (some D), e, w' => ∃ L : Lay, e = .returned (.tuple #[L.val, .bool true]) ∧ Pres [] w w' ∧ Own w R (LayF L) w' ∧ L.data = D

theorem Own.lay {w0 w : World} {R : Fact} {L : Lay} (h : ∀ φ ∈ L.facts, Own w0 R φ w) : Own w0 R (LayF L) w := Own.all h

/-! ### A call with blocks of its own -/

/-- A call comes to one of the listed states. -/
def CP {ι : Type} (w : World) (M : List Nat) (Bc : List Fact) (vv : ι → Value) (Kc' : ι → List Kb) (Bn : ι → List Fact) (e : Ending) (w' : World) : Prop :=
  ∃ i, e = .returned (vv i) ∧ St w M (Kc' i) (Bc ++ Bn i) w' ∧ ∀ φ ∈ Bn i, ∀ b, φ.fp b → w.heap.size ≤ b

def selK (K : List Kb) : List Nat → List Kb
  | [] => []
  | i :: r => match K[i]? with
    | some k => k :: selK K r
    | none => selK K r
def memN (i : Nat) : List Nat → Bool
  | [] => false
  | j :: r => bif Nat.beq i j then true else memN i r
def minusK : List Kb → Nat → List Nat → List Kb
  | [], _, _ => []
  | k :: K, i, sp => bif memN i sp then minusK K (i + 1) sp else k :: minusK K (i + 1) sp
def selB (B : List Fact) : List Nat → List Fact
  | [] => []
  | i :: r => match B[i]? with
    | some k => k :: selB B r
    | none => selB B r

theorem memN_iff {i : Nat} : ∀ {l : List Nat}, memN i l = true ↔ i ∈ l
  | [] => by simp [memN]
  | j :: r => by
    unfold memN
    rcases hb : Nat.beq i j with _ | _
    · have : i ≠ j := by rintro rfl; simp at hb
      simp [this, memN_iff (i := i) (l := r)]
    · have := Nat.eq_of_beq_eq_true hb
      simp [this]
theorem selK_mem {K : List Kb} : ∀ {sp : List Nat} {k : Kb}, k ∈ selK K sp → ∃ i ∈ sp, K[i]? = some k
  | [], k, h => by simp [selK] at h
  | i :: r, k, h => by
    unfold selK at h
    split at h
    · rename_i y hy
      rcases List.mem_cons.1 h with rfl | h
      · exact ⟨i, List.mem_cons_self, hy⟩
      · obtain ⟨i', hi', hk⟩ := selK_mem h
        exact ⟨i', List.mem_cons_of_mem _ hi', hk⟩
    · obtain ⟨i', hi', hk⟩ := selK_mem h
      exact ⟨i', List.mem_cons_of_mem _ hi', hk⟩
theorem selB_mem {B : List Fact} : ∀ {sp : List Nat} {k : Fact}, k ∈ selB B sp → k ∈ B
  | [], k, h => by simp [selB] at h
  | i :: r, k, h => by
    unfold selB at h
    split at h
    · rename_i y hy
      rcases List.mem_cons.1 h with rfl | h
      · exact List.mem_of_getElem? hy
      · exact selB_mem h
    · exact selB_mem h
theorem minusK_mem : ∀ {K : List Kb} {i : Nat} {sp : List Nat} {k : Kb}, k ∈ minusK K i sp → ∃ j, K[j]? = some k ∧ i + j ∉ sp
  | [], i, sp, k, h => by simp [minusK] at h
  | y :: K, i, sp, k, h => by
    unfold minusK at h
    rcases hm : memN i sp with _ | _
    · rw [hm] at h
      simp only [cond_false, List.mem_cons] at h
      rcases h with rfl | h
      · exact ⟨0, rfl, fun hc => by rw [Nat.add_zero, ← memN_iff, hm] at hc; cases hc⟩
      · obtain ⟨j, hj, hn⟩ := minusK_mem h
        exact ⟨j + 1, by simpa using hj, by rwa [show i + (j + 1) = i + 1 + j by omega]⟩
    · rw [hm] at h
      simp only [cond_true] at h
      obtain ⟨j, hj, hn⟩ := minusK_mem h
      exact ⟨j + 1, by simpa using hj, by rwa [show i + (j + 1) = i + 1 + j by omega]⟩
theorem minusK_nd : ∀ {K : List Kb} {i : Nat} {sp : List Nat}, (K.map Kb.num).Nodup → ((minusK K i sp).map Kb.num).Nodup
  | [], i, sp, h => by simp [minusK]
  | y :: K, i, sp, h => by
    rw [List.map_cons, List.nodup_cons] at h
    have ih := minusK_nd (K := K) (i := i + 1) (sp := sp) h.2
    unfold minusK
    rcases memN i sp with _ | _
    · simp only [cond_false, List.map_cons, List.nodup_cons]
      refine ⟨fun hm => h.1 ?_, ih⟩
      obtain ⟨k, hk, hn⟩ := List.mem_map.1 hm
      obtain ⟨j, hj, _⟩ := minusK_mem hk
      exact List.mem_map.2 ⟨k, List.mem_of_getElem? hj, hn⟩
    · simpa using ih

theorem nd_inj {K : List Kb} (hnd : (K.map Kb.num).Nodup) {i j : Nat} {x y : Kb} (hi : K[i]? = some x) (hj : K[j]? = some y) (hn : x.num = y.num) : i = j := by
  have h1 : (K.map Kb.num)[i]? = some x.num := by simp [hi]
  have h2 : (K.map Kb.num)[j]? = some y.num := by simp [hj]
  rw [← hn] at h2
  have l1 : i < (K.map Kb.num).length := (List.getElem?_eq_some_iff.1 h1).1
  exact (List.getElem?_inj l1 hnd).1 (h1.trans h2.symm)

/-- The state that a call begins with. -/
theorem St.enter {w0 : World} {M : List Nat} {K : List Kb} {B : List Fact} {w : World} (h : St w0 M K B w) {sp : List Nat} {Kc : List Kb} {bi : List Nat} {Bc : List Fact} (hK : selK K sp = Kc) (hnd : ndB sp = true) (hB : selB B bi = Bc) : St w (Kc.map Kb.num) Kc Bc w := by
  subst hK
  subst hB
  refine ⟨Pres.refl _ _, fun k hk => ?_, ?_, fun k hk _ => .inl (List.mem_map_of_mem hk), fun φ hφ => h.facts φ (selB_mem hφ), fun φ hφ k hk hr => ?_⟩
  · obtain ⟨i, _, hi⟩ := selK_mem hk
    exact h.kb hi
  · have hnd' := ndB_spec hnd
    clear hnd
    induction sp with
    | nil => simp [selK]
    | cons i r ih =>
      rw [List.nodup_cons] at hnd'
      unfold selK
      split
      · rename_i y hy
        rw [List.map_cons, List.nodup_cons]
        refine ⟨fun hm => ?_, ih hnd'.2⟩
        obtain ⟨k, hk, hn⟩ := List.mem_map.1 hm
        obtain ⟨i', hi', hk'⟩ := selK_mem hk
        exact hnd'.1 (nd_inj h.nd hk' hy hn ▸ hi')
      · exact ih hnd'.2
  · obtain ⟨i, _, hi⟩ := selK_mem hk
    exact h.apart φ (selB_mem hφ) k (List.mem_of_getElem? hi) hr

/-- The state that it leaves. -/
theorem St.back {w0 : World} {M : List Nat} {K : List Kb} {B : List Fact} {w w' : World} (h : St w0 M K B w) {sp : List Nat} {Kc Kc' : List Kb} {Bc Bn : List Fact} (hK : selK K sp = Kc) (hrw : (Kc.all fun k => k.rw) = true)
    (hnum : (Kc'.take Kc.length).map Kb.num = Kc.map Kb.num) (hs : St w (Kc.map Kb.num) Kc' (Bc ++ Bn) w') (hf : ∀ φ ∈ Bn, ∀ b, φ.fp b → w.heap.size ≤ b)
    (hall : (Kc'.all fun k => k.rw) = true) : St w0 M (minusK K 0 sp ++ Kc') (B ++ Bn) w' := by
  subst hK
  have hMc : ∀ i ∈ (selK K sp).map Kb.num, ∃ k ∈ K, k.rw = true ∧ k.num = i := by
    intro i hi
    obtain ⟨k, hk, rfl⟩ := List.mem_map.1 hi
    obtain ⟨j, _, hj⟩ := selK_mem hk
    exact ⟨k, List.mem_of_getElem? hj, List.all_eq_true.1 hrw k hk, rfl⟩
  have hnew : ∀ k ∈ Kc', k.num ∈ (selK K sp).map Kb.num ∨ w.heap.size ≤ k.num := fun k hk => hs.wr k hk (List.all_eq_true.1 hall k hk)
  have hpres : Pres M w0 w' := h.pres.trans hs.pres fun i hi => by
    obtain ⟨k, hk, hr, rfl⟩ := hMc i hi
    exact h.wr k hk hr
  have hout : ∀ k ∈ minusK K 0 sp, k ∈ K ∧ k.num ∉ (selK K sp).map Kb.num := by
    intro k hk
    obtain ⟨j, hj, hn⟩ := minusK_mem hk
    refine ⟨List.mem_of_getElem? hj, fun hm => hn ?_⟩
    obtain ⟨y, hy, hyn⟩ := List.mem_map.1 hm
    obtain ⟨i, hi, hiy⟩ := selK_mem hy
    rw [Nat.zero_add, nd_inj h.nd hj hiy hyn.symm]
    exact hi
  refine ⟨hpres, fun k hk => ?_, ?_, fun k hk hr => ?_, fun φ hφ => ?_, fun φ hφ k hk hr => ?_⟩
  · rcases List.mem_append.1 hk with hk | hk
    · exact (h.ok k (hout k hk).1).pres hs.pres (hout k hk).2
    · exact hs.ok k hk
  · rw [List.map_append, List.nodup_append]
    refine ⟨minusK_nd h.nd, hs.nd, ?_⟩
    intro a ha b hb hab
    subst hab
    obtain ⟨k, hk, rfl⟩ := List.mem_map.1 ha
    obtain ⟨y, hy, hyn⟩ := List.mem_map.1 hb
    rcases hnew y hy with h' | h'
    · exact (hout k hk).2 (hyn ▸ h')
    · have := (h.ok k (hout k hk).1).lt
      omega
  · rcases List.mem_append.1 hk with hk | hk
    · exact h.wr k (hout k hk).1 hr
    · rcases hnew k hk with h' | h'
      · obtain ⟨y, hy, hyr, hyn⟩ := hMc _ h'
        exact hyn ▸ h.wr y hy hyr
      · exact .inr (Nat.le_trans h.pres.size h')
  · rcases List.mem_append.1 hφ with hφ | hφ
    · refine φ.pres (h.facts φ hφ) hs.pres fun i hi => ?_
      obtain ⟨y, hy, hyr, rfl⟩ := hMc i hi
      exact h.apart φ hφ y hy hyr
    · exact hs.facts φ (List.mem_append_right _ hφ)
  · rcases List.mem_append.1 hφ with hφ | hφ
    · rcases List.mem_append.1 hk with hk | hk
      · exact h.apart φ hφ k (hout k hk).1 hr
      · rcases hnew k hk with h' | h'
        · obtain ⟨y, hy, hyr, hyn⟩ := hMc _ h'
          exact hyn ▸ h.apart φ hφ y hy hyr
        · intro hc
          have := φ.inb w (h.facts φ hφ) _ hc
          omega
    · rcases List.mem_append.1 hk with hk | hk
      · intro hc
        have h1 := hf φ hφ _ hc
        have h2 := (h.ok k (hout k hk).1).lt
        omega
      · exact hs.apart φ (List.mem_append_right _ hφ) k hk hr

section
variable {P : Program} {n : Nat} {m : Mp} {d : Option Tmp} {ty : TypeId} {pos : String} {af : Array Edge} {g : Option (Nat × Bool)} {x y c : Operand} {v u : Value}
variable {w0 : World} {M : List Nat} {K : List Kb} {B : List Fact} {Nx : Mp → (World → Prop) → Prop} {t : Nat}

/-- A call that may write the blocks sp, is told the facts bi of Bx, and brings new blocks and facts. -/
theorem l_callX {ι : Type} {f : FuncId} {xs : List Operand} {ats : Array TypeId} {vs : List Value} {vv : ι → Value} {Kc : List Kb} {Bx Bc : List Fact} {Kc' : ι → List Kb} {Bn : ι → List Fact} {K' : ι → List Kb}
    (sp bi : List Nat) (ht : t < n) (hx : evs m xs = some vs) (hf : callable P f = true) (hKc : selK K sp = Kc) (hBx : ∀ w, St w0 M K B w → St w0 M K Bx w) (hBc : selB Bx bi = Bc) (hnd : ndB sp = true) (hrw : (Kc.all fun k => k.rw) = true)
    (hc : ∀ w, St w (Kc.map Kb.num) Kc Bc w → Calls P f vs.toArray w (CP w (Kc.map Kb.num) Bc vv Kc' Bn))
    (hnum : ∀ i, ((Kc' i).take Kc.length).map Kb.num = Kc.map Kb.num) (hall : ∀ i, ((Kc' i).all fun k => k.rw) = true) (hK' : ∀ i, minusK K 0 sp ++ Kc' i = K' i)
    (h : ∀ i, (∀ φ ∈ Bn i, ∀ b, φ.fp b → w0.heap.size ≤ b) → (∃ w, ∀ φ ∈ Bn i, φ.ok w) → Nx ((t, vv i) :: m) (St w0 M (K' i) (B ++ Bn i))) : LF P n ⟨some t, .call ⟨.value (.func f), xs.toArray, ats⟩, ty, pos, af, g⟩ m (St w0 M K B) Nx :=
  l_call (by simpa using ht) hx hf fun w hw => (hc w ((hBx w hw).enter hKc hnd hBc)).mono fun e w' ⟨i, he, hs, hfr⟩ =>
    ⟨_, _, he, (hK' i) ▸ hw.back hKc hrw (hnum i) hs hfr (hall i), St.closed _ _ _ _, h i (fun φ hφ b hb => Nat.le_trans hw.pres.size (hfr φ hφ b hb)) ⟨w', fun φ hφ => hs.facts φ (List.mem_append_right _ hφ)⟩⟩
theorem l_invX {ι : Type} {f : FuncId} {T : TypeId} {name : String} {xs : List Operand} {ats : Array TypeId} {vs : List Value} {r u : Value} {vv : ι → Value} {Kc : List Kb} {Bx Bc : List Fact} {Kc' : ι → List Kb} {Bn : ι → List Fact} {K' : ι → List Kb}
    (sp bi : List Nat) (ht : t < n) (hiv : ev m c = some (.iface T u)) (hm : ∀ w, (method (P.types.size + Made.depth) T u name).run P w = .ok (f, r) w)
    (hx : evs m xs = some vs) (hf : callable P f = true) (hKc : selK K sp = Kc) (hBx : ∀ w, St w0 M K B w → St w0 M K Bx w) (hBc : selB Bx bi = Bc) (hnd : ndB sp = true) (hrw : (Kc.all fun k => k.rw) = true)
    (hc : ∀ w, St w (Kc.map Kb.num) Kc Bc w → Calls P f (r :: vs).toArray w (CP w (Kc.map Kb.num) Bc vv Kc' Bn))
    (hnum : ∀ i, ((Kc' i).take Kc.length).map Kb.num = Kc.map Kb.num) (hall : ∀ i, ((Kc' i).all fun k => k.rw) = true) (hK' : ∀ i, minusK K 0 sp ++ Kc' i = K' i)
    (h : ∀ i, (∀ φ ∈ Bn i, ∀ b, φ.fp b → w0.heap.size ≤ b) → (∃ w, ∀ φ ∈ Bn i, φ.ok w) → Nx ((t, vv i) :: m) (St w0 M (K' i) (B ++ Bn i))) : LF P n ⟨some t, .call ⟨.invoke c name, xs.toArray, ats⟩, ty, pos, af, g⟩ m (St w0 M K B) Nx :=
  l_invoke (by simpa using ht) hiv hm hx hf fun w hw => (hc w ((hBx w hw).enter hKc hnd hBc)).mono fun e w' ⟨i, he, hs, hfr⟩ =>
    ⟨_, _, he, (hK' i) ▸ hw.back hKc hrw (hnum i) hs hfr (hall i), St.closed _ _ _ _, h i (fun φ hφ b hb => Nat.le_trans hw.pres.size (hfr φ hφ b hb)) ⟨w', fun φ hφ => hs.facts φ (List.mem_append_right _ hφ)⟩⟩

/-! ### A copy of bytes -/

theorem Byt_of_row {w : World} {base e : Nat} {v : Value} {bs : List UInt8} (h : w.ownsRow base e 1 v bs.length (bs.map fun b => .int .u8 (b.toNat : Int))) :
    ∃ A cp, v = .slice A bs.length cp ∧ (Byt A bs.length cp bs).ok w ∧ ∀ i, (Byt A bs.length cp bs).fp i → base ≤ i := by
  rcases h.2 with ⟨rfl, h0⟩ | ⟨b, cap, cur, rfl, hb, hh, hnc, _, hcs, htk⟩
  · have : bs = [] := List.eq_nil_of_length_eq_zero h0
    subst this
    exact ⟨none, 0, rfl, ⟨rfl, Nat.le_refl _, fun h => absurd rfl h⟩, fun i hi => absurd rfl hi.1⟩
  · refine ⟨_, cap, rfl, ⟨rfl, hnc, fun _ => ⟨⟨b, 0, none⟩, rfl, ?_, fun i hi => ?_⟩⟩, fun i hi => ?_⟩
    · rcases Nat.lt_or_ge b w.heap.size with h' | h'
      · exact h'
      · rw [Array.getElem?_eq_none h'] at hh; cases hh
    · rw [add_mk]
      have h1 : (cur.toList.take (bs.length * 1))[i]? = some (.int .u8 (nb bs i : Int)) := by
        rw [htk]
        simp [nb, List.getD_eq_getElem?_getD, List.getElem?_eq_getElem hi]
      rw [List.getElem?_take, if_pos (by omega)] at h1
      unfold World.cell?
      simp at h1
      simp [hh, h1]
    · obtain ⟨_, ad, ha, rfl⟩ := hi
      obtain rfl := Option.some.inj ha
      exact hb

theorem Pres.of_grown {w w' : World} (h : w.grownBy w' none) : Pres [] w w' :=
  ⟨h.os, h.tape, h.output, h.size, fun i hi _ => h.block i hi (by simp)⟩
end
end Go.Proofs.YtfkaafbeeegenaaGreat.Zed
