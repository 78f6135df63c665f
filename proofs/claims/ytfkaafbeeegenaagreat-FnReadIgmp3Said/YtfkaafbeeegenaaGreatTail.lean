/- Program-free: states with a growing row behind the known blocks. -/
import Derived.Test.YtfkaafbeeegenaaGreatApp
namespace Go.Proofs.YtfkaafbeeegenaaGreat.Zed
set_option linter.unusedVariables false
set_option linter.unusedSimpArgs false
open Go.RowKit

/-- The order of the blocks does not matter. -/
theorem St.swap {w0 : World} {M : List Nat} {X Y Z : List Kb} {B : List Fact} {w : World} (h : St w0 M (X ++ Y ++ Z) B w) : St w0 M (X ++ Z ++ Y) B w := by
  have hm : ∀ k, k ∈ X ++ Z ++ Y → k ∈ X ++ Y ++ Z := by
    intro k hk
    simp only [List.mem_append] at hk ⊢
    rcases hk with (h | h) | h
    · exact .inl (.inl h)
    · exact .inr h
    · exact .inl (.inr h)
  refine ⟨h.pres, fun k hk => h.ok k (hm k hk), ?_, fun k hk => h.wr k (hm k hk), h.facts, fun φ hφ k hk => h.apart φ hφ k (hm k hk)⟩
  have hn := h.nd
  have hp : (X ++ Z ++ Y).Perm (X ++ Y ++ Z) := by
    rw [List.append_assoc, List.append_assoc]
    exact List.Perm.append_left X List.perm_append_comm
  exact (hp.map Kb.num).nodup_iff.2 hn

theorem St.swap_eq (w0 : World) (M : List Nat) (X Y Z : List Kb) (B : List Fact) : St w0 M (X ++ Y ++ Z) B = St w0 M (X ++ Z ++ Y) B := funext fun w => propext ⟨St.swap, St.swap⟩

theorem minusK_none : ∀ (K : List Kb) (i : Nat), minusK K i [] = K
  | [], _ => rfl
  | k :: K, i => by simp [minusK, memN, minusK_none K (i + 1)]

theorem wk_tail {K Kr : List Kb} : ∀ {sp : List (Nat × List Nat)}, (∀ p ∈ sp, p.1 < K.length) → wk (K ++ Kr) sp = wk K sp
  | [], _ => rfl
  | (i, os) :: r, h => by
    have h1 : (K ++ Kr)[i]? = K[i]? := List.getElem?_append_left (h (i, os) List.mem_cons_self)
    unfold wk
    rw [h1, wk_tail (sp := r) fun p hp => h p (List.mem_cons_of_mem _ hp)]

/-- The row is dropped from what is known. -/
theorem St.untail {w0 : World} {M : List Nat} {K Kr : List Kb} {B : List Fact} {w : World} (h : St w0 M (K ++ Kr) B w) : St w0 M K B w :=
  ⟨h.pres, fun k hk => h.ok k (List.mem_append_left _ hk), by
    have := h.nd
    rw [List.map_append, List.nodup_append] at this
    exact this.1, fun k hk => h.wr k (List.mem_append_left _ hk), h.facts, fun φ hφ k hk => h.apart φ hφ k (List.mem_append_left _ hk)⟩

section
variable {P : Program} {n : Nat} {m : Mp} {d : Option Tmp} {ty : TypeId} {pos : String} {af : Array Edge} {g : Option (Nat × Bool)} {x y c : Operand} {v u : Value}
variable {w0 : World} {M : List Nat} {K Kr : List Kb} {B : List Fact} {Nx : Mp → (World → Prop) → Prop} {t : Nat}

theorem l_allocT {e : TypeId} {z : Value} (ht : t < n) (hz : (P.info? e).bind (·.zero) = some z) (h : ∀ b, Nx ((t, .pointer (some ⟨b, 0, none⟩)) :: m) (St w0 M (K ++ [⟨b, e, z.cells.toList.map some, true⟩] ++ Kr) B)) :
    LF P n ⟨some t, .alloc e, ty, pos, af, g⟩ m (St w0 M (K ++ Kr) B) Nx :=
  l_alloc ht hz fun b => by rw [St.swap_eq]; exact h b
theorem l_boxT {e : TypeId} (ht : t < n) (hx : ev m x = some v) (h : ∀ b, Nx ((t, .pointer (some ⟨b, 0, none⟩)) :: m) (St w0 M (K ++ [⟨b, e, v.cells.toList.map some, true⟩] ++ Kr) B)) :
    LF P n ⟨some t, .box e x, ty, pos, af, g⟩ m (St w0 M (K ++ Kr) B) Nx :=
  l_box ht hx fun b => by rw [St.swap_eq]; exact h b
theorem l_buildSliceT {s e len : Nat} {ps : List (Nat × Operand)} {vs : List (Nat × Value)} {cs : List Value} (ht : t < n) (hp : evp m ps = some vs)
    (hr : ∀ w : World, (Instr.buildSlice s len vs.toArray).run P w = .ok (.slice (some ⟨w.heap.size, 0, none⟩) len len) (w.alloc (.cells cs.toArray e)))
    (h : ∀ b, Nx ((t, .slice (some ⟨b, 0, none⟩) len len) :: m) (St w0 M (K ++ [⟨b, e, cs.map some, true⟩] ++ Kr) B)) :
    LF P n ⟨some t, .buildSlice s len ps.toArray, ty, pos, af, g⟩ m (St w0 M (K ++ Kr) B) Nx :=
  l_buildSlice ht hp hr fun b => by rw [St.swap_eq]; exact h b
/-- A call that brings a fresh copy of bytes, where a row stands behind. -/
theorem l_callT2 {α β : Type} {f : FuncId} {xs : List Operand} {ats : Array TypeId} {vs : List Value} {vv : α → β → Value} {Bc Bx : List Fact} {Bn : α → β → List Fact} (bi : List Nat) (B' : α → β → List Fact)
    (ht : t < n) (hx : evs m xs = some vs) (hf : callable P f = true) (hBx : ∀ w, St w0 M (K ++ Kr) B w → St w0 M (K ++ Kr) Bx w) (hBc : selB Bx bi = Bc)
    (hc : ∀ w, St w [] [] Bc w → Calls P f vs.toArray w (CP2 w [] Bc vv (fun _ _ => []) Bn)) (hB' : ∀ a b, B ++ Bn a b = B' a b)
    (h : ∀ a b, (∀ φ ∈ Bn a b, ∀ b, φ.fp b → w0.heap.size ≤ b) → (∃ w, ∀ φ ∈ Bn a b, φ.ok w) → Nx ((t, vv a b) :: m) (St w0 M (K ++ Kr) (B' a b))) :
    LF P n ⟨some t, .call ⟨.value (.func f), xs.toArray, ats⟩, ty, pos, af, g⟩ m (St w0 M (K ++ Kr) B) Nx :=
  l_callX2 [] bi Bx (fun _ _ => K ++ Kr) B' ht hx hf hBx rfl hBc rfl rfl hc (fun _ _ => rfl) (fun _ _ => rfl) (fun _ _ => by rw [minusK_none, List.append_nil]) hB' h
end

/-- A row at the end: its slice and that it is this call's own. -/
theorem RowS.parts {e sz n : Nat} {xs : List Value} {v : Value} {Kr : List Kb} (h : RowS e sz n xs v Kr) : ∃ (A : Option Addr) (c : Nat), v = .slice A n c ∧
    ∀ (w0 w : World) (R : Fact) (K : List Kb) (B : List Fact), St w0 [] (K ++ Kr) B w → Own w0 R (Cel A n c sz xs) w := by
  rcases h with ⟨rfl, rfl, rfl, rfl⟩ | ⟨g, cap, r, rfl, rfl, hl, hr, hn, hc⟩
  · exact ⟨none, 0, rfl, fun w0 w R K B h => Own.nilCel sz⟩
  · refine ⟨some ⟨g, 0, none⟩, cap, rfl, fun w0 w R K B h => ?_⟩
    have hk : (K ++ [(⟨g, e, xs.map some ++ r, true⟩ : Kb)])[K.length]? = some ⟨g, e, xs.map some ++ r, true⟩ := by simp
    exact Own.cel h hk rfl rfl hl hn

/-! ### Rows by a rule -/

def rowX (f : Nat → List Value) (k : Nat) : List Value := (List.range k).flatMap f
theorem rowX_zero (f : Nat → List Value) : rowX f 0 = [] := rfl
theorem rowX_succ (f : Nat → List Value) (k : Nat) : rowX f (k + 1) = rowX f k ++ f k := by
  simp [rowX, List.range_succ]
theorem RowS.succ {e sz k : Nat} {f : Nat → List Value} {v : Value} {Kr : List Kb} {l : List Value} (h : RowS e sz (k + 1) (rowX f k ++ l) v Kr) (hl : l = f k) : RowS e sz (k + 1) (rowX f (k + 1)) v Kr := by
  rw [rowX_succ, ← hl]
  exact h
def psX (g : Nat → NI × BI) (k : Nat) : List (NI × BI) := (List.range k).map g
theorem psX_vals (g : Nat → NI × BI) (k : Nat) : (psX g k).flatMap (fun p => [p.1.val, p.2.val]) = rowX (fun j => [(g j).1.val, (g j).2.val]) k := by
  simp only [psX, rowX, List.flatMap_map]
theorem psX_data (g : Nat → NI × BI) (k : Nat) : (psX g k).map (fun p => (p.1.xs, p.2.bs)) = (List.range k).map fun j => ((g j).1.xs, (g j).2.bs) := by
  simp [psX, List.map_map, Function.comp_def]
theorem psX_len (g : Nat → NI × BI) (k : Nat) : (psX g k).length = k := by simp [psX]
theorem psX_own {w0 w : World} {R : Fact} {g : Nat → NI × BI} {k : Nat} (h : ∀ j, j < k → Own w0 R (g j).1.fact w ∧ Own w0 R (g j).2.fact w) : ∀ φ ∈ (psX g k).flatMap (fun p => [p.1.fact, p.2.fact]), Own w0 R φ w := by
  intro φ hφ
  obtain ⟨p, hp, hm⟩ := List.mem_flatMap.1 hφ
  obtain ⟨j, hj, rfl⟩ := List.mem_map.1 hp
  have := h j (List.mem_range.1 hj)
  simp only [List.mem_cons, List.not_mem_nil, or_false] at hm
  rcases hm with rfl | rfl
  · exact this.1
  · exact this.2
theorem Own.lay6 {w0 w : World} {R : Fact} {L : Lay} (h1 : Own w0 R L.nums.fact w) (h2 : Own w0 R (Cel L.dA L.dn L.dc 1 (L.ds.map BI.val)) w) (h3 : Own w0 R (Cel L.pA L.pn L.pc 2 (L.ps.flatMap fun p => [p.1.val, p.2.val])) w) (h4 : Own w0 R L.pay.fact w)
    (h5 : ∀ φ ∈ L.ds.map BI.fact, Own w0 R φ w) (h6 : ∀ φ ∈ L.ps.flatMap (fun p => [p.1.fact, p.2.fact]), Own w0 R φ w) : Own w0 R (LayF L) w := by
  refine Own.lay fun φ hφ => ?_
  simp only [Lay.facts, List.mem_append, List.mem_cons, List.not_mem_nil, or_false] at hφ
  rcases hφ with ((rfl | rfl | rfl | rfl) | hφ) | hφ
  · exact h1
  · exact h2
  · exact h3
  · exact h4
  · exact h5 φ hφ
  · exact h6 φ hφ

/-- The row is done: from here on it is a fact. -/
theorem St.rowFact {w0 : World} {M : List Nat} {K Kr : List Kb} {B : List Fact} {w : World} {e sz k : Nat} {xs : List Value} {v : Value} (h : St w0 M (K ++ Kr) B w) (hr : RowS e sz k xs v Kr) (hM : ∀ i ∈ M, ∃ y ∈ K, y.num = i) :
    ∃ (A : Option Addr) (cp : Nat), v = .slice A k cp ∧ St w0 M K (B ++ [Cel A k cp sz xs]) w ∧ ∀ i, (Cel A k cp sz xs).fp i → w0.heap.size ≤ i := by
  have hu := h.untail
  rcases hr with ⟨rfl, rfl, rfl, rfl⟩ | ⟨g, cap, r, rfl, rfl, hl, hr, hn, hc⟩
  · refine ⟨none, 0, rfl, ⟨hu.pres, hu.ok, hu.nd, hu.wr, fun φ hφ => ?_, fun φ hφ y hy hrw hf => ?_⟩, fun i hi => absurd rfl hi.1⟩
    · rcases List.mem_append.1 hφ with hφ | hφ
      · exact hu.facts φ hφ
      · rw [List.mem_singleton.1 hφ]; exact ⟨by simp, Nat.le_refl _, fun h => absurd rfl h⟩
    · rcases List.mem_append.1 hφ with hφ | hφ
      · exact hu.apart φ hφ y hy hrw hf
      · rw [List.mem_singleton.1 hφ] at hf; exact absurd rfl hf.1
  · have hm : (⟨g, e, xs.map some ++ r, true⟩ : Kb) ∈ K ++ [⟨g, e, xs.map some ++ r, true⟩] := List.mem_append_right _ (List.mem_singleton.2 rfl)
    have hok := (h.ok _ hm).cel (n := k) (cp := cap) (sz := sz) (vs := xs) (r := r) rfl hl hn
    have hne : ∀ y ∈ K, y.num ≠ g := by
      intro y hy he
      have := h.nd
      rw [List.map_append, List.nodup_append] at this
      exact this.2.2 y.num (List.mem_map_of_mem hy) g (by simp) he
    refine ⟨some ⟨g, 0, none⟩, cap, rfl, ⟨hu.pres, hu.ok, hu.nd, hu.wr, fun φ hφ => ?_, fun φ hφ y hy hrw hf => ?_⟩, fun i hi => ?_⟩
    · rcases List.mem_append.1 hφ with hφ | hφ
      · exact hu.facts φ hφ
      · rw [List.mem_singleton.1 hφ]; exact hok
    · rcases List.mem_append.1 hφ with hφ | hφ
      · exact hu.apart φ hφ y hy hrw hf
      · rw [List.mem_singleton.1 hφ] at hf
        obtain ⟨_, ad, ha, hh⟩ := hf
        obtain rfl := Option.some.inj ha
        exact hne y hy hh
    · obtain ⟨_, ad, ha, rfl⟩ := hi
      obtain rfl := Option.some.inj ha
      rcases h.wr _ hm rfl with h' | h'
      · obtain ⟨y, hy, hyn⟩ := hM _ h'
        exact absurd hyn (hne y hy)
      · exact h'
theorem RowS.val {e sz k : Nat} {xs : List Value} {v : Value} {Kr : List Kb} (hr : RowS e sz k xs v Kr) : ∃ (A : Option Addr) (cp : Nat), v = .slice A k cp := by
  rcases hr with ⟨rfl, rfl, _⟩ | ⟨g, cap, r, rfl, _⟩
  · exact ⟨none, 0, rfl⟩
  · exact ⟨_, _, rfl⟩
/-- At a statement's beginning. -/
theorem HT.rowFact {P : Program} {n : Nat} {m : Mp} {w0 : World} {M : List Nat} {K Kr : List Kb} {B : List Fact} {Q : Exit → Act → World → Prop} {c : Code} {e sz k : Nat} {xs : List Value} {v : Value} (hr : RowS e sz k xs v Kr) (hM : ∀ i ∈ M, ∃ y ∈ K, y.num = i)
    (h : ∀ (A : Option Addr) (cp : Nat), v = .slice A k cp → k ≤ cp → (∀ i, (Cel A k cp sz xs).fp i → w0.heap.size ≤ i) → HT P c n m (St w0 M K (B ++ [Cel A k cp sz xs])) Q) : HT P c n m (St w0 M (K ++ Kr) B) Q := by
  intro a ha w hw
  obtain ⟨A, cp, hv, hs, hf⟩ := hw.rowFact hr hM
  have hle : k ≤ cp := (hs.facts (Cel A k cp sz xs) (List.mem_append_right _ (List.mem_singleton.2 rfl))).2.1
  exact h A cp hv hle hf a ha w hs

theorem rowX_get (x : Nat → Value) (k i : Nat) (h : i < k) : (rowX (fun j => [x j]) k)[i * 1]? = some (x i) := by
  have : rowX (fun j => [x j]) k = (List.range k).map x := by
    simp only [rowX]
    induction (List.range k) with
    | nil => rfl
    | cons a l ih => simp [ih]
  rw [this, Nat.mul_one]
  simp [h]

/-- One fact more of a kind. -/
theorem St.more {w0 : World} {M : List Nat} {K : List Kb} {B : List Fact} {l : List Fact} {φ : Fact} {w : World} (h : St w0 M K (B ++ [Fact.all l] ++ [φ]) w) : St w0 M K (B ++ [Fact.all (l ++ [φ])]) w := by
  refine ⟨h.pres, h.ok, h.nd, h.wr, fun ψ hψ => ?_, fun ψ hψ k hk hr hf => ?_⟩
  · rcases List.mem_append.1 hψ with hψ | hψ
    · exact h.facts ψ (List.mem_append_left _ (List.mem_append_left _ hψ))
    · rw [List.mem_singleton.1 hψ]
      intro χ hχ
      rcases List.mem_append.1 hχ with hχ | hχ
      · exact h.facts (Fact.all l) (List.mem_append_left _ (List.mem_append_right _ (List.mem_singleton.2 rfl))) χ hχ
      · rw [List.mem_singleton.1 hχ]; exact h.facts φ (List.mem_append_right _ (List.mem_singleton.2 rfl))
  · rcases List.mem_append.1 hψ with hψ | hψ
    · exact h.apart ψ (List.mem_append_left _ (List.mem_append_left _ hψ)) k hk hr hf
    · rw [List.mem_singleton.1 hψ] at hf
      obtain ⟨χ, hχ, hi⟩ := hf
      rcases List.mem_append.1 hχ with hχ | hχ
      · exact h.apart (Fact.all l) (List.mem_append_left _ (List.mem_append_right _ (List.mem_singleton.2 rfl))) k hk hr ⟨χ, hχ, hi⟩
      · rw [List.mem_singleton.1 hχ] at hi; exact h.apart φ (List.mem_append_right _ (List.mem_singleton.2 rfl)) k hk hr hi
theorem St.none_ {w0 : World} {M : List Nat} {K : List Kb} {B : List Fact} {w : World} (h : St w0 M K B w) : St w0 M K (B ++ [Fact.all []]) w := by
  refine ⟨h.pres, h.ok, h.nd, h.wr, fun ψ hψ => ?_, fun ψ hψ k hk hr hf => ?_⟩
  · rcases List.mem_append.1 hψ with hψ | hψ
    · exact h.facts ψ hψ
    · rw [List.mem_singleton.1 hψ]; intro χ hχ; cases hχ
  · rcases List.mem_append.1 hψ with hψ | hψ
    · exact h.apart ψ hψ k hk hr hf
    · rw [List.mem_singleton.1 hψ] at hf
      obtain ⟨χ, hχ, _⟩ := hf
      cases hχ

theorem St.drop {w0 : World} {M : List Nat} {X Y Z : List Kb} {B : List Fact} {w : World} (h : St w0 M (X ++ Y ++ Z) B w) : St w0 M (X ++ Z) B w := St.untail (St.swap h)

theorem Own.parts {w0 w : World} {R : Fact} {A : Option Addr} {n c : Nat} (g : Nat → NI × BI) (h : Own w0 R (Cel A n c 2 (rowX (fun j => [(g j).1.val, (g j).2.val]) n)) w) : Own w0 R (Cel A n c 2 ((psX g n).flatMap fun p => [p.1.val, p.2.val])) w := by
  rw [psX_vals]; exact h
theorem data_rows (a : List Nat) (d : List (List UInt8)) (g : Nat → NI × BI) (k : Nat) (h : Nat → List Nat × List UInt8) (y : List UInt8) (hg : ∀ j, ((g j).1.xs, (g j).2.bs) = h j) : LD.mk a d ((psX g k).map fun p => (p.1.xs, p.2.bs)) y = LD.mk a d ((List.range k).map h) y := by
  rw [psX_data]
  congr 1
  exact congrArg (fun f => (List.range k).map f) (funext hg)

/-! ### Parts told one by one -/

/-- A block of this call's own becomes a fact. -/
theorem St.blkFact {w0 : World} {M : List Nat} {X Z : List Kb} {k : Kb} {B : List Fact} {w : World} (h : St w0 M (X ++ [k] ++ Z) B w) {n cp sz : Nat} {vs : List Value} {r : List (Option Value)} (hcs : k.cs = vs.map some ++ r) (hn : vs.length = n * sz) (hc : n ≤ cp) :
    St w0 M (X ++ Z) (B ++ [Cel (some ⟨k.num, 0, none⟩) n cp sz vs]) w := by
  have hd := h.drop
  have hm : k ∈ X ++ [k] ++ Z := List.mem_append_left _ (List.mem_append_right _ (List.mem_singleton.2 rfl))
  have hok := (h.ok k hm).cel hcs hn hc
  refine ⟨hd.pres, hd.ok, hd.nd, hd.wr, fun φ hφ => ?_, fun φ hφ y hy hr hf => ?_⟩
  · rcases List.mem_append.1 hφ with hφ | hφ
    · exact hd.facts φ hφ
    · rw [List.mem_singleton.1 hφ]; exact hok
  · rcases List.mem_append.1 hφ with hφ | hφ
    · exact hd.apart φ hφ y hy hr hf
    · rw [List.mem_singleton.1 hφ] at hf
      obtain ⟨_, ad, ha, hh⟩ := hf
      obtain rfl := Option.some.inj ha
      have hn2 := (h.swap).nd
      rw [List.map_append, List.nodup_append] at hn2
      exact hn2.2.2 y.num (List.mem_map_of_mem hy) k.num (by simp) hh
def psF (ps : List (NI × BI)) : Fact := Fact.all (ps.flatMap fun p => [p.1.fact, p.2.fact])
def psV (ps : List (NI × BI)) : List Value := ps.flatMap fun p => [p.1.val, p.2.val]
theorem psV_snoc (ps : List (NI × BI)) (p : NI × BI) : psV (ps ++ [p]) = psV ps ++ [p.1.val, p.2.val] := by simp [psV]
theorem psF_nil {w0 : World} {M : List Nat} {K : List Kb} {B : List Fact} {w : World} (h : St w0 M K B w) : St w0 M K (B ++ [psF []]) w := h.none_
theorem St.psF_snoc {w0 : World} {M : List Nat} {K : List Kb} {B : List Fact} {w : World} {ps : List (NI × BI)} {p : NI × BI} (h : St w0 M K (B ++ [psF ps] ++ [p.1.fact, p.2.fact]) w) : St w0 M K (B ++ [psF (ps ++ [p])]) w := by
  have hsub : ∀ φ : Fact, φ ∈ ((ps ++ [p]).flatMap fun p => [p.1.fact, p.2.fact]) → (φ ∈ ps.flatMap fun p => [p.1.fact, p.2.fact]) ∨ φ = p.1.fact ∨ φ = p.2.fact := by
    intro φ hφ
    rw [List.flatMap_append, List.mem_append] at hφ
    rcases hφ with h | h
    · exact .inl h
    · simp at h; exact .inr h
  have hps : psF ps ∈ B ++ [psF ps] ++ [p.1.fact, p.2.fact] := List.mem_append_left _ (List.mem_append_right _ (List.mem_singleton.2 rfl))
  have h1 : p.1.fact ∈ B ++ [psF ps] ++ [p.1.fact, p.2.fact] := List.mem_append_right _ (by simp)
  have h2 : p.2.fact ∈ B ++ [psF ps] ++ [p.1.fact, p.2.fact] := List.mem_append_right _ (by simp)
  refine ⟨h.pres, h.ok, h.nd, h.wr, fun ψ hψ => ?_, fun ψ hψ k hk hr hf => ?_⟩
  · rcases List.mem_append.1 hψ with hψ | hψ
    · exact h.facts ψ (List.mem_append_left _ (List.mem_append_left _ hψ))
    · rw [List.mem_singleton.1 hψ]
      intro χ hχ
      rcases hsub χ hχ with hχ | rfl | rfl
      · exact h.facts (psF ps) hps χ hχ
      · exact h.facts _ h1
      · exact h.facts _ h2
  · rcases List.mem_append.1 hψ with hψ | hψ
    · exact h.apart ψ (List.mem_append_left _ (List.mem_append_left _ hψ)) k hk hr hf
    · rw [List.mem_singleton.1 hψ] at hf
      obtain ⟨χ, hχ, hi⟩ := hf
      rcases hsub χ hχ with hχ | rfl | rfl
      · exact h.apart (psF ps) hps k hk hr ⟨χ, hχ, hi⟩
      · exact h.apart _ h1 k hk hr hi
      · exact h.apart _ h2 k hk hr hi
/-- The parts told so far: as many as i, of the data dat, each of this call's own. -/
structure Told (N : Nat) (dat : Nat → List Nat × List UInt8) (i : Nat) (ps : List (NI × BI)) : Prop where
  data : ps.map (fun p => (p.1.xs, p.2.bs)) = (List.range i).map dat
  new : ∀ x, (psF ps).fp x → N ≤ x
theorem Told.nil (N : Nat) (dat : Nat → List Nat × List UInt8) : Told N dat 0 [] := ⟨rfl, fun x h => by obtain ⟨_, hφ, _⟩ := h; cases hφ⟩
theorem Told.succ {N : Nat} {dat : Nat → List Nat × List UInt8} {i : Nat} {ps : List (NI × BI)} (h : Told N dat i ps) (p : NI × BI) (hd : (p.1.xs, p.2.bs) = dat i) (h1 : ∀ x, p.1.fact.fp x → N ≤ x) (h2 : ∀ x, p.2.fact.fp x → N ≤ x) : Told N dat (i + 1) (ps ++ [p]) := by
  refine ⟨by rw [List.map_append, h.data, List.range_succ, List.map_append, List.map_singleton, List.map_singleton, hd], fun x hx => ?_⟩
  obtain ⟨φ, hφ, hf⟩ := hx
  rw [List.flatMap_append, List.mem_append] at hφ
  rcases hφ with hφ | hφ
  · exact h.new x ⟨φ, hφ, hf⟩
  · simp at hφ
    rcases hφ with rfl | rfl
    · exact h1 x hf
    · exact h2 x hf

theorem St.psF_snoc0 {w0 : World} {M : List Nat} {K : List Kb} {B : List Fact} {w : World} {ps : List (NI × BI)} {b : BI} (h : St w0 M K (B ++ [psF ps] ++ [b.fact]) w) : St w0 M K (B ++ [psF (ps ++ [(ni0, b)])]) w := by
  have h0 : (NI.fact ni0).ok w := ⟨by simp, Nat.le_refl _, fun h => absurd rfl h⟩
  refine St.psF_snoc (p := (ni0, b)) ⟨h.pres, h.ok, h.nd, h.wr, fun ψ hψ => ?_, fun ψ hψ k hk hr hf => ?_⟩
  · rcases List.mem_append.1 hψ with hψ | hψ
    · exact h.facts ψ (List.mem_append_left _ hψ)
    · simp at hψ
      rcases hψ with rfl | rfl
      · exact h0
      · exact h.facts _ (List.mem_append_right _ (List.mem_singleton.2 rfl))
  · rcases List.mem_append.1 hψ with hψ | hψ
    · exact h.apart ψ (List.mem_append_left _ hψ) k hk hr hf
    · simp at hψ
      rcases hψ with rfl | rfl
      · exact absurd rfl hf.1
      · exact h.apart _ (List.mem_append_right _ (List.mem_singleton.2 rfl)) k hk hr hf
theorem psOwn {w0 w : World} {R : Fact} {ps : List (NI × BI)} {M : List Nat} {K : List Kb} {B : List Fact} (h : St w0 M K B w) {j : Nat} (hj : B[j]? = some (psF ps)) (hn : ∀ x, (psF ps).fp x → w0.heap.size ≤ x) : ∀ φ ∈ ps.flatMap (fun p => [p.1.fact, p.2.fact]), Own w0 R φ w :=
  fun φ hφ => ⟨h.fact hj φ hφ, fun x hx => .inl (hn x ⟨φ, hφ, hx⟩)⟩
end Go.Proofs.YtfkaafbeeegenaaGreat.Zed
