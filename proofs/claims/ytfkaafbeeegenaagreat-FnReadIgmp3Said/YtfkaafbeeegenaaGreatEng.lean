/- Program-free words for the walks: frames as lists of known slots, known blocks, known byte slices, and the rules for code, regions (drawn or not) and loops. -/
import Derived.Orders
import Derived.Tactics
import Derived.Below
import Derived.KernelRfl
namespace Go.Proofs.YtfkaafbeeegenaaGreat.Zed
set_option linter.unusedSimpArgs false
open Go.RowKit
set_option linter.unusedVariables false

abbrev Mp := List (Nat × Value)

def lk : Mp → Nat → Option Value
  | [], _ => none
  | (j, v) :: r, i => bif Nat.beq j i then some v else lk r i

def ev (m : Mp) : Operand → Option Value
  | .tmp i => lk m i
  | .const v => some v
  | .global g => some (.pointer (some ⟨g, 0, none⟩))
  | .func f => some (.func (.func f) #[] #[])

structure Fr (n : Nat) (m : Mp) (a : Act) : Prop where
  size : a.tmps.size = n
  defers : a.defers = []
  val : ∀ i v, lk m i = some v → a.tmps.getD i undef = v

theorem Fr.ev {n : Nat} {m : Mp} {a : Act} (h : Fr n m a) {x : Operand} {v : Value} (hx : ev m x = some v) : a.eval x = v := by
  cases x with
  | tmp i => exact h.val i v hx
  | const c => exact Option.some.inj hx
  | global g => exact Option.some.inj hx
  | func f => exact Option.some.inj hx

theorem lk_cons (d : Nat) (v : Value) (m : Mp) (i : Nat) : lk ((d, v) :: m) i = if d = i then some v else lk m i := by
  show (bif Nat.beq d i then some v else lk m i) = _
  by_cases h : d = i
  · subst h; simp [Nat.beq_refl]
  · have : Nat.beq d i = false := by
      rcases hb : Nat.beq d i with _ | _
      · rfl
      · exact absurd (Nat.eq_of_beq_eq_true hb) h
    simp [this, h]

theorem Fr.put {n : Nat} {m : Mp} {a : Act} (h : Fr n m a) {d : Nat} (hd : d < n) (v : Value) : Fr n ((d, v) :: m) (a.put (some d) v) := by
  refine ⟨by simp [Act.put, h.size], h.defers, fun i u hu => ?_⟩
  rw [lk_cons] at hu
  have hs := h.size
  by_cases he : d = i
  · subst he
    rw [if_pos rfl] at hu
    obtain rfl := Option.some.inj hu
    simp [Act.put, Array.getD, hs, hd]
  · rw [if_neg he] at hu
    have := h.val i u hu
    rw [← this]
    simp [Act.put, Array.getElem?_setIfInBounds_ne he]

/-- What the frame m' tells is told by m. -/
def Sub : Mp → Mp → Prop
  | [], _ => True
  | (i, v) :: r, m => lk m i = some v ∧ Sub r m

theorem Sub.get {m' m : Mp} (h : Sub m' m) : ∀ i v, lk m' i = some v → lk m i = some v := by
  induction m' with
  | nil => intro i v hv; cases hv
  | cons p r ih =>
    obtain ⟨j, u⟩ := p
    intro i v hv
    rw [lk_cons] at hv
    by_cases he : j = i
    · rw [if_pos he] at hv
      subst he
      rw [← hv]
      exact h.1
    · rw [if_neg he] at hv
      exact ih h.2 i v hv

theorem Fr.sub {n : Nat} {m m' : Mp} {a : Act} (h : Fr n m a) (hs : Sub m' m) : Fr n m' a :=
  ⟨h.size, h.defers, fun i v hv => h.val i v (hs.get i v hv)⟩

/-! ### Worlds -/

/-- Nothing has turned but in the blocks M (and new blocks). -/
structure Pres (M : List Nat) (w w' : World) : Prop where
  os : w'.os = w.os
  tape : w'.tape = w.tape
  output : w'.output = w.output
  size : w.heap.size ≤ w'.heap.size
  block : ∀ i, i < w.heap.size → i ∉ M → w'.heap[i]? = w.heap[i]?

theorem Pres.refl (M : List Nat) (w : World) : Pres M w w := ⟨rfl, rfl, rfl, Nat.le_refl _, fun _ _ _ => rfl⟩

theorem Pres.trans {M : List Nat} {a b c : World} (h : Pres M a b) {N : List Nat} (k : Pres N b c) (hN : ∀ i ∈ N, i ∈ M ∨ a.heap.size ≤ i) : Pres M a c :=
  ⟨k.os.trans h.os, k.tape.trans h.tape, k.output.trans h.output, Nat.le_trans h.size k.size, fun i hi hm =>
    (k.block i (Nat.lt_of_lt_of_le hi h.size) (fun hn => (hN i hn).elim hm (fun hle => absurd hi (Nat.not_lt.2 hle)))).trans (h.block i hi hm)⟩

theorem Pres.mono {M N : List Nat} {w w' : World} (h : Pres M w w') (hs : ∀ i ∈ M, i ∈ N) : Pres N w w' :=
  ⟨h.os, h.tape, h.output, h.size, fun i hi hn => h.block i hi (fun hm => hn (hs i hm))⟩

theorem Pres.of_below {w w' : World} (h : Below w.heap.size w w') (M : List Nat) : Pres M w w' :=
  ⟨h.os, h.tape, h.output, h.size, fun i hi _ => h.block i hi⟩

theorem Pres.below {w w' : World} (h : Pres [] w w') : Below w.heap.size w w' :=
  ⟨h.os, h.tape, h.output, h.size, fun i hi => h.block i hi (by simp)⟩

theorem Pres.drawn {M : List Nat} {w : World} (k : Nat) : Pres M w { w with drawn := k } := ⟨rfl, rfl, rfl, Nat.le_refl _, fun _ _ _ => rfl⟩

theorem Pres.push {M : List Nat} (w : World) (o : Obj) : Pres M w { w with heap := w.heap.push o } := by
  refine ⟨rfl, rfl, rfl, by simp, fun i hi _ => ?_⟩
  show (w.heap.push o)[i]? = _
  rw [Array.getElem?_push, if_neg (by omega)]

/-- A fact of the heap that hangs on the blocks of its footprint alone. -/
structure Fact where
  fp : Nat → Prop
  ok : World → Prop
  inb : ∀ w, ok w → ∀ i, fp i → i < w.heap.size
  stable : ∀ w w' : World, ok w → (∀ i, fp i → w'.heap[i]? = w.heap[i]?) → ok w'

theorem Fact.pres (φ : Fact) {M : List Nat} {w w' : World} (h : φ.ok w) (hp : Pres M w w') (hM : ∀ i ∈ M, ¬ φ.fp i) : φ.ok w' :=
  φ.stable w w' h fun i hi => hp.block i (φ.inb w h i hi) (fun hm => hM i hm hi)

/-- A known block: its number, its elements' type, its cells (none: not known), and whether this call may write it. -/
structure Kb where
  num : Nat
  ty : TypeId
  cs : List (Option Value)
  rw : Bool

/-- The cells c are as the list of known ones tells. -/
def fits : List (Option Value) → List Value → Prop
  | [], [] => True
  | none :: r, _ :: c => fits r c
  | some v :: r, u :: c => u = v ∧ fits r c
  | _, _ => False

def Kb.ok (k : Kb) (w : World) : Prop := ∃ c : List Value, w.heap[k.num]? = some (.cells c.toArray k.ty (0, 0)) ∧ fits k.cs c

theorem Kb.ok.lt {k : Kb} {w : World} (h : k.ok w) : k.num < w.heap.size := by
  obtain ⟨c, hc, _⟩ := h
  rcases Nat.lt_or_ge k.num w.heap.size with hlt | hge
  · exact hlt
  · rw [Array.getElem?_eq_none hge] at hc; cases hc

theorem fits_length : ∀ {cs : List (Option Value)} {c : List Value}, fits cs c → c.length = cs.length
  | [], [], _ => rfl
  | none :: r, _ :: c, h => by simp [fits_length (cs := r) (c := c) h]
  | some v :: r, u :: c, h => by simp [fits_length (cs := r) (c := c) h.2]

theorem fits_get : ∀ {cs : List (Option Value)} {c : List Value}, fits cs c → ∀ {j : Nat} {v : Value}, cs[j]? = some (some v) → c[j]? = some v
  | [], [], _, j, v, hj => by simp at hj
  | none :: r, u :: c, h, 0, v, hj => by simp at hj
  | none :: r, u :: c, h, j + 1, v, hj => by
    simp only [List.getElem?_cons_succ] at hj ⊢
    exact fits_get (cs := r) (c := c) h hj
  | some x :: r, u :: c, h, 0, v, hj => by
    simp only [List.getElem?_cons_zero, Option.some.injEq] at hj ⊢
    rw [h.1, hj]
  | some x :: r, u :: c, h, j + 1, v, hj => by
    simp only [List.getElem?_cons_succ] at hj ⊢
    exact fits_get (cs := r) (c := c) h.2 hj

theorem fits_set : ∀ {cs : List (Option Value)} {c : List Value}, fits cs c → ∀ (j : Nat) (v : Value), fits (cs.set j (some v)) (c.set j v)
  | [], [], h, j, v => h
  | none :: r, u :: c, h, 0, v => ⟨rfl, h⟩
  | none :: r, u :: c, h, j + 1, v => fits_set (cs := r) (c := c) h j v
  | some x :: r, u :: c, h, 0, v => ⟨rfl, h.2⟩
  | some x :: r, u :: c, h, j + 1, v => ⟨h.1, fits_set (cs := r) (c := c) h.2 j v⟩

theorem fits_all (c : List Value) : fits (c.map some) c := by
  induction c with
  | nil => trivial
  | cons v c ih => exact ⟨rfl, ih⟩

/-- Cell i is forgotten. -/
theorem fits_forget : ∀ {cs : List (Option Value)} {c : List Value}, fits cs c → ∀ j : Nat, fits (cs.set j none) c
  | [], [], h, j => h
  | none :: r, u :: c, h, 0 => h
  | none :: r, u :: c, h, j + 1 => fits_forget (cs := r) (c := c) h j
  | some x :: r, u :: c, h, 0 => h.2
  | some x :: r, u :: c, h, j + 1 => ⟨h.1, fits_forget (cs := r) (c := c) h.2 j⟩

/-- What the call knows of the world: since it began (w0) nothing has turned but in the blocks M and in new ones; these blocks and these facts. -/
structure St (w0 : World) (M : List Nat) (K : List Kb) (B : List Fact) (w : World) : Prop where
  pres : Pres M w0 w
  ok : ∀ k ∈ K, k.ok w
  nd : (K.map Kb.num).Nodup
  wr : ∀ k ∈ K, k.rw = true → k.num ∈ M ∨ w0.heap.size ≤ k.num
  facts : ∀ φ ∈ B, φ.ok w
  apart : ∀ φ ∈ B, ∀ k ∈ K, k.rw = true → ¬ φ.fp k.num

/-- Closed under what turns no block. -/
def Closed (D : World → Prop) : Prop := ∀ w w', D w → Pres [] w w' → D w'

theorem Kb.ok.pres {k : Kb} {M : List Nat} {w w' : World} (h : k.ok w) (hp : Pres M w w') (hn : k.num ∉ M) : k.ok w' := by
  have hlt := h.lt
  obtain ⟨c, hc, hf⟩ := h
  exact ⟨c, (hp.block _ hlt hn).trans hc, hf⟩

theorem St.pres_nil {w0 : World} {M : List Nat} {K : List Kb} {B : List Fact} {w w' : World} (h : St w0 M K B w) (hp : Pres [] w w') : St w0 M K B w' :=
  ⟨h.pres.trans hp (by simp), fun k hk => (h.ok k hk).pres hp (by simp), h.nd, h.wr, fun φ hφ => φ.pres (h.facts φ hφ) hp (by simp), h.apart⟩

theorem St.closed (w0 : World) (M : List Nat) (K : List Kb) (B : List Fact) : Closed (St w0 M K B) := fun _ _ h hp => h.pres_nil hp

theorem St.kb {w0 : World} {M : List Nat} {K : List Kb} {B : List Fact} {w : World} (h : St w0 M K B w) {j : Nat} {k : Kb} (hk : K[j]? = some k) : k.ok w := h.ok k (List.mem_of_getElem? hk)
theorem St.fact {w0 : World} {M : List Nat} {K : List Kb} {B : List Fact} {w : World} (h : St w0 M K B w) {j : Nat} {φ : Fact} (hk : B[j]? = some φ) : φ.ok w := h.facts φ (List.mem_of_getElem? hk)

/-- A known cell. -/
def cellAt (K : List Kb) (j off : Nat) : Option Value := (K[j]?).bind fun k => (k.cs[off]?).bind id

theorem Kb.ok.cell {k : Kb} {w : World} (h : k.ok w) {off : Nat} {v : Value} (hv : k.cs[off]? = some (some v)) : w.cell? ⟨k.num, off, none⟩ = some v := by
  obtain ⟨c, hc, hf⟩ := h
  have := fits_get hf hv
  unfold World.cell?
  simp [hc, this]

theorem Kb.ok.there {k : Kb} {w : World} (h : k.ok w) {off : Nat} (hv : off < k.cs.length) : ∃ v, w.cell? ⟨k.num, off, none⟩ = some v := by
  obtain ⟨c, hc, hf⟩ := h
  have hl := fits_length hf
  have hlt : off < c.length := by omega
  exact ⟨c[off], by unfold World.cell?; simp [hc, List.getElem?_eq_getElem hlt]⟩

theorem Kb.ok.frozen {k : Kb} {w : World} (h : k.ok w) (off : Nat) : w.frozen? ⟨k.num, off, none⟩ = false := by
  obtain ⟨c, hc, hf⟩ := h
  unfold World.frozen?
  simp [hc]

theorem heap_setCell_ne (w : World) (a : Addr) (u : Value) (k : Nat) (h : k ≠ a.block) : (w.setCell a u).heap[k]? = w.heap[k]? := Below.heap_setCell w a u k h

theorem Kb.ok.set_same {k : Kb} {w : World} (h : k.ok w) (off : Nat) (v : Value) : ({ k with cs := k.cs.set off (some v) } : Kb).ok (w.setCell ⟨k.num, off, none⟩ v) := by
  obtain ⟨c, hc, hf⟩ := h
  refine ⟨c.set off v, ?_, fits_set hf off v⟩
  simp [World.setCell, Array.getElem?_modify, hc]

theorem Pres.setCell (w : World) (a : Addr) (u : Value) : Pres [a.block] w (w.setCell a u) :=
  ⟨rfl, rfl, rfl, by simp [World.setCell], fun i _ hn => heap_setCell_ne w a u i (by simpa using hn)⟩

/-- Block j's cells from off on are now vs. -/
def setK (K : List Kb) (j off : Nat) (v : Value) : List Kb := K.modify j fun k => { k with cs := k.cs.set off (some v) }

theorem mem_modify_cases {α : Type} (f : α → α) : ∀ (l : List α) (j : Nat) (x : α), x ∈ l.modify j f → x ∈ l ∨ ∃ y, l[j]? = some y ∧ x = f y
  | [], j, x, h => by simp at h
  | y :: l, 0, x, h => by
    simp only [List.modify_zero_cons, List.mem_cons] at h
    rcases h with h | h
    · exact .inr ⟨y, rfl, h⟩
    · exact .inl (List.mem_cons_of_mem _ h)
  | y :: l, j + 1, x, h => by
    simp only [List.modify_succ_cons, List.mem_cons] at h
    rcases h with h | h
    · exact .inl (h ▸ List.mem_cons_self)
    · rcases mem_modify_cases f l j x h with h | ⟨z, hz, hx⟩
      · exact .inl (List.mem_cons_of_mem _ h)
      · exact .inr ⟨z, by simpa using hz, hx⟩

theorem map_num_modify (f : Kb → Kb) (hf : ∀ k, (f k).num = k.num) : ∀ (K : List Kb) (j : Nat), (K.modify j f).map Kb.num = K.map Kb.num
  | [], j => by simp
  | k :: K, 0 => by simp [hf]
  | k :: K, j + 1 => by simp [map_num_modify f hf K j]

/-- In a list of blocks of different numbers: one at place j, another one elsewhere. -/
theorem modify_other {K : List Kb} (hnd : (K.map Kb.num).Nodup) (f : Kb → Kb) : ∀ (j : Nat) (k : Kb), K[j]? = some k → ∀ x ∈ K.modify j f, x = f k ∨ (x ∈ K ∧ x.num ≠ k.num) := by
  induction K with
  | nil => intro j k h; simp at h
  | cons y K ih =>
    intro j k hk x hx
    rw [List.map_cons, List.nodup_cons] at hnd
    cases j with
    | zero =>
      simp only [List.getElem?_cons_zero, Option.some.injEq] at hk
      subst hk
      simp only [List.modify_zero_cons, List.mem_cons] at hx
      rcases hx with hx | hx
      · exact .inl hx
      · exact .inr ⟨List.mem_cons_of_mem _ hx, fun he => hnd.1 (he ▸ List.mem_map_of_mem hx)⟩
    | succ j =>
      simp only [List.getElem?_cons_succ] at hk
      simp only [List.modify_succ_cons, List.mem_cons] at hx
      rcases hx with hx | hx
      · subst hx
        exact .inr ⟨List.mem_cons_self, fun he => hnd.1 (he ▸ List.mem_map_of_mem (List.mem_of_getElem? hk))⟩
      · rcases ih hnd.2 j k hk x hx with h | ⟨h, hne⟩
        · exact .inl h
        · exact .inr ⟨List.mem_cons_of_mem _ h, hne⟩

/-- Block j turns into f of it, whatever else stands (by a store, or by a call that may write it). -/
theorem St.turn {w0 : World} {M : List Nat} {K : List Kb} {B : List Fact} {w w' : World} (h : St w0 M K B w) {j : Nat} {k : Kb} (hk : K[j]? = some k) (hrw : k.rw = true)
    (f : Kb → Kb) (hnum : ∀ k, (f k).num = k.num) (hfrw : ∀ k, (f k).rw = k.rw) (hp : Pres [k.num] w w') (hok : (f k).ok w') : St w0 M (K.modify j f) B w' := by
  have hkm := List.mem_of_getElem? hk
  refine ⟨h.pres.trans hp (by simpa using h.wr k hkm hrw), fun x hx => ?_, by rw [map_num_modify f hnum]; exact h.nd, fun x hx hr => ?_, fun φ hφ => ?_, fun φ hφ x hx hr => ?_⟩
  · rcases modify_other h.nd f j k hk x hx with rfl | ⟨hm, hne⟩
    · exact hok
    · exact (h.ok x hm).pres hp (by simpa using hne)
  · rcases modify_other h.nd f j k hk x hx with rfl | ⟨hm, hne⟩
    · rw [hnum]; exact h.wr k hkm hrw
    · exact h.wr x hm hr
  · exact φ.pres (h.facts φ hφ) hp (by simpa using h.apart φ hφ k hkm hrw)
  · rcases modify_other h.nd f j k hk x hx with rfl | ⟨hm, hne⟩
    · rw [hnum]; exact h.apart φ hφ k hkm hrw
    · exact h.apart φ hφ x hm hr

theorem St.store {w0 : World} {M : List Nat} {K : List Kb} {B : List Fact} {w : World} (h : St w0 M K B w) {j : Nat} {k : Kb} (hk : K[j]? = some k) (hrw : k.rw = true) (off : Nat) (v : Value) :
    St w0 M (setK K j off v) B (w.setCell ⟨k.num, off, none⟩ v) :=
  h.turn hk hrw _ (fun _ => rfl) (fun _ => rfl) (Pres.setCell w ⟨k.num, off, none⟩ v) ((h.kb hk).set_same off v)

/-- A new block. -/
theorem St.new {w0 : World} {M : List Nat} {K : List Kb} {B : List Fact} {w : World} (h : St w0 M K B w) (c : List Value) (t : TypeId) :
    St w0 M (K ++ [⟨w.heap.size, t, c.map some, true⟩]) B { w with heap := w.heap.push (.cells c.toArray t) } := by
  have hp : Pres [] w { w with heap := w.heap.push (.cells c.toArray t) } := Pres.push w _
  have h' := h.pres_nil hp
  refine ⟨h'.pres, fun x hx => ?_, ?_, fun x hx hr => ?_, h'.facts, fun φ hφ x hx hr => ?_⟩
  · rcases List.mem_append.1 hx with hx | hx
    · exact h'.ok x hx
    · obtain rfl := List.mem_singleton.1 hx
      exact ⟨c, by simp, fits_all c⟩
  · rw [List.map_append, List.nodup_append]
    refine ⟨h.nd, by simp, fun i hi j hj => ?_⟩
    obtain ⟨y, hy, rfl⟩ := List.mem_map.1 hi
    have := (h.ok y hy).lt
    simp at hj
    omega
  · rcases List.mem_append.1 hx with hx | hx
    · exact h.wr x hx hr
    · obtain rfl := List.mem_singleton.1 hx
      exact .inr h.pres.size
  · rcases List.mem_append.1 hx with hx | hx
    · exact h.apart φ hφ x hx hr
    · obtain rfl := List.mem_singleton.1 hx
      intro hf
      have := φ.inb w (h.facts φ hφ) _ hf
      simp at this

/-- Blocks that are forgotten, or told anew. -/
theorem St.weak {w0 : World} {M : List Nat} {K K' : List Kb} {B : List Fact} {w : World} (h : St w0 M K B w) (hok : ∀ k ∈ K', ∃ y ∈ K, y.num = k.num ∧ (k.rw = true → y.rw = true) ∧ (y.ok w → k.ok w))
    (hnd : (K'.map Kb.num).Nodup) : St w0 M K' B w :=
  ⟨h.pres, fun k hk => let ⟨y, hy, _, _, hf⟩ := hok k hk; hf (h.ok y hy), hnd, fun k hk hr => let ⟨y, hy, hn, hrw, _⟩ := hok k hk; hn ▸ h.wr y hy (hrw hr), h.facts,
    fun φ hφ k hk hr => let ⟨y, hy, hn, hrw, _⟩ := hok k hk; hn ▸ h.apart φ hφ y hy (hrw hr)⟩

end Go.Proofs.YtfkaafbeeegenaaGreat.Zed
