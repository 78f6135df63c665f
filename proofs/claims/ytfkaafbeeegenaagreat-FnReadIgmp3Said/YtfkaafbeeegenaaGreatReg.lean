/- Program-free words: what a region of operations does, drawn or not, in every world of a class; code. -/
import Derived.Test.YtfkaafbeeegenaaGreatEng
namespace Go.Proofs.YtfkaafbeeegenaaGreat.Zed
set_option linter.unusedSimpArgs false
set_option linter.unusedVariables false

/-! ### One operation -/

/-- What is asked of an operation that is quiet: it yields v and turns no block. -/
def QU (P : Program) (w : World) (v : Value) : Result Next → Prop
  | .ok (.value u) w' => w' = w ∧ u = v
  | .ok .skip w' => w' = w ∧ v = undef
  | .ok (.enter f args) w' => w' = w ∧ Calls P f args w (fun e w'' => e = .returned v ∧ Pres [] w w'')
  | _ => False

/-- Quiet in every world of S: the frame m suffices to tell the value. -/
def QF (P : Program) (n : Nat) (S : World → Prop) (o : Oper) (m : Mp) (v : Value) : Prop :=
  ∀ a, Fr n m a → ∀ w, S w → QU P w v ((execOp a.eval o).run P w)

/-- What one operation leaves, from every world of D: a frame and a class of worlds that Nx speaks of. -/
def LF (P : Program) (n : Nat) (o : Oper) (m : Mp) (D : World → Prop) (Nx : Mp → (World → Prop) → Prop) : Prop :=
  ∀ a, Fr n m a → ∀ w, D w → ∀ Q : Exit → Act → World → Prop, o.wp P a w (fun a' w' => ∃ m' D', Fr n m' a' ∧ D' w' ∧ Closed D' ∧ Nx m' D') Q

/-- Is the operation wanted, by the frame m? -/
def wantedBy (ops : Array Oper) (o : Oper) (m : Mp) : Option Bool :=
  match o.guard with
  | none => some true
  | some (j, want) =>
    match (ops[j]?).bind (·.dst) with
    | some t => (match lk m t with | some (.bool b) => some (b == want) | some (.tuple _) => some false | _ => none)
    | none => none

def insM (d : Option Tmp) (v : Value) (m : Mp) : Mp :=
  match d with
  | some d => (d, v) :: m
  | none => m

theorem Fr.ins {n : Nat} {m : Mp} {a : Act} (h : Fr n m a) {d : Option Tmp} (hd : ∀ t, d = some t → t < n) (v : Value) : Fr n (insM d v m) (a.put d v) := by
  cases d with
  | none => exact h
  | some t => exact h.put (hd t rfl) v

theorem wanted_of {ops : Array Oper} {o : Oper} {m : Mp} {n : Nat} {a : Act} (h : Fr n m a) {b : Bool} (hw : wantedBy ops o m = some b) : Region.wanted o (yielded ops a.tmps) = b := by
  unfold wantedBy at hw
  unfold Region.wanted
  cases hg : o.guard with
  | none => rw [hg] at hw; exact Option.some.inj hw
  | some p =>
    obtain ⟨j, want⟩ := p
    rw [hg] at hw
    simp only at hw ⊢
    cases ht : (ops[j]?).bind (·.dst) with
    | none => rw [ht] at hw; cases hw
    | some t =>
      rw [ht] at hw
      simp only at hw
      cases hl : lk m t with
      | none => rw [hl] at hw; cases hw
      | some v =>
        rw [hl] at hw
        have hv := h.val t v hl
        have hv' : a.tmps[t]?.getD undef = v := by simpa [Array.getD_eq_getD_getElem?] using hv
        unfold yielded
        simp only [ht, Option.bind_some]
        cases v with
        | bool x =>
          have hx : a.tmps[t]? = some (.bool x) := by
            cases hx : a.tmps[t]? with
            | none => rw [hx] at hv'; simp [undef] at hv'
            | some u => rw [hx] at hv'; simpa using hv'
          rw [hx]
          simp only [Option.some.injEq] at hw
          rw [← hw]
          cases x <;> cases want <;> rfl
        | tuple vs =>
          simp only [Option.some.injEq] at hw
          rw [← hw]
          cases hx : a.tmps[t]? with
          | none => cases want <;> rfl
          | some u =>
            rw [hx] at hv'
            simp only [Option.getD_some] at hv'
            subst hv'
            cases want <;> rfl
        | _ => cases hw

/-! ### A region without a draw -/

def SL (P : Program) (ops : Array Oper) (n : Nat) (Q : Exit → Act → World → Prop) (l : List Oper) (m : Mp) (D : World → Prop) : Prop :=
  ∀ a, Fr n m a → ∀ w, D w → wpList P ops Q l a w

section
variable {P : Program} {ops : Array Oper} {n : Nat} {Q : Exit → Act → World → Prop} {m : Mp} {D : World → Prop} {o : Oper} {rest : List Oper}

theorem SL.nil (h : ∀ a, Fr n m a → ∀ w, D w → Q .normal a w) : SL P ops n Q [] m D := fun a ha w hw => h a ha w hw

theorem wp_of_QU {a : Act} {w : World} {v : Value} {K : Act → World → Prop} (hq : QU P w v ((execOp a.eval o).run P w)) (hK : ∀ w', Pres [] w w' → K (a.put o.dst v) w') : o.wp P a w K Q := by
  unfold Oper.wp
  generalize (execOp a.eval o).run P w = r at *
  cases r with
  | ok x w' =>
    cases x <;> simp only [QU] at hq <;> simp only [Oper.upon]
    case value u => obtain ⟨rfl, rfl⟩ := hq; exact hK _ (Pres.refl _ _)
    case skip => obtain ⟨rfl, rfl⟩ := hq; exact hK _ (Pres.refl _ _)
    case enter f args =>
      obtain ⟨rfl, hc⟩ := hq
      exact hc.mono fun e w'' ⟨he, hp⟩ => by subst he; exact hK _ hp
  | halt x w' => simp only [QU] at hq

/-- The next operation, unguarded, quiet. -/
theorem SL.q (hD : Closed D) (hg : o.guard = none) {v : Value} (hq : QF P n D o m v) (hd : ∀ t, o.dst = some t → t < n) (h : SL P ops n Q rest (insM o.dst v m) D) : SL P ops n Q (o :: rest) m D := by
  intro a ha w hw
  unfold wpList
  rw [if_pos (by simp [Region.wanted, hg])]
  exact .inl (wp_of_QU (hq a ha w hw) fun w' hp => h _ (ha.ins hd v) _ (hD w w' hw hp))

/-- The next operation, unguarded, whatever it does. -/
theorem SL.l (hg : o.guard = none) {Nx : Mp → (World → Prop) → Prop} (hl : LF P n o m D Nx) (h : ∀ m' D', Closed D' → Nx m' D' → SL P ops n Q rest m' D') : SL P ops n Q (o :: rest) m D := by
  intro a ha w hw
  unfold wpList
  rw [if_pos (by simp [Region.wanted, hg])]
  exact .inl (Oper.wp_mono (fun a' w' ⟨m', D', hf, hd, hc, hn⟩ => h m' D' hc hn a' hf w' hd) (hl a ha w hw Q))

/-- Guarded, and wanted: quiet. -/
theorem SL.gq (hD : Closed D) (hb : wantedBy ops o m = some true) {v : Value} (hq : QF P n D o m v) (hd : ∀ t, o.dst = some t → t < n) (h : SL P ops n Q rest (insM o.dst v m) D) : SL P ops n Q (o :: rest) m D := by
  intro a ha w hw
  unfold wpList
  rw [if_pos (wanted_of ha hb)]
  exact .inl (wp_of_QU (hq a ha w hw) fun w' hp => h _ (ha.ins hd v) _ (hD w w' hw hp))

theorem SL.gl (hb : wantedBy ops o m = some true) {Nx : Mp → (World → Prop) → Prop} (hl : LF P n o m D Nx) (h : ∀ m' D', Closed D' → Nx m' D' → SL P ops n Q rest m' D') : SL P ops n Q (o :: rest) m D := by
  intro a ha w hw
  unfold wpList
  rw [if_pos (wanted_of ha hb)]
  exact .inl (Oper.wp_mono (fun a' w' ⟨m', D', hf, hd, hc, hn⟩ => h m' D' hc hn a' hf w' hd) (hl a ha w hw Q))

/-- Guarded, and not wanted. -/
theorem SL.skip (hb : wantedBy ops o m = some false) (hd : ∀ t, o.dst = some t → t < n) (h : SL P ops n Q rest (insM o.dst undef m) D) : SL P ops n Q (o :: rest) m D := by
  intro a ha w hw
  unfold wpList
  rw [if_neg (by rw [wanted_of ha hb]; simp)]
  exact h _ (ha.ins hd undef) _ hw

/-- What is known may be told anew. -/
theorem SL.tell {m' : Mp} {D' : World → Prop} (hm : Sub m' m) (hD : ∀ w, D w → D' w) (h : SL P ops n Q rest m' D') : SL P ops n Q rest m D :=
  fun a ha w hw => h a (ha.sub hm) w (hD w hw)
end

/-! ### A region that draws its order -/

/-- Quiet, or not wanted. -/
def Qt (P : Program) (ops : Array Oper) (S : World → Prop) (o : Oper) (v : Value) (a : Act) : Prop :=
  (Region.wanted o (yielded ops a.tmps) = true ∧ ∀ w, S w → QU P w v ((execOp a.eval o).run P w)) ∨ (Region.wanted o (yielded ops a.tmps) = false ∧ v = undef)

/-- From every world of D, whatever order is picked from here on. -/
def RD (P : Program) (ops : Array Oper) (S : World → Prop) (Q : Exit → Act → World → Prop) : Nat → Array Bool → Act → (World → Prop) → Prop
  | 0, listed, a, D => Region.ready .any ops listed = [] ∧ ∀ w, D w → Q .normal a w
  | f + 1, listed, a, D =>
    (Region.ready .any ops listed = [] → ∀ w, D w → Q .normal a w) ∧
    ∀ i ∈ Region.ready .any ops listed, ∀ w, D w → wpOp P ops (fun _ _ _ => False) i (fun a' w' => ∃ D' : World → Prop, D' w' ∧ Closed D' ∧ (∀ x, D' x → S x) ∧ RD P ops S Q f (listed.setIfInBounds i true) a' D') a w

section
variable {P : Program} {ops : Array Oper} {S : World → Prop} {Q : Exit → Act → World → Prop}

theorem Oper.wp_exits {o : Oper} {a : Act} {w : World} {K : Act → World → Prop} {Q Q' : Exit → Act → World → Prop} (h : o.wp P a w K Q) (hq : ∀ e a w, Q e a w → Q' e a w) : o.wp P a w K Q' := by
  unfold Oper.wp at *
  generalize (execOp a.eval o).run P w = r at *
  cases r with
  | ok x w' =>
    cases x <;> simp only [Oper.upon] at h ⊢ <;> first
      | exact h
      | exact h.mono fun e w'' he => by
          cases e with
          | returned v => exact he
          | panicked c => exact hq _ _ _ he
          | outgrown => exact let ⟨a, w, h⟩ := he; ⟨a, w, hq _ _ _ h⟩
  | halt x w' => cases x <;> simp only [Oper.upon] at h ⊢ <;> first | exact h | exact hq _ _ _ h

theorem wpOp_exits {i : Nat} {a : Act} {w : World} {K : Act → World → Prop} {Q Q' : Exit → Act → World → Prop} (h : wpOp P ops Q i K a w) (hq : ∀ e a w, Q e a w → Q' e a w) : wpOp P ops Q' i K a w := by
  unfold wpOp at *
  split
  · rename_i ho; simpa [ho] using h
  · rename_i o ho
    simp only [ho] at h
    split
    · rename_i hw
      simp only [hw, if_true] at h
      exact h.imp (fun h => Oper.wp_exits h hq) (fun ⟨h1, a, w, h2⟩ => ⟨h1, a, w, hq _ _ _ h2⟩)
    · rename_i hw
      simp only [hw] at h
      exact h

theorem RD.wpAny : ∀ (f : Nat) (listed : Array Bool) (a : Act) (D : World → Prop), RD P ops S Q f listed a D → ∀ w, D w → Go.wpAny P .any ops Q f listed a w
  | 0, _, _, _, h, w, hw => ⟨h.1, h.2 w hw⟩
  | f + 1, _, _, _, h, w, hw => ⟨fun h0 => h.1 h0 w hw, fun i hi => wpOp_exits (wpOp_mono (fun a' w' ⟨D', hd, _, _, hr⟩ => RD.wpAny f _ a' D' hr w' hd) (h.2 i hi w hw)) (fun _ _ _ h => h.elim)⟩

theorem Qt.of_same {o : Oper} {v : Value} {a a' : Act} (hy : Qt P ops S o v a) (he : execOp a'.eval o = execOp a.eval o)
    (hw : Region.wanted o (yielded ops a'.tmps) = Region.wanted o (yielded ops a.tmps)) : Qt P ops S o v a' := by
  unfold Qt at *
  rw [he, hw]
  exact hy

theorem Qt.wpOp {i : Nat} {o : Oper} {v : Value} {a : Act} (hi : ops[i]? = some o) (hy : Qt P ops S o v a) {D : World → Prop} (hc : Closed D) (hS : ∀ w, D w → S w) {Q : Exit → Act → World → Prop} {K : Act → World → Prop}
    {w : World} (hw : D w) (h : ∀ w', D w' → K (a.put o.dst v) w') : Go.wpOp P ops Q i K a w := by
  unfold Go.wpOp
  simp only [hi]
  rcases hy with ⟨hn, hq⟩ | ⟨hn, rfl⟩
  · simp only [hn, if_true]
    exact .inl (wp_of_QU (hq w (hS w hw)) fun w' hp => h w' (hc w w' hw hp))
  · simp only [hn, Bool.false_eq_true, if_false]
    exact h w hw

/-- Another operation, apart from a quiet one, makes no difference to it, and it makes none to the other. -/
theorem Qt.swap {j : Nat} {oi oj : Oper} {v : Value} (hj : ops[j]? = some oj) (hap : oi.apart ops oj = true) (hsi : ∀ cs b, oi.op ≠ .select cs b) (hsj : ∀ cs b, oj.op ≠ .select cs b)
    {K : Act → World → Prop} {a : Act} {w : World} (hy : Qt P ops S oi v a) (h : Go.wpOp P ops (fun _ _ _ => False) j K (a.put oi.dst v) w) :
    Go.wpOp P ops (fun _ _ _ => False) j (fun a' w' => Qt P ops S oi v a' ∧ K (a'.put oi.dst v) w') a w := by
  obtain ⟨h1, h2, h3⟩ := Oper.apart_spec hap
  have keep : ∀ u, Qt P ops S oi v (a.put oj.dst u) := fun u => hy.of_same (execOp_put oi hsi a oj.dst u h3) (wanted_put oi a oj.dst u h3)
  unfold Go.wpOp at *
  simp only [hj] at *
  rw [wanted_put oj a oi.dst v h1] at h
  split
  · rename_i hw
    simp only [hw, if_true] at h
    rcases h with h | ⟨_, _, _, h⟩
    case inr => exact h.elim
    refine .inl ?_
    unfold Oper.wp at *
    rw [execOp_put oj hsj a oi.dst v h1] at h
    generalize (execOp a.eval oj).run P w = r at *
    cases r with
    | ok x w' =>
      cases x <;> simp only [Oper.upon] at h ⊢
      case value u => exact ⟨keep u, by rw [← Act.put_comm a v u h2]; exact h⟩
      case skip => exact ⟨keep _, by rw [← Act.put_comm a v undef h2]; exact h⟩
      case defer d =>
        refine ⟨(hy.of_same (a' := { a with defers := d :: a.defers }) rfl rfl).of_same (execOp_put oi hsi _ oj.dst undef h3) (wanted_put oi _ oj.dst undef h3), ?_⟩
        rw [← Act.put_comm _ v undef h2, ← Act.put_defers]
        exact h
      case enter f args =>
        refine h.mono fun e w'' he => ?_
        cases e with
        | returned u => exact ⟨keep u, by rw [← Act.put_comm a v u h2]; exact he⟩
        | panicked c => exact he
        | outgrown => exact he
      case row row args => exact Rows.mono h fun u w'' he => ⟨keep u, by rw [← Act.put_comm a v u h2]; exact he⟩
    | halt x w' => cases x <;> simp only [Oper.upon] at h ⊢
  · rename_i hw
    simp only [hw] at h
    exact ⟨keep undef, by rw [← Act.put_comm a v undef h2]; exact h⟩

/-- A quiet operation that may come up now may be taken first. -/
theorem RD.first {i : Nat} {oi : Oper} {v : Value} (hi : ops[i]? = some oi) (hsel : ∀ (j : Nat) (o : Oper) cs b, ops[j]? = some o → o.op ≠ .select cs b) :
    ∀ (f : Nat) (listed : Array Bool) (a : Act) (D : World → Prop),
      (∀ j oj, ops[j]? = some oj → j ≠ i → listed.getD j true = false → (∀ e ∈ oj.after, Region.binds .any e = true → e.on ≠ i) → oi.apart ops oj = true) →
      i ∈ Region.ready .any ops listed → Qt P ops S oi v a → Closed D → (∀ w, D w → S w) →
      RD P ops S Q f (listed.setIfInBounds i true) (a.put oi.dst v) D → RD P ops S Q (f + 1) listed a D := by
  intro f
  induction f with
  | zero =>
    intro listed a D _ hr hy hc hS H
    refine ⟨fun h => (by rw [h] at hr; cases hr), fun j hj w hw => ?_⟩
    by_cases hji : j = i
    · subst hji
      exact hy.wpOp hi hc hS hw fun w' hw' => ⟨D, hw', hc, hS, H⟩
    · have := ready_mono hj hji
      rw [H.1] at this
      cases this
  | succ f ih =>
    intro listed a D hfree hr hy hc hS H
    refine ⟨fun h => (by rw [h] at hr; cases hr), fun j hj w hw => ?_⟩
    by_cases hji : j = i
    · subst hji
      exact hy.wpOp hi hc hS hw fun w' hw' => ⟨D, hw', hc, hS, H⟩
    · have h1 := H.2 j (ready_mono hj hji) w hw
      obtain ⟨hjun, oj, hoj, hall⟩ := mem_ready.1 hj
      have hnot : ∀ e ∈ oj.after, Region.binds .any e = true → e.on ≠ i := fun e he hb heq => by
        have h1 := hall e he hb
        have h0 := (mem_ready.1 hr).1
        rw [heq] at h1
        rcases Nat.lt_or_ge i listed.size with h' | h'
        · simp [h'] at h0 h1; rw [h0] at h1; cases h1
        · simp [Array.getElem?_eq_none h'] at h1
      have h2 := Qt.swap hoj (hfree j oj hoj hji hjun hnot) (fun cs b => hsel i oi cs b hi) (fun cs b => hsel j oj cs b hoj) hy h1
      have hfree' : ∀ k ok, ops[k]? = some ok → k ≠ i → (listed.setIfInBounds j true).getD k true = false →
          (∀ e ∈ ok.after, Region.binds .any e = true → e.on ≠ i) → oi.apart ops ok = true := fun k ok hk hki hun hno => by
        refine hfree k ok hk hki ?_ hno
        by_cases hjk : j = k
        · subst hjk; exact hjun
        · rw [getD_set_ne true hjk] at hun; exact hun
      refine wpOp_mono (fun a' w' ⟨hq, D', hd, hc', hS', hrd⟩ => ⟨D', hd, hc', hS', ih (listed.setIfInBounds j true) a' D' hfree' (ready_mono hr (Ne.symm hji)) hq hc' hS' ?_⟩) h2
      rw [Array.setIfInBounds_comm _ _ hji]
      exact hrd
end

/-! The region by its list of operations; 'done': the numbers of those that have come up. -/

def nth : List Oper → Nat → Option Oper
  | [], _ => none
  | o :: _, 0 => some o
  | _ :: r, i + 1 => nth r i

theorem nth_eq : ∀ (l : List Oper) (i : Nat), nth l i = l[i]?
  | [], _ => by simp [nth]
  | o :: _, 0 => rfl
  | _ :: r, i + 1 => by simp [nth, nth_eq r i]

def listedOf (k : Nat) (done : List Nat) : Array Bool := done.foldl (fun L i => L.setIfInBounds i true) (Array.replicate k false)

theorem listedOf_snoc (k : Nat) (done : List Nat) (i : Nat) : listedOf k (done ++ [i]) = (listedOf k done).setIfInBounds i true := by simp [listedOf]

/-- From every frame that m tells and every world of D: the operations but for 'done', in whatever order. -/
def RG (P : Program) (l : List Oper) (n : Nat) (S : World → Prop) (Q : Exit → Act → World → Prop) (f : Nat) (done : List Nat) (m : Mp) (D : World → Prop) : Prop :=
  ∀ a, Fr n m a → RD P l.toArray S Q f (listedOf l.length done) a D

/-- Each of 'is', one behind the other, may come up and be taken first; what it writes lies in the frame. -/
def takesB (l : List Oper) (n : Nat) : List Nat → List Nat → Bool
  | _, [] => true
  | done, i :: is =>
    (Region.ready .any l.toArray (listedOf l.length done)).contains i && Region.free .any l.toArray (listedOf l.length done) i &&
    (match nth l i with | some o => (match o.dst with | some d => Nat.blt d n | none => true) | none => false) && takesB l n (done ++ [i]) is

/-- The quiet operations of numbers 'is', one behind the other. -/
def QL (P : Program) (l : List Oper) (n : Nat) (S : World → Prop) (Nx : Mp → Prop) : List Nat → Mp → Prop
  | [], m => Nx m
  | i :: is, m => ∃ o v, nth l i = some o ∧ ((wantedBy l.toArray o m = some true ∧ QF P n S o m v) ∨ (wantedBy l.toArray o m = some false ∧ v = undef)) ∧ QL P l n S Nx is (insM o.dst v m)

section
variable {P : Program} {l : List Oper} {n : Nat} {S : World → Prop} {Q : Exit → Act → World → Prop} {m : Mp} {D : World → Prop}

theorem QL.nil {Nx : Mp → Prop} (h : Nx m) : QL P l n S Nx [] m := h
theorem QL.q {Nx : Mp → Prop} {i : Nat} {is : List Nat} {o : Oper} (ho : nth l i = some o) (hg : o.guard = none) {v : Value} (hq : QF P n S o m v) (h : QL P l n S Nx is (insM o.dst v m)) : QL P l n S Nx (i :: is) m :=
  ⟨o, v, ho, .inl ⟨by simp [wantedBy, hg], hq⟩, h⟩
theorem QL.gq {Nx : Mp → Prop} {i : Nat} {is : List Nat} {o : Oper} (ho : nth l i = some o) (hb : wantedBy l.toArray o m = some true) {v : Value} (hq : QF P n S o m v) (h : QL P l n S Nx is (insM o.dst v m)) : QL P l n S Nx (i :: is) m :=
  ⟨o, v, ho, .inl ⟨hb, hq⟩, h⟩
theorem QL.skip {Nx : Mp → Prop} {i : Nat} {is : List Nat} {o : Oper} (ho : nth l i = some o) (hb : wantedBy l.toArray o m = some false) (h : QL P l n S Nx is (insM o.dst undef m)) : QL P l n S Nx (i :: is) m :=
  ⟨o, undef, ho, .inr ⟨hb, rfl⟩, h⟩

theorem RG.takes (hsel : Region.noSelect l.toArray = true) (hc : Closed D) (hS : ∀ w, D w → S w) {f : Nat} : ∀ (is done : List Nat) (m : Mp), takesB l n done is = true →
    QL P l n S (fun m' => RG P l n S Q f (done ++ is) m' D) is m → RG P l n S Q (f + is.length) done m D
  | [], done, m, _, h => by simpa using (show RG P l n S Q f (done ++ []) m D from h)
  | i :: is, done, m, hB, h => by
    obtain ⟨o, v, ho, hq, hn⟩ := h
    simp only [takesB, Bool.and_eq_true] at hB
    obtain ⟨⟨⟨hr, hf⟩, hd⟩, hB'⟩ := hB
    have hd' : ∀ t, o.dst = some t → t < n := fun t ht => by
      rw [ho] at hd
      simp only [ht] at hd
      simpa [Nat.blt_eq] using hd
    have hi : l.toArray[i]? = some o := by rw [← ho, nth_eq]; simp
    have hrest : RG P l n S Q (f + is.length) (done ++ [i]) (insM o.dst v m) D :=
      RG.takes hsel hc hS is (done ++ [i]) _ hB' (by simpa using hn)
    intro a ha
    have hqt : Qt P l.toArray S o v a := by
      rcases hq with ⟨hw, hq⟩ | ⟨hw, rfl⟩
      · exact .inl ⟨wanted_of ha hw, hq a ha⟩
      · exact .inr ⟨wanted_of ha hw, rfl⟩
    have := hrest _ (ha.ins hd' v)
    rw [listedOf_snoc] at this
    exact RD.first hi (Region.noSelect_spec hsel) (f + is.length) _ a D (Region.free_spec hi hf) (by simpa using hr) hqt hc hS this

/-- One operation that may come up: what it leaves. -/
def OpL (P : Program) (l : List Oper) (n : Nat) (S : World → Prop) (i : Nat) (m : Mp) (D : World → Prop) (Nx : Mp → (World → Prop) → Prop) : Prop :=
  ∃ o, nth l i = some o ∧ wantedBy l.toArray o m = some true ∧ LF P n o m D (fun m' D' => (∀ w, D' w → S w) ∧ Nx m' D')

/-- Whichever of 'rs' comes up. -/
theorem RG.step {f : Nat} {done : List Nat} (rs : List Nat) (hr : Region.ready .any l.toArray (listedOf l.length done) = rs) (hne : rs ≠ [])
    (h : ∀ i ∈ rs, OpL P l n S i m D (fun m' D' => RG P l n S Q f (done ++ [i]) m' D')) : RG P l n S Q (f + 1) done m D := by
  intro a ha
  refine ⟨fun h0 => absurd (hr ▸ h0) hne, fun i hi w hw => ?_⟩
  rw [hr] at hi
  obtain ⟨o, ho, hg, hl⟩ := h i hi
  have hoi : l.toArray[i]? = some o := by rw [← ho, nth_eq]; simp
  unfold wpOp
  simp only [hoi]
  rw [if_pos (wanted_of ha hg)]
  refine .inl (Oper.wp_mono (fun a' w' ⟨m', D', hf, hd, hc, hS, hn⟩ => ⟨D', hd, hc, hS, ?_⟩) (hl a ha w hw _))
  have := hn a' hf
  rw [listedOf_snoc] at this
  exact this

theorem RG.step1 {f : Nat} {done : List Nat} (i : Nat) (hr : Region.ready .any l.toArray (listedOf l.length done) = [i])
    (h : OpL P l n S i m D (fun m' D' => RG P l n S Q f (done ++ [i]) m' D')) : RG P l n S Q (f + 1) done m D :=
  RG.step [i] hr (by simp) (by simpa using h)

theorem RG.step2 {f : Nat} {done : List Nat} (i j : Nat) (hr : Region.ready .any l.toArray (listedOf l.length done) = [i, j])
    (h : OpL P l n S i m D (fun m' D' => RG P l n S Q f (done ++ [i]) m' D')) (h' : OpL P l n S j m D (fun m' D' => RG P l n S Q f (done ++ [j]) m' D')) : RG P l n S Q (f + 1) done m D :=
  RG.step [i, j] hr (by simp) (by
    intro k hk
    simp only [List.mem_cons, List.not_mem_nil, or_false] at hk
    rcases hk with rfl | rfl
    · exact h
    · exact h')

theorem RG.done_ {done : List Nat} (hr : Region.ready .any l.toArray (listedOf l.length done) = []) (h : ∀ a, Fr n m a → ∀ w, D w → Q .normal a w) : RG P l n S Q 0 done m D :=
  fun a ha => ⟨hr, h a ha⟩

theorem RG.tell {f : Nat} {done : List Nat} {m' : Mp} {D' : World → Prop} (hm : Sub m' m) (h : RG P l n S Q f done m' D) : RG P l n S Q f done m D := fun a ha => h a (ha.sub hm)

/-- The region that draws. -/
theorem RG.region {id : Nat} (hm : P.follows .mixedOrders = true) (hc : Closed D) (h : RG P l n S Q l.length [] m D) : ∀ a, Fr n m a → ∀ w, D w → (Code.region id l.toArray true).wp P Q a w := by
  intro a ha w hw
  refine wp_region_any hm ?_
  have := RD.wpAny _ _ _ _ (h a ha) { w with drawn := w.drawn + 1 } (hc _ _ hw (Pres.drawn _))
  simpa [listedOf] using this
end

/-! ### Code -/

/-- From every frame that m tells and every world of D the code comes to Q. -/
def HT (P : Program) (c : Code) (n : Nat) (m : Mp) (D : World → Prop) (Q : Exit → Act → World → Prop) : Prop := ∀ a, Fr n m a → ∀ w, D w → c.wp P Q a w
/-- The same of an end. -/
def ET (e : Exit) (n : Nat) (m : Mp) (D : World → Prop) (Q : Exit → Act → World → Prop) : Prop := ∀ a, Fr n m a → ∀ w, D w → Q e a w

section
variable {P : Program} {n : Nat} {m : Mp} {D : World → Prop} {Q : Exit → Act → World → Prop} {x y : Code}

theorem HT.seq (h : HT P x n m D (Exit.then (y.wp P Q) Q)) : HT P (.seq x y) n m D Q := fun a ha w hw => wp_seq (h a ha w hw)
theorem HT.block {id : Nat} (h : HT P x n m D (Exit.inBlock id Q)) : HT P (.block id x) n m D Q := fun a ha w hw => wp_block (h a ha w hw)
theorem HT.skip (h : ET .normal n m D Q) : HT P .skip n m D Q := fun a ha w hw => wp_skip (h a ha w hw)
theorem HT.ret (h : ET .ret n m D Q) : HT P .ret n m D Q := fun a ha w hw => wp_ret (h a ha w hw)
theorem HT.exit {id : Nat} (h : ET (.exit id) n m D Q) : HT P (.exit id) n m D Q := fun a ha w hw => wp_exit (h a ha w hw)
theorem HT.yes {c : Operand} (hc : ev m c = some (.bool true)) (h : HT P x n m D Q) : HT P (.cond c x y) n m D Q := fun a ha w hw => wp_cond_true (ha.ev hc) (h a ha w hw)
theorem HT.no {c : Operand} (hc : ev m c = some (.bool false)) (h : HT P y n m D Q) : HT P (.cond c x y) n m D Q := fun a ha w hw => wp_cond_false (ha.ev hc) (h a ha w hw)
theorem HT.cond {c : Operand} {b : Bool} (hc : ev m c = some (.bool b)) (ht : b = true → HT P x n m D Q) (hf : b = false → HT P y n m D Q) : HT P (.cond c x y) n m D Q :=
  fun a ha w hw => wp_cond_split (ha.ev hc) (fun hb => ht hb a ha w hw) (fun hb => hf hb a ha w hw)
theorem HT.plain {id : Nat} {l : List Oper} (h : SL P l.toArray n Q l m D) : HT P (.region id l.toArray false) n m D Q := fun a ha w hw => wp_region_lit (h a ha w hw)
theorem HT.drawn {id : Nat} {l : List Oper} (hm : P.follows .mixedOrders = true) (hc : Closed D) (S : World → Prop) (h : RG P l n S Q l.length [] m D) : HT P (.region id l.toArray true) n m D Q := RG.region hm hc h
theorem HT.drawnS {id : Nat} {l : List Oper} (hm : P.follows .mixedOrders = true) (hc : Closed D) (h : RG P l n D Q l.length [] m D) : HT P (.region id l.toArray true) n m D Q := RG.region hm hc h
theorem HT.tell {c : Code} {m' : Mp} {D' : World → Prop} (hm : Sub m' m) (hD : ∀ w, D w → D' w) (h : HT P c n m' D' Q) : HT P c n m D Q := fun a ha w hw => h a (ha.sub hm) w (hD w hw)

/-- A loop: at each round's head one of the states that I lists. -/
theorem HT.loop {ι : Type} (mm : ι → Mp) (DD : ι → World → Prop) (μ : ι → Nat) (i₀ : ι) (hm : Sub (mm i₀) m) (hD : ∀ w, D w → DD i₀ w)
    (round : ∀ i, HT P x n (mm i) (DD i) (Exit.then (fun a w => ∃ j, μ j < μ i ∧ Fr n (mm j) a ∧ DD j w) Q)) : HT P (.loop x) n m D Q := by
  intro a ha w hw b kk cs
  have key : ∀ k (i : ι), μ i = k → ∀ a, Fr n (mm i) a → ∀ w, DD i w →
      ∃ e a' w', Q e a' w' ∧ Arrives P (lone (b.at a (.code x :: .inLoop x :: kk)) cs w) b kk cs e a' w' := by
    intro k
    induction k using Nat.strongRecOn with
    | _ k ih =>
      intro i hk a ha w hw
      obtain ⟨e, a₁, w₁, hq, harr⟩ := round i a ha w hw b (.inLoop x :: kk) cs
      cases e with
      | normal =>
        obtain ⟨j, hj, hfa, hfw⟩ := hq
        obtain ⟨e₂, a₂, w₂, hq₂, harr₂⟩ := ih (μ j) (hk ▸ hj) j rfl a₁ hfa w₁ hfw
        exact ⟨e₂, a₂, w₂, hq₂, .of_steps (Steps.trans harr (.one step_inLoop)) harr₂⟩
      | exit id => exact ⟨_, a₁, w₁, hq, .pass (x := .inLoop x) rfl (fun _ _ => .inl (by simp)) harr⟩
      | goto l => exact ⟨_, a₁, w₁, hq, .pass (x := .inLoop x) rfl (fun _ _ => .inl (by simp)) harr⟩
      | ret => exact ⟨_, a₁, w₁, hq, .pass (x := .inLoop x) rfl (fun _ _ => .inl (by simp)) harr⟩
      | panic ch => exact ⟨_, a₁, w₁, hq, .pass (x := .inLoop x) rfl (fun _ _ => .inl (by simp)) harr⟩
      | outgrown => exact ⟨_, a₁, w₁, hq, .pass (x := .inLoop x) rfl (fun _ _ => .inl (by simp)) harr⟩
  obtain ⟨e, a', w', hq, harr⟩ := key _ i₀ rfl a (ha.sub hm) w (hD w hw)
  exact ⟨e, a', w', hq, .of_steps (.one step_loop) harr⟩
end

/-! ### The steps as the printed walks take them -/

theorem dlt {t n : Nat} (h : Nat.blt t n = true) : t < n := by simpa [Nat.blt_eq] using h

section
variable {P : Program} {ops : Array Oper} {l rest : List Oper} {n t : Nat} {Q : Exit → Act → World → Prop} {m : Mp} {D S : World → Prop} {op : Op} {ty : TypeId} {pos : String} {af : Array Edge} {g : Option (Nat × Bool)} {v : Value}

theorem sq (hD : Closed D) (hq : QF P n D ⟨some t, op, ty, pos, af, none⟩ m v) (hd : Nat.blt t n = true) (h : SL P ops n Q rest ((t, v) :: m) D) : SL P ops n Q (⟨some t, op, ty, pos, af, none⟩ :: rest) m D :=
  SL.q hD rfl hq (by rintro u hu; obtain rfl := Option.some.inj hu; exact dlt hd) h
theorem sq0 (hD : Closed D) (hq : QF P n D ⟨none, op, ty, pos, af, none⟩ m v) (h : SL P ops n Q rest m D) : SL P ops n Q (⟨none, op, ty, pos, af, none⟩ :: rest) m D :=
  SL.q hD rfl hq (by simp) h
theorem sl_ {d : Option Tmp} (hl : LF P n ⟨d, op, ty, pos, af, none⟩ m D (fun m' D' => SL P ops n Q rest m' D')) : SL P ops n Q (⟨d, op, ty, pos, af, none⟩ :: rest) m D :=
  SL.l rfl hl fun _ _ _ h => h
theorem sgq (hD : Closed D) (hb : wantedBy ops ⟨some t, op, ty, pos, af, g⟩ m = some true) (hq : QF P n D ⟨some t, op, ty, pos, af, g⟩ m v) (hd : Nat.blt t n = true) (h : SL P ops n Q rest ((t, v) :: m) D) : SL P ops n Q (⟨some t, op, ty, pos, af, g⟩ :: rest) m D :=
  SL.gq hD hb hq (by rintro u hu; obtain rfl := Option.some.inj hu; exact dlt hd) h
theorem sgl {d : Option Tmp} (hb : wantedBy ops ⟨d, op, ty, pos, af, g⟩ m = some true) (hl : LF P n ⟨d, op, ty, pos, af, g⟩ m D (fun m' D' => SL P ops n Q rest m' D')) : SL P ops n Q (⟨d, op, ty, pos, af, g⟩ :: rest) m D :=
  SL.gl hb hl fun _ _ _ h => h
theorem sskip (hb : wantedBy ops ⟨some t, op, ty, pos, af, g⟩ m = some false) (hd : Nat.blt t n = true) (h : SL P ops n Q rest ((t, undef) :: m) D) : SL P ops n Q (⟨some t, op, ty, pos, af, g⟩ :: rest) m D :=
  SL.skip hb (by rintro u hu; obtain rfl := Option.some.inj hu; exact dlt hd) h
theorem sskip0 (hb : wantedBy ops ⟨none, op, ty, pos, af, g⟩ m = some false) (h : SL P ops n Q rest m D) : SL P ops n Q (⟨none, op, ty, pos, af, g⟩ :: rest) m D :=
  SL.skip hb (by simp) h
theorem send (h : ET .normal n m D Q) : SL P ops n Q [] m D := SL.nil h

theorem dq {Nx : Mp → Prop} {i : Nat} {is : List Nat} (ho : nth l i = some ⟨some t, op, ty, pos, af, none⟩) (hq : QF P n S ⟨some t, op, ty, pos, af, none⟩ m v) (h : QL P l n S Nx is ((t, v) :: m)) : QL P l n S Nx (i :: is) m :=
  QL.q ho rfl hq h
theorem dq0 {Nx : Mp → Prop} {i : Nat} {is : List Nat} (ho : nth l i = some ⟨none, op, ty, pos, af, none⟩) (hq : QF P n S ⟨none, op, ty, pos, af, none⟩ m v) (h : QL P l n S Nx is m) : QL P l n S Nx (i :: is) m :=
  QL.q ho rfl hq h
theorem dgq {Nx : Mp → Prop} {i : Nat} {is : List Nat} (ho : nth l i = some ⟨some t, op, ty, pos, af, g⟩) (hb : wantedBy l.toArray ⟨some t, op, ty, pos, af, g⟩ m = some true) (hq : QF P n S ⟨some t, op, ty, pos, af, g⟩ m v) (h : QL P l n S Nx is ((t, v) :: m)) : QL P l n S Nx (i :: is) m :=
  QL.gq ho hb hq h
theorem dskip {Nx : Mp → Prop} {i : Nat} {is : List Nat} (ho : nth l i = some ⟨some t, op, ty, pos, af, g⟩) (hb : wantedBy l.toArray ⟨some t, op, ty, pos, af, g⟩ m = some false) (h : QL P l n S Nx is ((t, undef) :: m)) : QL P l n S Nx (i :: is) m :=
  QL.skip ho hb h
theorem dtake {f : Nat} {done : List Nat} (is : List Nat) (hsel : Region.noSelect l.toArray = true) (hc : Closed D) (hS : ∀ w, D w → S w) (hB : takesB l n done is = true)
    (h : QL P l n S (fun m' => RG P l n S Q f (done ++ is) m' D) is m) : RG P l n S Q (f + is.length) done m D := RG.takes hsel hc hS is done m hB h
theorem dop {i : Nat} {d : Option Tmp} {Nx : Mp → (World → Prop) → Prop} (ho : nth l i = some ⟨d, op, ty, pos, af, none⟩) (hl : LF P n ⟨d, op, ty, pos, af, none⟩ m D (fun m' D' => (∀ w, D' w → S w) ∧ Nx m' D')) : OpL P l n S i m D Nx :=
  ⟨_, ho, rfl, hl⟩
theorem dgop {i : Nat} {d : Option Tmp} {Nx : Mp → (World → Prop) → Prop} (ho : nth l i = some ⟨d, op, ty, pos, af, g⟩) (hb : wantedBy l.toArray ⟨d, op, ty, pos, af, g⟩ m = some true) (hl : LF P n ⟨d, op, ty, pos, af, g⟩ m D (fun m' D' => (∀ w, D' w → S w) ∧ Nx m' D')) : OpL P l n S i m D Nx :=
  ⟨_, ho, hb, hl⟩
theorem dend {done : List Nat} (hr : Region.ready .any l.toArray (listedOf l.length done) = []) (h : ET .normal n m D Q) : RG P l n S Q 0 done m D := RG.done_ hr h

variable {x y : Code}
theorem eseq (h : HT P y n m D Q) : ET .normal n m D (Exit.then (y.wp P Q) Q) := h
theorem ein {id : Nat} (h : ET .normal n m D Q) : ET .normal n m D (Exit.inBlock id Q) := h
theorem ex_then {id : Nat} {K : Act → World → Prop} (h : ET (.exit id) n m D Q) : ET (.exit id) n m D (Exit.then K Q) := h
theorem ex_in {id : Nat} (h : ET .normal n m D Q) : ET (.exit id) n m D (Exit.inBlock id Q) := fun a ha w hw => by
  show (if id = id then Q .normal a w else Q (.exit id) a w)
  rw [if_pos rfl]
  exact h a ha w hw
theorem ex_out {id id' : Nat} (hne : Nat.beq id id' = false) (h : ET (.exit id) n m D Q) : ET (.exit id) n m D (Exit.inBlock id' Q) := fun a ha w hw => by
  show (if id = id' then Q .normal a w else Q (.exit id) a w)
  rw [if_neg (fun e => by subst e; simp at hne)]
  exact h a ha w hw
theorem yesd {c : Operand} {p : Prop} [Decidable p] (hc : ev m c = some (.bool (decide p))) (hp : p) (h : HT P x n m D Q) : HT P (.cond c x y) n m D Q := HT.yes (by rw [hc, decide_eq_true hp]) h
theorem nod {c : Operand} {p : Prop} [Decidable p] (hc : ev m c = some (.bool (decide p))) (hp : ¬ p) (h : HT P y n m D Q) : HT P (.cond c x y) n m D Q := HT.no (by rw [hc, decide_eq_false hp]) h
theorem condd {c : Operand} {p : Prop} [Decidable p] (hc : ev m c = some (.bool (decide p))) (ht : p → HT P x n m D Q) (hf : ¬ p → HT P y n m D Q) : HT P (.cond c x y) n m D Q :=
  HT.cond hc (fun h => ht (of_decide_eq_true h)) (fun h => hf (of_decide_eq_false h))
/-- The loop's round is at its end. -/
theorem eround {ι : Type} {mm : ι → Mp} {DD : ι → World → Prop} {μ : ι → Nat} {i : ι} (j : ι) (hμ : μ j < μ i) (hm : Sub (mm j) m) (hD : ∀ w, D w → DD j w) :
    ET .normal n m D (Exit.then (fun a w => ∃ j, μ j < μ i ∧ Fr n (mm j) a ∧ DD j w) Q) := fun a ha w hw => ⟨j, hμ, ha.sub hm, hD w hw⟩
end

/-! ### A function's beginning and end -/

theorem Fr.init {n : Nat} {vs : List Value} (m : Mp) (hm : ∀ i v, lk m i = some v → vs[i]? = some v) (hn : vs.length ≤ n) : Fr n m { tmps := vs.toArray ++ Array.replicate (n - vs.toArray.size) undef, defers := [] } := by
  refine ⟨by simp; omega, rfl, fun i v hv => ?_⟩
  have := hm i v hv
  have hlt : i < vs.length := (List.getElem?_eq_some_iff.1 this).1
  have hget : vs[i] = v := by simpa [List.getElem?_eq_getElem hlt] using this
  simp [Array.getD_eq_getD_getElem?, Array.getElem?_append, hlt, hget]

def argsM : List Value → Nat → Mp
  | [], _ => []
  | v :: r, i => (i, v) :: argsM r (i + 1)

theorem argsM_get : ∀ (vs : List Value) (k i : Nat) (v : Value), lk (argsM vs k) i = some v → k ≤ i ∧ vs[i - k]? = some v
  | [], k, i, v, h => by cases h
  | u :: r, k, i, v, h => by
    unfold argsM at h
    rw [lk_cons] at h
    by_cases he : k = i
    · subst he
      rw [if_pos rfl] at h
      simp [h]
    · rw [if_neg he] at h
      obtain ⟨h1, h2⟩ := argsM_get r (k + 1) i v h
      refine ⟨by omega, ?_⟩
      rw [show i - k = (i - (k + 1)) + 1 by omega]
      simpa using h2

theorem enter {P : Program} {f : FuncId} {fn : Func} {c : Code} {vs : List Value} {w : World} {R : Ending → World → Prop} {n : Nat} {D : World → Prop} (hf : P.funcs[f]? = some fn) (hb : fn.body = some c) (hn : fn.ntmps = n) (hl : Nat.ble vs.length n = true)
    (hD : D w) (h : HT P c n (argsM vs 0) D (bodyPost P fn R)) : Calls P f vs.toArray w R := by
  refine calls_of_wp hf hb ?_
  rw [hn]
  refine h _ (Fr.init _ (fun i v hv => ?_) (by simpa [Nat.ble_eq] using hl)) w hD
  simpa using (argsM_get vs 0 i v hv).2

section
variable {P : Program} {fn : Func} {R : Ending → World → Prop} {n : Nat} {m : Mp} {a : Act} {w : World} {v : Value}

theorem fin_ (ha : Fr n m a) (hr : (results fn a.tmps).run P w = .ok v w) (hR : R (.returned v) w) : bodyPost P fn R .ret a w := ⟨ha.defers, v, hr, hR⟩
theorem finN (ha : Fr n m a) (hr : (results fn a.tmps).run P w = .ok v w) (hR : R (.returned v) w) : bodyPost P fn R .normal a w := ⟨ha.defers, v, hr, hR⟩
theorem res0 (h : fn.results = #[]) : (results fn a.tmps).run P w = .ok (.tuple #[]) w := results_none h _ _ _
theorem res1 (ha : Fr n m a) {t : Nat} (h : fn.results = #[.tmp t]) (hv : lk m t = some v) : (results fn a.tmps).run P w = .ok v w := by
  rw [results_tmp h, ha.val t v hv]
theorem res2 (ha : Fr n m a) {t u : Nat} {v' : Value} (h : fn.results = #[.tmp t, .tmp u]) (hv : lk m t = some v) (hv' : lk m u = some v') : (results fn a.tmps).run P w = .ok (.tuple #[v, v']) w := by
  rw [results_tmp2 h, ha.val t v hv, ha.val u v' hv']
theorem res3 (ha : Fr n m a) {t u s : Nat} {v' v'' : Value} (h : fn.results = #[.tmp t, .tmp u, .tmp s]) (hv : lk m t = some v) (hv' : lk m u = some v') (hv'' : lk m s = some v'') : (results fn a.tmps).run P w = .ok (.tuple #[v, v', v'']) w := by
  have e1 := ha.val t v hv
  have e2 := ha.val u v' hv'
  have e3 := ha.val s v'' hv''
  simp [results, h] at e1 e2 e3 ⊢
  simp [e1, e2, e3]
theorem resc1 (ha : Fr n m a) {t T : Nat} {A : Addr} (h : fn.results = #[.cell t T]) (hv : lk m t = some (.pointer (some A))) (hl : (loadVar T A).run P w = .ok v w) : (results fn a.tmps).run P w = .ok v w := by
  have e1 := ha.val t _ hv
  simp [results, h, asAddr] at e1 ⊢
  simp [e1, hl]
theorem resc2 (ha : Fr n m a) {t T u : Nat} {A : Addr} {v' : Value} (h : fn.results = #[.cell t T, .tmp u]) (hv : lk m t = some (.pointer (some A))) (hl : (loadVar T A).run P w = .ok v w) (hv' : lk m u = some v') :
    (results fn a.tmps).run P w = .ok (.tuple #[v, v']) w := by
  have e1 := ha.val t _ hv
  have e2 := ha.val u _ hv'
  simp [results, h, asAddr] at e1 e2 ⊢
  simp [e1, hl, e2]
theorem resc3 (ha : Fr n m a) {t T u s : Nat} {A : Addr} {v' v'' : Value} (h : fn.results = #[.cell t T, .tmp u, .tmp s]) (hv : lk m t = some (.pointer (some A))) (hl : (loadVar T A).run P w = .ok v w) (hv' : lk m u = some v') (hv'' : lk m s = some v'') :
    (results fn a.tmps).run P w = .ok (.tuple #[v, v', v'']) w := by
  have e1 := ha.val t _ hv
  have e2 := ha.val u _ hv'
  have e3 := ha.val s _ hv''
  simp [results, h, asAddr] at e1 e2 e3 ⊢
  simp [e1, hl, e2, e3]
end
end Go.Proofs.YtfkaafbeeegenaaGreat.Zed
