/- Program-free: parts that follow one another in the bytes, each telling how long it is. -/
import Derived.Test.YtfkaafbeeegenaaGreatTail
namespace Go.Proofs.YtfkaafbeeegenaaGreat.Zed
set_option linter.unusedVariables false
set_option linter.unusedSimpArgs false
open Go.RowKit

/-- From p on the parts L stand, up to e: nxt tells where the next one begins. -/
inductive Ch (nxt : Nat → Option Nat) (e : Nat) : Nat → List Nat → Prop
  | nil : Ch nxt e e []
  | cons {p q : Nat} {L : List Nat} (hp : p < e) (hq : nxt p = some q) (h : Ch nxt e q L) : Ch nxt e p (p :: L)
/-- From p on one comes to where no part stands. -/
inductive Bd (nxt : Nat → Option Nat) (e : Nat) : Nat → Prop
  | here {p : Nat} (hp : p < e) (hq : nxt p = none) : Bd nxt e p
  | step {p q : Nat} (hp : p < e) (hq : nxt p = some q) (h : Bd nxt e q) : Bd nxt e p

theorem ch_or {nxt : Nat → Option Nat} {e : Nat} (hn : ∀ p q, p < e → nxt p = some q → p < q ∧ q ≤ e) : ∀ (k p : Nat), e - p = k → p ≤ e → (∃ L, Ch nxt e p L) ∨ Bd nxt e p := by
  intro k
  induction k using Nat.strongRecOn with
  | _ k ih =>
    intro p hk hp
    rcases Nat.lt_or_ge p e with h | h
    · cases hq : nxt p with
      | none => exact .inr (.here h hq)
      | some q =>
        obtain ⟨h1, h2⟩ := hn p q h hq
        rcases ih (e - q) (by omega) q rfl h2 with ⟨L, hL⟩ | hb
        · exact .inl ⟨p :: L, .cons h hq hL⟩
        · exact .inr (.step h hq hb)
    · have : p = e := by omega
      subst this
      exact .inl ⟨[], .nil⟩

/-- Where the i-th part begins; the end behind the last one. -/
def offs (L : List Nat) (e i : Nat) : Nat := L.getD i e
theorem Ch.off {nxt : Nat → Option Nat} {e : Nat} : ∀ {p : Nat} {L : List Nat}, Ch nxt e p L → offs L e 0 = p ∧ offs L e L.length = e ∧ ∀ i, i < L.length → offs L e i < e ∧ nxt (offs L e i) = some (offs L e (i + 1))
  | _, _, .nil => ⟨rfl, rfl, fun i h => absurd h (Nat.not_lt_zero i)⟩
  | _, _, .cons (p := p) (q := q) (L := L) hp hq h => by
    obtain ⟨h1, h2, h3⟩ := h.off
    refine ⟨rfl, by simp [offs], fun i hi => ?_⟩
    cases i with
    | zero =>
      refine ⟨hp, ?_⟩
      show nxt p = some (offs (p :: L) e 1)
      rw [hq, ← h1]
      simp [offs]
    | succ i =>
      have := h3 i (by simpa using hi)
      simpa [offs] using this
theorem Ch.le {nxt : Nat → Option Nat} {e : Nat} (hn : ∀ p q, p < e → nxt p = some q → p < q ∧ q ≤ e) {p : Nat} {L : List Nat} (h : Ch nxt e p L) : ∀ i, i ≤ L.length → offs L e i ≤ e := by
  intro i hi
  obtain ⟨_, h2, h3⟩ := h.off
  rcases Nat.lt_or_ge i L.length with hl | hl
  · exact Nat.le_of_lt (h3 i hl).1
  · have : i = L.length := by omega
    rw [this, h2]
    exact Nat.le_refl _

/-- The parts told so far, on blocks of which Q tells. -/
structure Tol (Q : Nat → Prop) (dat : Nat → List Nat × List UInt8) (i : Nat) (ps : List (NI × BI)) : Prop where
  data : ps.map (fun p => (p.1.xs, p.2.bs)) = (List.range i).map dat
  own : ∀ x, (psF ps).fp x → Q x
theorem Tol.nil (Q : Nat → Prop) (dat : Nat → List Nat × List UInt8) : Tol Q dat 0 [] := ⟨rfl, fun x h => by obtain ⟨_, hφ, _⟩ := h; cases hφ⟩
theorem Tol.succ {Q : Nat → Prop} {dat : Nat → List Nat × List UInt8} {i : Nat} {ps : List (NI × BI)} (h : Tol Q dat i ps) (p : NI × BI) (hd : (p.1.xs, p.2.bs) = dat i) (h1 : ∀ x, p.1.fact.fp x → Q x) (h2 : ∀ x, p.2.fact.fp x → Q x) : Tol Q dat (i + 1) (ps ++ [p]) := by
  refine ⟨by rw [List.map_append, h.data, List.range_succ, List.map_append, List.map_singleton, List.map_singleton, hd], fun x hx => ?_⟩
  obtain ⟨φ, hφ, hf⟩ := hx
  rw [List.flatMap_append, List.mem_append] at hφ
  rcases hφ with hφ | hφ
  · exact h.own x ⟨φ, hφ, hf⟩
  · simp at hφ
    rcases hφ with rfl | rfl
    · exact h1 x hf
    · exact h2 x hf
theorem psOwnQ {w0 w : World} {R : Fact} {ps : List (NI × BI)} {M : List Nat} {K : List Kb} {B : List Fact} (h : St w0 M K B w) {j : Nat} (hj : B[j]? = some (psF ps)) (hn : ∀ x, (psF ps).fp x → w0.heap.size ≤ x ∨ R.fp x) : ∀ φ ∈ ps.flatMap (fun p => [p.1.fact, p.2.fact]), Own w0 R φ w :=
  fun φ hφ => ⟨h.fact hj φ hφ, fun x hx => hn x ⟨φ, hφ, hx⟩⟩
end Go.Proofs.YtfkaafbeeegenaaGreat.Zed
