/- Program-free: rows read, bytes as a text. -/
import Derived.Test.YtfkaafbeeegenaaGreatCal
import Derived.Laws.BytesString
namespace Go.Proofs.YtfkaafbeeegenaaGreat.Zed
set_option linter.unusedVariables false
set_option linter.unusedSimpArgs false
open Go.RowKit

section
variable {P : Program} {n : Nat} {S : World → Prop} {m : Mp} {d : Option Tmp} {ty : TypeId} {pos : String} {af : Array Edge} {g : Option (Nat × Bool)} {x y : Operand} {v u : Value}

theorem q_indexC {t e i len cp sz : Nat} {A : Option Addr} {kd : IntKind} {vs : List Value} (hx : ev m x = some (.slice A len cp)) (hy : ev m y = some (.int kd (i : Int))) (ht : P.underlying t = some (.slice e)) (he : (P.info? e).map (·.size) = some sz)
    (hS : ∀ w, S w → (Cel A len cp sz vs).ok w) (hsz : 0 < sz) (hi : i < len) : QF P n S ⟨d, .indexAddr t x y, ty, pos, af, g⟩ m (.pointer (A.map (·.add (i * sz)))) := by
  refine q_v (fun a => Instr.indexAt t (a.eval x) (a.eval y)) (fun a => rfl) fun a ha w hw => ?_
  rw [ha.ev hx, ha.ev hy]
  obtain ⟨hl, hc, hb⟩ := hS w hw
  obtain ⟨ad, rfl, _, _⟩ := hb (by
    rintro rfl
    simp only [List.length_nil] at hl
    have := Nat.mul_pos (show 0 < len by omega) hsz
    omega)
  obtain ⟨inf, hinf, hs⟩ := Option.map_eq_some_iff.1 he
  have h1 : (0 : Int) ≤ (i : Int) ∧ (i : Int) < (len : Int) := by omega
  simp [Instr.indexAt, asIntOf, run_underlying ht, run_sizeOf hinf, hs]
  intro hle
  omega

theorem Cel.get {A : Option Addr} {len cp sz : Nat} {vs : List Value} {w : World} (h : (Cel A len cp sz vs).ok w) {i : Nat} {v : Value} (hv : vs[i]? = some v) : ∃ ad, A = some ad ∧ w.cell? (ad.add i) = some v := by
  obtain ⟨ad, hA, _, hc⟩ := h.2.2 (by rintro rfl; simp at hv)
  exact ⟨ad, hA, hc i v hv⟩

theorem q_celLoad {t i len cp sz : Nat} {A : Option Addr} {vs : List Value} (hx : ev m x = some (.pointer (A.map (·.add i)))) (ht : nagg P t = true) (hS : ∀ w, S w → (Cel A len cp sz vs).ok w) (hv : vs[i]? = some v) : QF P n S ⟨d, .load t x, ty, pos, af, g⟩ m v := by
  refine q_v (fun a => Instr.loadAt t (a.eval x)) (fun a => rfl) fun a ha w hw => ?_
  rw [ha.ev hx]
  obtain ⟨ad, rfl, hc⟩ := Cel.get (hS w hw) hv
  exact run_load1 ht hc

theorem q_celAgg {t i len cp sz : Nat} {A : Option Addr} {vs : List Value} {v0 v1 : Value} (hx : ev m x = some (.pointer (A.map (·.add i)))) (ht : aggs P t = some 2) (hS : ∀ w, S w → (Cel A len cp sz vs).ok w) (h0 : vs[i]? = some v0) (h1 : vs[i + 1]? = some v1) :
    QF P n S ⟨d, .load t x, ty, pos, af, g⟩ m (.agg #[v0, v1]) := by
  refine q_v (fun a => Instr.loadAt t (a.eval x)) (fun a => rfl) fun a ha w hw => ?_
  rw [ha.ev hx]
  obtain ⟨ad, rfl, hc0⟩ := Cel.get (hS w hw) h0
  obtain ⟨ad', he, hc1⟩ := Cel.get (hS w hw) h1
  obtain rfl := Option.some.inj he
  refine run_loadAgg (vs := [v0, v1]) ht fun j v hj => ?_
  rw [add_add_]
  match j, hj with
  | 0, hj => simp at hj; subst hj; exact hc0
  | 1, hj => simp at hj; subst hj; exact hc1
  | j + 2, hj => simp at hj

theorem u64at {xs : List Nat} {k i : Nat} (hk : k = xs.length) (hi : i < k) : (xs.map fun x => Value.int .u64 ((x : Nat) : Int))[i * 1]? = some (.int .u64 ((xs.getD i 0 : Nat) : Int)) := by
  subst hk
  simp [List.getElem?_eq_getElem hi]
abbrev bi0 : BI := ⟨none, 0, 0, []⟩
abbrev ni0 : NI := ⟨none, 0, 0, []⟩
theorem biat {ds : List BI} {k i : Nat} (hk : k = ds.length) (hi : i < k) : (ds.map BI.val)[i * 1]? = some (.slice (ds.getD i bi0).A (ds.getD i bi0).n (ds.getD i bi0).c) := by
  subst hk
  simp [List.getElem?_eq_getElem hi]
theorem bimem {ds : List BI} {k i : Nat} (hk : k = ds.length) (hi : i < k) : (ds.getD i bi0).fact ∈ ds.map BI.fact := by
  subst hk
  rw [List.getD_eq_getElem?_getD, List.getElem?_eq_getElem hi, Option.getD_some]
  exact List.mem_map_of_mem (List.getElem_mem hi)
theorem biEq {ds ds' : List BI} (h : ds.map BI.bs = ds'.map BI.bs) (i : Nat) : (ds.getD i bi0).bs = (ds'.getD i bi0).bs := by
  have : (ds.map BI.bs).getD i [] = (ds'.map BI.bs).getD i [] := by rw [h]
  have e : ∀ l : List BI, (l.map BI.bs).getD i [] = (l.getD i bi0).bs := by
    intro l
    simp only [List.getD_eq_getElem?_getD, List.getElem?_map]
    cases l[i]? <;> rfl
  rwa [e, e] at this
abbrev pi0 : NI × BI := (ni0, bi0)
theorem flat2 : ∀ (ps : List (NI × BI)) (i : Nat), i < ps.length → (ps.flatMap fun p => [p.1.val, p.2.val])[i * 2]? = some (ps.getD i pi0).1.val ∧ (ps.flatMap fun p => [p.1.val, p.2.val])[i * 2 + 1]? = some (ps.getD i pi0).2.val
  | [], i, h => by simp at h
  | p :: ps, 0, h => by simp
  | p :: ps, i + 1, h => by
    have := flat2 ps i (by simpa using h)
    rw [show (i + 1) * 2 = i * 2 + 1 + 1 by omega]
    simpa using this
theorem pimem {ps : List (NI × BI)} {i : Nat} (hi : i < ps.length) : (ps.getD i pi0).1.fact ∈ (ps.flatMap fun p => [p.1.fact, p.2.fact]) ∧ (ps.getD i pi0).2.fact ∈ (ps.flatMap fun p => [p.1.fact, p.2.fact]) := by
  rw [List.getD_eq_getElem?_getD, List.getElem?_eq_getElem hi, Option.getD_some]
  refine ⟨List.mem_flatMap.2 ⟨_, List.getElem_mem hi, by simp⟩, List.mem_flatMap.2 ⟨_, List.getElem_mem hi, by simp⟩⟩
theorem flat_len (ps : List (NI × BI)) : (ps.flatMap fun p => [p.1.val, p.2.val]).length = ps.length * 2 := by
  induction ps with
  | nil => rfl
  | cons p ps ih => simp [ih]; omega
theorem piEq {ps ps' : List (NI × BI)} (h : ps.map (fun p => (p.1.xs, p.2.bs)) = ps'.map (fun p => (p.1.xs, p.2.bs))) (i : Nat) : (ps.getD i pi0).1.xs = (ps'.getD i pi0).1.xs ∧ (ps.getD i pi0).2.bs = (ps'.getD i pi0).2.bs := by
  have : (ps.map (fun p => (p.1.xs, p.2.bs))).getD i ([], []) = (ps'.map (fun p => (p.1.xs, p.2.bs))).getD i ([], []) := by rw [h]
  have e : ∀ l : List (NI × BI), (l.map (fun p => (p.1.xs, p.2.bs))).getD i ([], []) = ((l.getD i pi0).1.xs, (l.getD i pi0).2.bs) := by
    intro l
    simp only [List.getD_eq_getElem?_getD, List.getElem?_map]
    cases l[i]? <;> rfl
  rw [e, e] at this
  exact ⟨congrArg Prod.fst this, congrArg Prod.snd this⟩

theorem run_bytes {w : World} {A : Option Addr} {k cp : Nat} {bs : List UInt8} (h : (Byt A k cp bs).ok w) : ∃ s : ByteArray, s = (bs.map fun b => ((b.toNat : Nat) : Int)).foldl (fun r n => r.push (UInt8.ofNat n.toNat)) ByteArray.empty ∧ (Conv.bytesToString (.slice A k cp)).run P w = .ok (.string s) w := by
  obtain ⟨rfl, hc, hcell⟩ := h
  refine ⟨_, rfl, ?_⟩
  cases A with
  | none =>
    have : bs = [] := Classical.byContradiction fun hb => by obtain ⟨_, hA, _⟩ := hcell hb; cases hA
    subst this
    rfl
  | some a =>
    refine run_bytesToString w a bs.length cp _ ?_
    have := run_loadCellsFrom (P := P) (w := w) a (bs.map fun b => Value.int .u8 ((b.toNat : Nat) : Int)) 0 #[] (fun j v hj => by
      have hjl : j < bs.length := by simpa using (List.getElem?_eq_some_iff.1 hj).1
      obtain ⟨ad, hA, _, hcc⟩ := hcell (by rintro rfl; simp at hjl)
      obtain rfl := Option.some.inj hA
      rw [Nat.zero_add, hcc j hjl]
      simp [nb, List.getD_eq_getElem?_getD, List.getElem?_eq_getElem hjl] at hj ⊢
      exact hj)
    unfold loadCells
    simp only [List.length_map, List.map_map] at this ⊢
    simpa [Function.comp_def] using this

theorem q_convBS {s t e k cp : Nat} {A : Option Addr} {bs : List UInt8} (hx : ev m x = some (.slice A k cp)) (hs : P.underlying s = some (.slice e)) (he : P.underlying e = some (.int .u8)) (ht : P.underlying t = some .string)
    (hS : ∀ w, S w → (Byt A k cp bs).ok w) : QF P n S ⟨d, .convert s t x, ty, pos, af, g⟩ m (.string ((bs.map fun b => ((b.toNat : Nat) : Int)).foldl (fun r n => r.push (UInt8.ofNat n.toNat)) ByteArray.empty)) := by
  refine q_v (fun a => convert s t (a.eval x)) (fun a => rfl) fun a ha w hw => ?_
  rw [ha.ev hx]
  obtain ⟨str, rfl, hr⟩ := run_bytes (P := P) (hS w hw)
  simp [convert, run_underlying hs, run_underlying he, run_underlying ht, hr]
theorem q_eqsSame {t yt : TypeId} {a b : ByteArray} (hx : ev m x = some (.string a)) (hy : ev m y = some (.string b)) (hr : a = b) : QF P n S ⟨d, .binOp .eql t x y yt, ty, pos, af, g⟩ m (.bool true) :=
  q_eqs hx hy (by subst hr; simp)
end
end Go.Proofs.YtfkaafbeeegenaaGreat.Zed
