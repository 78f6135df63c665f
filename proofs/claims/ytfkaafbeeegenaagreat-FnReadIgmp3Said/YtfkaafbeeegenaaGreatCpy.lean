/- Program-free: append of bytes onto nothing; a map of names. -/
import Derived.Test.YtfkaafbeeegenaaGreatLay
namespace Go.Proofs.YtfkaafbeeegenaaGreat.Zed
set_option linter.unusedVariables false
set_option linter.unusedSimpArgs false
open Go.RowKit

section
variable {P : Program} {n : Nat} {m : Mp} {d : Option Tmp} {ty : TypeId} {pos : String} {af : Array Edge} {g : Option (Nat × Bool)} {x y c : Operand} {v u : Value}
variable {w0 : World} {K : List Kb} {B : List Fact} {Nx : Mp → (World → Prop) → Prop} {t : Nat}

/-- The type's elements are bytes. -/
def byteT (P : Program) (e : TypeId) : Prop := ∃ i, P.info? e = some i ∧ i.size = 1 ∧ i.bytes = 1 ∧ i.zero = some (.int .u8 0)

theorem run_append_none {s e : Nat} {i : TypeInfo} (hs : P.underlying s = some (.slice e)) (hi : P.info? e = some i) {A : Option Addr} {cap k : Nat} (w : World) :
    (Builtin.append_ #[s, s] ty #[.slice A 0 cap, .slice none 0 k]).run P w = .ok (.slice A 0 cap) w := by
  cases A <;> simp [Builtin.append_, run_underlying hs, sizeOf, typeInfo, hi, Builtin.lenOf, Builtin.firstCells, storeCells]

theorem run_append_byt {s e : Nat} (hs : P.underlying s = some (.slice e)) (he : byteT P e) {w : World} {base : Nat} (hbase : base ≤ w.heap.size) {v : Value} (hv : w.ownsRow base e 1 v 0 [])
    {A : Option Addr} {k cp : Nat} {bs : List UInt8} (hb : (Byt A k cp bs).ok w) (hk : k ≤ 140737488355328) :
    ∃ A' c' w', (Builtin.append_ #[s, s] ty #[v, .slice A k cp]).run P w = .ok (.slice A' k c') w' ∧ (Byt A' k c' bs).ok w' ∧ (∀ b, (Byt A' k c' bs).fp b → base ≤ b) ∧ w.grownBy w' v.ownBlock := by
  obtain ⟨i, hi, h1, h2, h3⟩ := he
  have hb' := hb
  obtain ⟨rfl, hc, hcell⟩ := hb
  cases A with
  | none =>
    have : bs = [] := by
      rcases Classical.em (bs = []) with h | h
      · exact h
      · obtain ⟨_, hA, _⟩ := hcell h; cases hA
    subst this
    rcases hv.2 with ⟨rfl, _⟩ | ⟨b, cap, cur, rfl, hbb, hh, _⟩
    · exact ⟨none, 0, w, run_append_none hs hi w, ⟨rfl, Nat.le_refl _, fun h => absurd rfl h⟩, fun _ h => absurd rfl h.1, ⟨rfl, rfl, rfl, Nat.le_refl _, fun _ _ _ => rfl⟩⟩
    · exact ⟨_, cap, w, run_append_none hs hi w, ⟨rfl, Nat.zero_le _, fun h => absurd rfl h⟩, fun _ h => absurd rfl h.1, ⟨rfl, rfl, rfl, Nat.le_refl _, fun _ _ _ => rfl⟩⟩
  | some a =>
    have hm : (maxLen : Nat) = maxLen := rfl
    obtain ⟨v', w', hr, hown, hg, _, _⟩ := run_append_own_at (P := P) w base s ty e i (.int .u8 0) 1 1 hs hi h3 h1 h2 rfl (by decide) v 0 [] hv a bs.length cp (bs.map fun b => .int .u8 (b.toNat : Int)) (by simp)
      (fun j u hj => by
        have hne : bs ≠ [] := by rintro rfl; simp at hj
        obtain ⟨ad, hA, _, hcc⟩ := hcell hne
        obtain rfl := Option.some.inj hA
        have hjl : j < bs.length := by
          have := (List.getElem?_eq_some_iff.1 hj).1
          simpa using this
        rw [hcc j hjl]
        simp [nb, List.getD_eq_getElem?_getD, List.getElem?_eq_getElem hjl] at hj ⊢
        exact hj)
      (fun u hu => by
        obtain ⟨b, _, rfl⟩ := List.mem_map.1 hu
        rfl) (by simp only [maxLen]; omega) (by omega) hbase
    rw [Nat.zero_add, List.nil_append] at hown
    obtain ⟨A', c', rfl, hB, hf⟩ := Byt_of_row hown
    exact ⟨A', c', w', hr, hB, hf, hg⟩

theorem run_appendOp {s x : Operand} {st : Nat} {v u r : Value} {w w' : World} {a : Act} (hs : a.eval s = v) (hx : a.eval x = u) (hr : (Builtin.append_ #[st, st] ty #[v, u]).run P w = .ok r w') :
    (execOp a.eval ⟨d, .call ⟨.builtin .append, #[s, x], #[st, st]⟩, ty, pos, af, g⟩).run P w = .ok (.value r) w' := by
  simp [execOp, resolve, invoke, builtin, hs, hx, hr]

/-- Bytes are copied behind nothing. -/
theorem l_append0 {s : Operand} {st e j : Nat} {A : Option Addr} {k cp : Nat} {bs : List UInt8} (ht : t < n) (hs : ev m s = some (.slice none 0 0)) (hx : ev m x = some (.slice A k cp)) (hst : P.underlying st = some (.slice e)) (he : byteT P e)
    (hj : B[j]? = some (Byt A k cp bs)) (hk : k ≤ 140737488355328)
    (h : ∀ i : Option Addr × Nat, (∀ b, (Byt i.1 k i.2 bs).fp b → w0.heap.size ≤ b) → Nx ((t, .slice i.1 k i.2) :: m) (St w0 [] [] (B ++ [Byt i.1 k i.2 bs]))) :
    LF P n ⟨some t, .call ⟨.builtin .append, #[s, x], #[st, st]⟩, ty, pos, af, g⟩ m (St w0 [] K B) Nx := by
  refine l_run (fun a ha w hw => ?_) (by simpa using ht)
  obtain ⟨A', c', w', hr, hB, hf, hg⟩ := run_append_byt (ty := ty) hst he hw.pres.size (World.ownsRow_nil w w0.heap.size e 1) (hw.fact hj) hk
  have hp : Pres [] w w' := Pres.of_grown hg
  refine ⟨.value (.slice A' k c'), w', run_appendOp (ha.ev hs) (ha.ev hx) hr, _, St w0 [] [] (B ++ [Byt A' k c' bs]), rfl, ?_, St.closed _ _ _ _, h (A', c') hf⟩
  have hw' := hw.pres_nil hp
  refine ⟨hw'.pres, by simp, by simp, by simp, fun φ hφ => ?_, by simp⟩
  rcases List.mem_append.1 hφ with hφ | hφ
  · exact hw'.facts φ hφ
  · rw [List.mem_singleton.1 hφ]; exact hB

/-- Bytes are copied behind an empty row of this call's own. -/
theorem l_append1 {s : Operand} {st e j q b : Nat} {A : Option Addr} {k cp : Nat} {bs : List UInt8} (ht : t < n) (hs : ev m s = some (.slice (some ⟨b, 0, none⟩) 0 0)) (hx : ev m x = some (.slice A k cp)) (hst : P.underlying st = some (.slice e)) (he : byteT P e)
    (hq : K[q]? = some ⟨b, e, [], true⟩) (hj : B[j]? = some (Byt A k cp bs)) (hk : k ≤ 140737488355328)
    (h : ∀ i : Option Addr × Nat, (∀ b, (Byt i.1 k i.2 bs).fp b → w0.heap.size ≤ b) → Nx ((t, .slice i.1 k i.2) :: m) (St w0 [] [] (B ++ [Byt i.1 k i.2 bs]))) :
    LF P n ⟨some t, .call ⟨.builtin .append, #[s, x], #[st, st]⟩, ty, pos, af, g⟩ m (St w0 [] K B) Nx := by
  refine l_run (fun a ha w hw => ?_) (by simpa using ht)
  have hbb : w0.heap.size ≤ b := by
    rcases hw.wr _ (List.mem_of_getElem? hq) rfl with h' | h'
    · cases h'
    · exact h'
  have hrow : w.ownsRow w0.heap.size e 1 (.slice (some ⟨b, 0, none⟩) 0 0) 0 [] := by
    obtain ⟨cc, hcc, hfit⟩ := hw.kb hq
    have hc0 : cc = [] := List.eq_nil_of_length_eq_zero (fits_length hfit)
    subst hc0
    exact ⟨rfl, .inr ⟨b, 0, #[], rfl, hbb, hcc, Nat.le_refl _, by simp [maxLen], by simp, by simp⟩⟩
  obtain ⟨A', c', w', hr, hB, hf, hg⟩ := run_append_byt (ty := ty) hst he hw.pres.size hrow (hw.fact hj) hk
  refine ⟨.value (.slice A' k c'), w', run_appendOp (ha.ev hs) (ha.ev hx) hr, _, St w0 [] [] (B ++ [Byt A' k c' bs]), rfl, ?_, St.closed _ _ _ _, h (A', c') hf⟩
  have hp : Pres [b] w w' := ⟨hg.os, hg.tape, hg.output, hg.size, fun i hi hn => hg.block i hi (by
    intro he
    simp [Value.ownBlock] at he
    exact hn (by simp [he]))⟩
  have hp0 : Pres [] w0 w' := hw.pres.trans hp fun i hi => by
    rw [List.mem_singleton.1 hi]; exact .inr hbb
  refine ⟨hp0, by simp, by simp, by simp, fun φ hφ => ?_, by simp⟩
  rcases List.mem_append.1 hφ with hφ | hφ
  · refine φ.pres (hw.facts φ hφ) hp fun i hi => ?_
    rw [List.mem_singleton.1 hi]
    exact hw.apart φ hφ _ (List.mem_of_getElem? hq) rfl
  · rw [List.mem_singleton.1 hφ]; exact hB

/-! ### A map of names -/

/-- A map of the call's own beside what else is known. -/
structure SM (w0 : World) (M : List Nat) (K : List Kb) (B : List Fact) (b : Nat) (es : List MapEntry) (ck : Nat) (w : World) : Prop where
  st : St w0 M K B w
  mp : w.heap[b]? = some (.map es.toArray ck)
  new : w0.heap.size ≤ b
  offK : ∀ k ∈ K, k.num ≠ b
  offB : ∀ φ ∈ B, ¬ φ.fp b

theorem SM.closed {M : List Nat} {b ck : Nat} {es : List MapEntry} : Closed (SM w0 M K B b es ck) := fun w w' h hp => by
  have hlt : b < w.heap.size := by
    rcases Nat.lt_or_ge b w.heap.size with h' | h'
    · exact h'
    · have := h.mp; rw [Array.getElem?_eq_none h'] at this; cases this
  exact ⟨h.st.pres_nil hp, (hp.block b hlt (by simp)).trans h.mp, h.new, h.offK, h.offB⟩

theorem l_makeMap {M : List Nat} {mt : Nat} (ht : t < n) (h : ∀ b, Nx ((t, .map (some b)) :: m) (SM w0 M K B b [] 0)) : LF P n ⟨some t, .makeMap mt none, ty, pos, af, g⟩ m (St w0 M K B) Nx := by
  refine l_run (fun a ha w hw => ?_) (by simpa using ht)
  refine ⟨.value (.map (some w.heap.size)), w.alloc (.map #[] 0), ?_, _, SM w0 M K B w.heap.size [] 0, rfl, ?_, SM.closed, h _⟩
  · simp [execOp, Instr.makeMap, newObj, Sem.run]
  · have hp : Pres [] w (w.alloc (.map #[] 0)) := Pres.push w _
    refine ⟨hw.pres_nil hp, by show (w.heap.push _)[w.heap.size]? = _; simp, hw.pres.size, fun k hk he => ?_, fun φ hφ hf => ?_⟩
    · have := (hw.ok k hk).lt; omega
    · have := φ.inb w (hw.facts φ hφ) _ hf; omega

theorem run_checkKey {kt : Nat} (hk : P.underlying kt = some .string) (em : Bool) (s : ByteArray) (w : World) : (Instr.checkKey em 10000 kt (.string s)).run P w = .ok () w := by
  unfold Instr.checkKey
  rw [Sem.run_bind, run_underlying hk]
  rfl

theorem l_insert {M : List Nat} {mt kt et b ck : Nat} {es : List MapEntry} {s : ByteArray} {mo ko vo : Operand} (hm : ev m mo = some (.map (some b))) (hk : ev m ko = some (.string s)) (hv : ev m vo = some v) (ht : P.underlying mt = some (.map kt et)) (hkt : P.underlying kt = some .string)
    (hf : Instr.findNow .string (.string s) es 0 = some none) (h : Nx m (SM w0 M K B b (es ++ [MapEntry.mk (.string s) v ck]) (ck + 1))) : LF P n ⟨none, .insert mt mo ko vo, ty, pos, af, g⟩ m (SM w0 M K B b es ck) Nx := by
  refine l_run (fun a ha w hw => ?_) (by simp)
  have hlt : b < w.heap.size := by
    rcases Nat.lt_or_ge b w.heap.size with h' | h'
    · exact h'
    · have := hw.mp; rw [Array.getElem?_eq_none h'] at this; cases this
  refine ⟨.skip, { w with heap := w.heap.setIfInBounds b (.map (es ++ [MapEntry.mk (.string s) v ck]).toArray (ck + 1)) }, ?_, _, SM w0 M K B b (es ++ [MapEntry.mk (.string s) v ck]) (ck + 1), rfl, ?_, SM.closed, h⟩
  · refine run_u ?_
    rw [ha.ev hm, ha.ev hk, ha.ev hv]
    simp [Instr.mapUpdate, run_underlying ht, getObj, Sem.run, hw.mp, run_checkKey hkt, Instr.findKey, run_underlying hkt, hf, setObj]
  · have hp : Pres [b] w ({ w with heap := w.heap.setIfInBounds b (.map (es ++ [MapEntry.mk (.string s) v ck]).toArray (ck + 1)) }) := ⟨rfl, rfl, rfl, by simp, fun i hi hn => by
      rw [Array.getElem?_setIfInBounds_ne (by simpa using Ne.symm (by simpa using hn))]⟩
    refine ⟨⟨hw.st.pres.trans hp fun i hi => by rw [List.mem_singleton.1 hi]; exact .inr hw.new, fun k hk => (hw.st.ok k hk).pres hp (by simpa using hw.offK k hk), hw.st.nd, hw.st.wr,
      fun φ hφ => φ.pres (hw.st.facts φ hφ) hp (by simpa using hw.offB φ hφ), hw.st.apart⟩, ?_, hw.new, hw.offK, hw.offB⟩
    simp [Array.getElem?_setIfInBounds, hlt]

theorem q_lookup {S : World → Prop} {M : List Nat} {mt kt et b ck i : Nat} {es : List MapEntry} {s : ByteArray} {mo ko : Operand} (hS : ∀ w, S w → SM w0 M K B b es ck w) (hm : ev m mo = some (.map (some b))) (hk : ev m ko = some (.string s)) (ht : P.underlying mt = some (.map kt et)) (hkt : P.underlying kt = some .string)
    (hf : Instr.findNow .string (.string s) es 0 = some (some (i, v))) : QF P n S ⟨d, .lookup mt mo ko false, ty, pos, af, g⟩ m v := by
  refine q_v (fun a => Instr.lookup mt (a.eval mo) (a.eval ko) false) (fun a => rfl) fun a ha w hw => ?_
  rw [ha.ev hm, ha.ev hk]
  simp [Instr.lookup, run_underlying ht, getObj, Sem.run, (hS w hw).mp, run_checkKey hkt, Instr.findKey, run_underlying hkt, hf]

theorem q_lookup0 {S : World → Prop} {M : List Nat} {mt kt et b ck : Nat} {es : List MapEntry} {s : ByteArray} {mo ko : Operand} (hS : ∀ w, S w → SM w0 M K B b es ck w) (hm : ev m mo = some (.map (some b))) (hk : ev m ko = some (.string s)) (ht : P.underlying mt = some (.map kt et)) (hkt : P.underlying kt = some .string)
    (hz : (P.info? et).bind (·.zero) = some v) (hf : Instr.findNow .string (.string s) es 0 = some none) : QF P n S ⟨d, .lookup mt mo ko false, ty, pos, af, g⟩ m v := by
  refine q_v (fun a => Instr.lookup mt (a.eval mo) (a.eval ko) false) (fun a => rfl) fun a ha w hw => ?_
  rw [ha.ev hm, ha.ev hk]
  obtain ⟨i, hi, hz⟩ := Option.bind_eq_some_iff.1 hz
  simp [Instr.lookup, run_underlying ht, getObj, Sem.run, (hS w hw).mp, run_checkKey hkt, Instr.findKey, run_underlying hkt, hf, zeroValue, typeInfo, hi, hz]
end
end Go.Proofs.YtfkaafbeeegenaaGreat.Zed
