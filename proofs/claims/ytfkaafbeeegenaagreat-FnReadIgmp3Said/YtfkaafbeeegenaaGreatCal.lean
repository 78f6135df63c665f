/- Program-free: contracts by how many new things they bring. (Printed by mkcal.py.) -/
import Derived.Test.YtfkaafbeeegenaaGreatCpy
namespace Go.Proofs.YtfkaafbeeegenaaGreat.Zed
set_option linter.unusedSimpArgs false
set_option linter.unusedVariables false
open Go.RowKit

theorem St.selF {w0 : World} {M : List Nat} {K : List Kb} {B B' : List Fact} {w : World} (h : St w0 M K B w) (bi : List Nat) (hB : selB B bi = B') : St w0 M K B' w :=
  h.factsTo fun φ hφ => selB_mem (hB ▸ hφ)
theorem fr0 {N : Nat} : ∀ φ ∈ ([] : List Fact), ∀ b, φ.fp b → N ≤ b := fun _ h => nomatch h
theorem fr1 {N : Nat} {ψ : Fact} {l : List Fact} (h : ∀ b, ψ.fp b → N ≤ b) (hl : ∀ φ ∈ l, ∀ b, φ.fp b → N ≤ b) : ∀ φ ∈ ψ :: l, ∀ b, φ.fp b → N ≤ b := fun φ hφ => by
  rcases List.mem_cons.1 hφ with rfl | hφ
  · exact h
  · exact hl φ hφ
theorem all1 {p : Fact → Prop} {ψ : Fact} {l : List Fact} (h : p ψ) (hl : ∀ φ ∈ l, p φ) : ∀ φ ∈ ψ :: l, p φ := fun φ hφ => by
  rcases List.mem_cons.1 hφ with rfl | hφ
  · exact h
  · exact hl φ hφ
theorem all0 {p : Fact → Prop} : ∀ φ ∈ ([] : List Fact), p φ := fun _ h => nomatch h
theorem St.ro {w0 : World} {M : List Nat} {K : List Kb} {B : List Fact} {w : World} (h : St w0 M K B w) {j : Nat} {k : Kb} (hk : K[j]? = some k) : St w [] [⟨k.num, k.ty, k.cs, false⟩] [] w :=
  ⟨Pres.refl _ _, (fun x hx => List.mem_singleton.1 hx ▸ (h.kb hk : k.ok w)), (by simp), (fun x hx hr => by rw [List.mem_singleton.1 hx] at hr; cases hr), (by simp), (by simp)⟩
theorem bits_natS (f : Nat → Nat → Nat) {p q : Nat} (hp : p < 9223372036854775808) (hq : q < 9223372036854775808) (P : Program) (w : World) :
    (Op.intBits .or .i64 (p : Int) (q : Int)).run P w = .ok (.int .i64 ((p ||| q : Nat) : Int)) w := by
  have e : ∀ x : Nat, x < 9223372036854775808 → (BitVec.ofInt 64 (x : Int)).toNat = x := by
    intro x hx
    rw [BitVec.ofInt_natCast, BitVec.toNat_ofNat]
    exact Nat.mod_eq_of_lt (by omega)
  show Result.ok (Value.int .i64 (IntKind.i64.wrap ((BitVec.ofInt 64 (p : Int) ||| BitVec.ofInt 64 (q : Int)).toNat : Int))) w = _
  rw [BitVec.toNat_or, e p hp, e q hq, wrap_nat (k := .i64) (show _ < 9223372036854775808 from Nat.or_lt_two_pow (n := 63) hp hq)]
theorem q_orI {P : Program} {n : Nat} {S : World → Prop} {m : Mp} {d : Option Tmp} {ty : TypeId} {pos : String} {af : Array Edge} {g : Option (Nat × Bool)} {x y : Operand}
    {t yt : TypeId} {p q : Nat} (hx : ev m x = some (.int .i64 (p : Int))) (hy : ev m y = some (.int .i64 (q : Int))) (hp : p < 9223372036854775808) (hq : q < 9223372036854775808) :
    QF P n S ⟨d, .binOp .or t x y yt, ty, pos, af, g⟩ m (.int .i64 ((p ||| q : Nat) : Int)) := by
  refine q_int hx hy fun w => ?_
  have := bits_natS (· ||| ·) hp hq P w
  simpa [binOp] using this
theorem q_eqNil {P : Program} {n : Nat} {S : World → Prop} {m : Mp} {d : Option Tmp} {ty : TypeId} {pos : String} {af : Array Edge} {g : Option (Nat × Bool)} {x y : Operand}
    {t yt e : TypeId} {A : Option Addr} {k cp : Nat} (hx : ev m x = some (.slice A k cp)) (hy : ev m y = some (.slice none 0 0)) (ht : P.underlying t = some (.slice e)) {r : Bool} (hr : A.isNone = r) :
    QF P n S ⟨d, .binOp .eql t x y yt, ty, pos, af, g⟩ m (.bool r) :=
  q_bin hx hy (fun w => rfl) fun w => (run_eql (by simp) (by simp) (by simp) (by simp) (fun e => by subst hr; cases A <;> simp [Op.equalIn, run_underlying ht])).1
def bitN (b : Bool) : Nat := cond b 1 0
theorem bitN_lt (b : Bool) : bitN b < 2 := by cases b <;> decide
theorem St.ro2 {w0 : World} {M : List Nat} {K : List Kb} {B : List Fact} {w : World} (h : St w0 M K B w) {j : Nat} {k : Kb} (hk : K[j]? = some k) {bi : List Nat} {Bc : List Fact} (hB : selB B bi = Bc) : St w [] [⟨k.num, k.ty, k.cs, false⟩] Bc w :=
  ⟨Pres.refl _ _, (fun x hx => List.mem_singleton.1 hx ▸ (h.kb hk : k.ok w)), (by simp), (fun x hx hr => by rw [List.mem_singleton.1 hx] at hr; cases hr), (fun φ hφ => h.facts φ (selB_mem (hB ▸ hφ))), (fun φ hφ x hx hr => by rw [List.mem_singleton.1 hx] at hr; cases hr)⟩
/-- A call that brings a layer. -/
theorem l_callLay {P : Program} {n : Nat} {m : Mp} {ty : TypeId} {pos : String} {af : Array Edge} {g : Option (Nat × Bool)} {w0 : World} {M : List Nat} {K : List Kb} {B : List Fact} {Nx : Mp → (World → Prop) → Prop} {t : Nat}
    {f : FuncId} {xs : List Operand} {ats : Array TypeId} {vs : List Value} {R : Fact} {D : LD} {tup : Lay → Value} (j : Nat) (ht : t < n) (hx : evs m xs = some vs) (hf : callable P f = true) (hR : B[j]? = some R)
    (hc : ∀ w, St w0 M K B w → Calls P f vs.toArray w (fun e w' => ∃ L : Lay, e = .returned (tup L) ∧ Pres [] w w' ∧ Own w R (LayF L) w' ∧ L.data = D))
    (h : ∀ L : Lay, (∀ i, (LayF L).fp i → w0.heap.size ≤ i ∨ R.fp i) → L.data = D → (∃ w, (LayF L).ok w) → Nx ((t, tup L) :: m) (St w0 M K (B ++ [LayF L]))) : LF P n ⟨some t, .call ⟨.value (.func f), xs.toArray, ats⟩, ty, pos, af, g⟩ m (St w0 M K B) Nx := by
  refine l_call (by simpa using ht) hx hf fun w hw => (hc w hw).mono fun e w' ⟨L, he, hp, ho, hd⟩ => ?_
  refine ⟨_, _, he, ?_, St.closed _ _ _ _, h L (fun i hi => (ho.2 i hi).elim (fun h => .inl (Nat.le_trans hw.pres.size h)) .inr) hd ⟨w', ho.1⟩⟩
  have hw' := hw.pres_nil hp
  refine ⟨hw'.pres, hw'.ok, hw'.nd, hw'.wr, fun φ hφ => ?_, fun φ hφ k hk hr hf => ?_⟩
  · rcases List.mem_append.1 hφ with hφ | hφ
    · exact hw'.facts φ hφ
    · rw [List.mem_singleton.1 hφ]; exact ho.1
  · rcases List.mem_append.1 hφ with hφ | hφ
    · exact hw'.apart φ hφ k hk hr hf
    · rw [List.mem_singleton.1 hφ] at hf
      rcases ho.2 _ hf with h' | h'
      · have := (hw.ok k hk).lt; omega
      · exact hw.apart R (List.mem_of_getElem? hR) k hk hr h'
theorem l_callLay0 {P : Program} {n : Nat} {m : Mp} {ty : TypeId} {pos : String} {af : Array Edge} {g : Option (Nat × Bool)} {w0 : World} {K : List Kb} {B : List Fact} {Nx : Mp → (World → Prop) → Prop} {t : Nat}
    {f : FuncId} {xs : List Operand} {ats : Array TypeId} {vs : List Value} {R : Fact} {D : LD} {tup : Lay → Value} (ht : t < n) (hx : evs m xs = some vs) (hf : callable P f = true)
    (hc : ∀ w, St w0 [] K B w → Calls P f vs.toArray w (fun e w' => ∃ L : Lay, e = .returned (tup L) ∧ Pres [] w w' ∧ Own w R (LayF L) w' ∧ L.data = D))
    (h : ∀ L : Lay, L.data = D → (∃ w, (LayF L).ok w) → Nx ((t, tup L) :: m) (St w0 [] [] [LayF L])) : LF P n ⟨some t, .call ⟨.value (.func f), xs.toArray, ats⟩, ty, pos, af, g⟩ m (St w0 [] K B) Nx := by
  refine l_call (by simpa using ht) hx hf fun w hw => (hc w hw).mono fun e w' ⟨L, he, hp, ho, hd⟩ => ?_
  refine ⟨_, _, he, ?_, St.closed _ _ _ _, h L hd ⟨w', ho.1⟩⟩
  exact ⟨hw.pres.trans hp (by simp), by simp, by simp, by simp, all1 ho.1 all0, by simp⟩
/-- A call that brings what is not told. -/
theorem l_callUn {P : Program} {n : Nat} {m : Mp} {ty : TypeId} {pos : String} {af : Array Edge} {g : Option (Nat × Bool)} {w0 : World} {M : List Nat} {K : List Kb} {B : List Fact} {Nx : Mp → (World → Prop) → Prop} {t : Nat}
    {f : FuncId} {xs : List Operand} {ats : Array TypeId} {vs : List Value} (ht : t < n) (hx : evs m xs = some vs) (hf : callable P f = true)
    (hc : ∀ w, St w0 M K B w → Calls P f vs.toArray w (fun e w' => ∃ (a b c d : BI) (ok : Bool), e = .returned (.tuple #[.agg #[a.val, b.val, c.val, d.val], .bool ok, .bool false]) ∧ Pres [] w w'))
    (h : ∀ (a b c d : BI) (ok : Bool), Nx ((t, .tuple #[.agg #[a.val, b.val, c.val, d.val], .bool ok, .bool false]) :: m) (St w0 M K B)) : LF P n ⟨some t, .call ⟨.value (.func f), xs.toArray, ats⟩, ty, pos, af, g⟩ m (St w0 M K B) Nx := by
  refine l_call (by simpa using ht) hx hf fun w hw => (hc w hw).mono fun e w' ⟨a, b, c, d, ok, he, hp⟩ => ?_
  exact ⟨_, _, he, hw.pres_nil hp, St.closed _ _ _ _, h a b c d ok⟩
theorem LD_eq {a a' : List Nat} {d d' : List (List UInt8)} {p p' : List (List Nat × List UInt8)} {y y' : List UInt8} (ha : a = a') (hd : d = d') (hp : p = p') (hy : y = y') : LD.mk a d p y = LD.mk a' d' p' y' := by subst ha; subst hd; subst hp; subst hy; rfl
theorem lc {α : Type} {a b : α} {l l' : List α} (h : a = b) (hl : l = l') : a :: l = b :: l' := by subst h; subst hl; rfl
theorem pc {α β : Type} {a b : α} {c d : β} (h : a = b) (hl : c = d) : (a, c) = (b, d) := by subst h; subst hl; rfl
theorem HT.reg {P : Program} {n : Nat} {m : Mp} {w0 : World} {M : List Nat} {K : List Kb} {B : List Fact} {Q : Exit → Act → World → Prop} {c : Code} (j : Nat) {A : Option Addr} {k cp : Nat} {bs : List UInt8} (hj : B[j]? = some (Byt A k cp bs)) {lo hi : Nat} (h1 : lo ≤ hi) (h2 : hi ≤ k)
    (h : HT P c n m (St w0 M K (B ++ [Byt (cutA A cp lo) (hi - lo) (cp - lo) (sl bs lo hi)])) Q) : HT P c n m (St w0 M K B) Q := fun a ha w hw => h a ha w (hw.cut hj h1 h2)
theorem HT.regS {P : Program} {n : Nat} {m : Mp} {w0 : World} {M : List Nat} {K : List Kb} {B : List Fact} {Q : Exit → Act → World → Prop} {c : Code} (j : Nat) {A : Option Addr} {k cp a b : Nat} {r : List UInt8} (hj : B[j]? = some (Byt A k cp (sl r a b))) {lo hi : Nat} (h1 : lo ≤ hi) (h2 : hi ≤ k) (h3 : a + hi ≤ b)
    (h : HT P c n m (St w0 M K (B ++ [Byt (cutA A cp lo) (hi - lo) (cp - lo) (sl r (a + lo) (a + hi))])) Q) : HT P c n m (St w0 M K B) Q := HT.reg j hj h1 h2 (by rw [sl_sl h3]; exact h)
theorem rt_then {n : Nat} {m : Mp} {D : World → Prop} {Q : Exit → Act → World → Prop} {k : Act → World → Prop} (h : ET .ret n m D Q) : ET .ret n m D (Exit.then k Q) := h
theorem rt_in {n : Nat} {m : Mp} {D : World → Prop} {Q : Exit → Act → World → Prop} {id : Nat} (h : ET .ret n m D Q) : ET .ret n m D (Exit.inBlock id Q) := h
theorem HT.norm {P : Program} {n : Nat} {m : Mp} {w0 : World} {M : List Nat} {K : List Kb} {B : List Fact} {Q : Exit → Act → World → Prop} {c : Code} (K' : List Kb) (B' : List Fact) (hK : K = K') (hB : B = B')
    (h : HT P c n m (St w0 M K' B') Q) : HT P c n m (St w0 M K B) Q := by subst hK; subst hB; exact h
theorem HT.unmap {P : Program} {n : Nat} {m : Mp} {w0 : World} {M : List Nat} {K : List Kb} {B : List Fact} {b ck : Nat} {es : List MapEntry} {Q : Exit → Act → World → Prop} {c : Code}
    (h : HT P c n m (St w0 M K B) Q) : HT P c n m (SM w0 M K B b es ck) Q := fun a ha w hw => h a ha w hw.st


def CP0 (w : World) (M : List Nat) (Bc : List Fact) (vv : Value) (Kc : List Kb) (Bn : List Fact) (e : Ending) (w' : World) : Prop :=
  e = .returned (vv) ∧ St w M (Kc) (Bc ++ Bn) w' ∧ ∀ φ ∈ Bn, ∀ b, φ.fp b → w.heap.size ≤ b

theorem CP0.gen {w : World} {M : List Nat} {Bc : List Fact} {vv : Value} {Kc : List Kb} {Bn : List Fact} {e : Ending} {w' : World} (h : CP0 w M Bc vv Kc Bn e w') : CP (ι := Unit) w M Bc (fun i => vv) (fun i => Kc) (fun i => Bn) e w' :=
  ⟨(), h⟩

theorem l_callX0 {P : Program} {n : Nat} {m : Mp} {ty : TypeId} {pos : String} {af : Array Edge} {g : Option (Nat × Bool)} {w0 : World} {M : List Nat} {K : List Kb} {B : List Fact} {Nx : Mp → (World → Prop) → Prop} {t : Nat}
    {f : FuncId} {xs : List Operand} {ats : Array TypeId} {vs : List Value} {vv : Value} {Kc : List Kb} {Bc : List Fact} {Kc' : List Kb} {Bn : List Fact}
    (sp bi : List Nat) (Bx : List Fact) (K' : List Kb) (B' : List Fact) (ht : t < n) (hx : evs m xs = some vs) (hf : callable P f = true) (hBx : ∀ w, St w0 M K B w → St w0 M K Bx w) (hKc : selK K sp = Kc) (hBc : selB Bx bi = Bc) (hnd : ndB sp = true) (hrw : (Kc.all fun k => k.rw) = true)
    (hc : ∀ w, St w (Kc.map Kb.num) Kc Bc w → Calls P f vs.toArray w (CP0 w (Kc.map Kb.num) Bc vv Kc' Bn))
    (hnum : ((Kc').take Kc.length).map Kb.num = Kc.map Kb.num) (hall : ((Kc').all fun k => k.rw) = true) (hK' : minusK K 0 sp ++ Kc' = K') (hB' : B ++ Bn = B')
    (h : (∀ φ ∈ Bn, ∀ b, φ.fp b → w0.heap.size ≤ b) → (∃ w, ∀ φ ∈ Bn, φ.ok w) → Nx ((t, vv) :: m) (St w0 M (K') (B'))) : LF P n ⟨some t, .call ⟨.value (.func f), xs.toArray, ats⟩, ty, pos, af, g⟩ m (St w0 M K B) Nx :=
  l_callX (ι := Unit) sp bi ht hx hf hKc hBx hBc hnd hrw (fun w hw => (hc w hw).mono fun _ _ h => h.gen) (fun i => hnum) (fun i => hall) (K' := fun i => K') (fun i => hK') fun i hf he => (hB') ▸ h hf he

theorem l_invX0 {P : Program} {n : Nat} {m : Mp} {ty : TypeId} {pos : String} {af : Array Edge} {g : Option (Nat × Bool)} {w0 : World} {M : List Nat} {K : List Kb} {B : List Fact} {Nx : Mp → (World → Prop) → Prop} {t : Nat}
    {f : FuncId} {xs : List Operand} {ats : Array TypeId} {vs : List Value} {T : TypeId} {name : String} {r u : Value} {c : Operand} {vv : Value} {Kc : List Kb} {Bc : List Fact} {Kc' : List Kb} {Bn : List Fact}
    (sp bi : List Nat) (Bx : List Fact) (K' : List Kb) (B' : List Fact) (ht : t < n) (hiv : ev m c = some (.iface T u)) (hm : ∀ w, (method (P.types.size + Made.depth) T u name).run P w = .ok (f, r) w) (hx : evs m xs = some vs) (hf : callable P f = true) (hBx : ∀ w, St w0 M K B w → St w0 M K Bx w) (hKc : selK K sp = Kc) (hBc : selB Bx bi = Bc) (hnd : ndB sp = true) (hrw : (Kc.all fun k => k.rw) = true)
    (hc : ∀ w, St w (Kc.map Kb.num) Kc Bc w → Calls P f (r :: vs).toArray w (CP0 w (Kc.map Kb.num) Bc vv Kc' Bn))
    (hnum : ((Kc').take Kc.length).map Kb.num = Kc.map Kb.num) (hall : ((Kc').all fun k => k.rw) = true) (hK' : minusK K 0 sp ++ Kc' = K') (hB' : B ++ Bn = B')
    (h : (∀ φ ∈ Bn, ∀ b, φ.fp b → w0.heap.size ≤ b) → (∃ w, ∀ φ ∈ Bn, φ.ok w) → Nx ((t, vv) :: m) (St w0 M (K') (B'))) : LF P n ⟨some t, .call ⟨.invoke c name, xs.toArray, ats⟩, ty, pos, af, g⟩ m (St w0 M K B) Nx :=
  l_invX (ι := Unit) sp bi ht hiv hm hx hf hKc hBx hBc hnd hrw (fun w hw => (hc w hw).mono fun _ _ h => h.gen) (fun i => hnum) (fun i => hall) (K' := fun i => K') (fun i => hK') fun i hf he => (hB') ▸ h hf he

def CP1 {α : Type} (w : World) (M : List Nat) (Bc : List Fact) (vv : α → Value) (Kc : α → List Kb) (Bn : α → List Fact) (e : Ending) (w' : World) : Prop :=
  ∃ x0, e = .returned (vv x0) ∧ St w M (Kc x0) (Bc ++ Bn x0) w' ∧ ∀ φ ∈ Bn x0, ∀ b, φ.fp b → w.heap.size ≤ b

theorem CP1.gen {α : Type} {w : World} {M : List Nat} {Bc : List Fact} {vv : α → Value} {Kc : α → List Kb} {Bn : α → List Fact} {e : Ending} {w' : World} (h : CP1 w M Bc vv Kc Bn e w') : CP (ι := α) w M Bc (fun i => vv i) (fun i => Kc i) (fun i => Bn i) e w' :=
  let ⟨x0, h1⟩ := h; ⟨x0, h1⟩

theorem l_callX1 {α : Type} {P : Program} {n : Nat} {m : Mp} {ty : TypeId} {pos : String} {af : Array Edge} {g : Option (Nat × Bool)} {w0 : World} {M : List Nat} {K : List Kb} {B : List Fact} {Nx : Mp → (World → Prop) → Prop} {t : Nat}
    {f : FuncId} {xs : List Operand} {ats : Array TypeId} {vs : List Value} {vv : α → Value} {Kc : List Kb} {Bc : List Fact} {Kc' : α → List Kb} {Bn : α → List Fact}
    (sp bi : List Nat) (Bx : List Fact) (K' : α → List Kb) (B' : α → List Fact) (ht : t < n) (hx : evs m xs = some vs) (hf : callable P f = true) (hBx : ∀ w, St w0 M K B w → St w0 M K Bx w) (hKc : selK K sp = Kc) (hBc : selB Bx bi = Bc) (hnd : ndB sp = true) (hrw : (Kc.all fun k => k.rw) = true)
    (hc : ∀ w, St w (Kc.map Kb.num) Kc Bc w → Calls P f vs.toArray w (CP1 w (Kc.map Kb.num) Bc vv Kc' Bn))
    (hnum : ∀ x0, ((Kc' x0).take Kc.length).map Kb.num = Kc.map Kb.num) (hall : ∀ x0, ((Kc' x0).all fun k => k.rw) = true) (hK' : ∀ x0, minusK K 0 sp ++ Kc' x0 = K' x0) (hB' : ∀ x0, B ++ Bn x0 = B' x0)
    (h : ∀ x0, (∀ φ ∈ Bn x0, ∀ b, φ.fp b → w0.heap.size ≤ b) → (∃ w, ∀ φ ∈ Bn x0, φ.ok w) → Nx ((t, vv x0) :: m) (St w0 M (K' x0) (B' x0))) : LF P n ⟨some t, .call ⟨.value (.func f), xs.toArray, ats⟩, ty, pos, af, g⟩ m (St w0 M K B) Nx :=
  l_callX (ι := α) sp bi ht hx hf hKc hBx hBc hnd hrw (fun w hw => (hc w hw).mono fun _ _ h => h.gen) (fun i => hnum i) (fun i => hall i) (K' := fun i => K' i) (fun i => hK' i) fun i hf he => (hB' i) ▸ h i hf he

theorem l_invX1 {α : Type} {P : Program} {n : Nat} {m : Mp} {ty : TypeId} {pos : String} {af : Array Edge} {g : Option (Nat × Bool)} {w0 : World} {M : List Nat} {K : List Kb} {B : List Fact} {Nx : Mp → (World → Prop) → Prop} {t : Nat}
    {f : FuncId} {xs : List Operand} {ats : Array TypeId} {vs : List Value} {T : TypeId} {name : String} {r u : Value} {c : Operand} {vv : α → Value} {Kc : List Kb} {Bc : List Fact} {Kc' : α → List Kb} {Bn : α → List Fact}
    (sp bi : List Nat) (Bx : List Fact) (K' : α → List Kb) (B' : α → List Fact) (ht : t < n) (hiv : ev m c = some (.iface T u)) (hm : ∀ w, (method (P.types.size + Made.depth) T u name).run P w = .ok (f, r) w) (hx : evs m xs = some vs) (hf : callable P f = true) (hBx : ∀ w, St w0 M K B w → St w0 M K Bx w) (hKc : selK K sp = Kc) (hBc : selB Bx bi = Bc) (hnd : ndB sp = true) (hrw : (Kc.all fun k => k.rw) = true)
    (hc : ∀ w, St w (Kc.map Kb.num) Kc Bc w → Calls P f (r :: vs).toArray w (CP1 w (Kc.map Kb.num) Bc vv Kc' Bn))
    (hnum : ∀ x0, ((Kc' x0).take Kc.length).map Kb.num = Kc.map Kb.num) (hall : ∀ x0, ((Kc' x0).all fun k => k.rw) = true) (hK' : ∀ x0, minusK K 0 sp ++ Kc' x0 = K' x0) (hB' : ∀ x0, B ++ Bn x0 = B' x0)
    (h : ∀ x0, (∀ φ ∈ Bn x0, ∀ b, φ.fp b → w0.heap.size ≤ b) → (∃ w, ∀ φ ∈ Bn x0, φ.ok w) → Nx ((t, vv x0) :: m) (St w0 M (K' x0) (B' x0))) : LF P n ⟨some t, .call ⟨.invoke c name, xs.toArray, ats⟩, ty, pos, af, g⟩ m (St w0 M K B) Nx :=
  l_invX (ι := α) sp bi ht hiv hm hx hf hKc hBx hBc hnd hrw (fun w hw => (hc w hw).mono fun _ _ h => h.gen) (fun i => hnum i) (fun i => hall i) (K' := fun i => K' i) (fun i => hK' i) fun i hf he => (hB' i) ▸ h i hf he

def CP2 {α β : Type} (w : World) (M : List Nat) (Bc : List Fact) (vv : α → β → Value) (Kc : α → β → List Kb) (Bn : α → β → List Fact) (e : Ending) (w' : World) : Prop :=
  ∃ x0 x1, e = .returned (vv x0 x1) ∧ St w M (Kc x0 x1) (Bc ++ Bn x0 x1) w' ∧ ∀ φ ∈ Bn x0 x1, ∀ b, φ.fp b → w.heap.size ≤ b

theorem CP2.gen {α β : Type} {w : World} {M : List Nat} {Bc : List Fact} {vv : α → β → Value} {Kc : α → β → List Kb} {Bn : α → β → List Fact} {e : Ending} {w' : World} (h : CP2 w M Bc vv Kc Bn e w') : CP (ι := α × β) w M Bc (fun i => vv i.1 i.2) (fun i => Kc i.1 i.2) (fun i => Bn i.1 i.2) e w' :=
  let ⟨x0, x1, h1⟩ := h; ⟨(x0, x1), h1⟩

theorem l_callX2 {α β : Type} {P : Program} {n : Nat} {m : Mp} {ty : TypeId} {pos : String} {af : Array Edge} {g : Option (Nat × Bool)} {w0 : World} {M : List Nat} {K : List Kb} {B : List Fact} {Nx : Mp → (World → Prop) → Prop} {t : Nat}
    {f : FuncId} {xs : List Operand} {ats : Array TypeId} {vs : List Value} {vv : α → β → Value} {Kc : List Kb} {Bc : List Fact} {Kc' : α → β → List Kb} {Bn : α → β → List Fact}
    (sp bi : List Nat) (Bx : List Fact) (K' : α → β → List Kb) (B' : α → β → List Fact) (ht : t < n) (hx : evs m xs = some vs) (hf : callable P f = true) (hBx : ∀ w, St w0 M K B w → St w0 M K Bx w) (hKc : selK K sp = Kc) (hBc : selB Bx bi = Bc) (hnd : ndB sp = true) (hrw : (Kc.all fun k => k.rw) = true)
    (hc : ∀ w, St w (Kc.map Kb.num) Kc Bc w → Calls P f vs.toArray w (CP2 w (Kc.map Kb.num) Bc vv Kc' Bn))
    (hnum : ∀ x0 x1, ((Kc' x0 x1).take Kc.length).map Kb.num = Kc.map Kb.num) (hall : ∀ x0 x1, ((Kc' x0 x1).all fun k => k.rw) = true) (hK' : ∀ x0 x1, minusK K 0 sp ++ Kc' x0 x1 = K' x0 x1) (hB' : ∀ x0 x1, B ++ Bn x0 x1 = B' x0 x1)
    (h : ∀ x0 x1, (∀ φ ∈ Bn x0 x1, ∀ b, φ.fp b → w0.heap.size ≤ b) → (∃ w, ∀ φ ∈ Bn x0 x1, φ.ok w) → Nx ((t, vv x0 x1) :: m) (St w0 M (K' x0 x1) (B' x0 x1))) : LF P n ⟨some t, .call ⟨.value (.func f), xs.toArray, ats⟩, ty, pos, af, g⟩ m (St w0 M K B) Nx :=
  l_callX (ι := α × β) sp bi ht hx hf hKc hBx hBc hnd hrw (fun w hw => (hc w hw).mono fun _ _ h => h.gen) (fun i => hnum i.1 i.2) (fun i => hall i.1 i.2) (K' := fun i => K' i.1 i.2) (fun i => hK' i.1 i.2) fun i hf he => (hB' i.1 i.2) ▸ h i.1 i.2 hf he

theorem l_invX2 {α β : Type} {P : Program} {n : Nat} {m : Mp} {ty : TypeId} {pos : String} {af : Array Edge} {g : Option (Nat × Bool)} {w0 : World} {M : List Nat} {K : List Kb} {B : List Fact} {Nx : Mp → (World → Prop) → Prop} {t : Nat}
    {f : FuncId} {xs : List Operand} {ats : Array TypeId} {vs : List Value} {T : TypeId} {name : String} {r u : Value} {c : Operand} {vv : α → β → Value} {Kc : List Kb} {Bc : List Fact} {Kc' : α → β → List Kb} {Bn : α → β → List Fact}
    (sp bi : List Nat) (Bx : List Fact) (K' : α → β → List Kb) (B' : α → β → List Fact) (ht : t < n) (hiv : ev m c = some (.iface T u)) (hm : ∀ w, (method (P.types.size + Made.depth) T u name).run P w = .ok (f, r) w) (hx : evs m xs = some vs) (hf : callable P f = true) (hBx : ∀ w, St w0 M K B w → St w0 M K Bx w) (hKc : selK K sp = Kc) (hBc : selB Bx bi = Bc) (hnd : ndB sp = true) (hrw : (Kc.all fun k => k.rw) = true)
    (hc : ∀ w, St w (Kc.map Kb.num) Kc Bc w → Calls P f (r :: vs).toArray w (CP2 w (Kc.map Kb.num) Bc vv Kc' Bn))
    (hnum : ∀ x0 x1, ((Kc' x0 x1).take Kc.length).map Kb.num = Kc.map Kb.num) (hall : ∀ x0 x1, ((Kc' x0 x1).all fun k => k.rw) = true) (hK' : ∀ x0 x1, minusK K 0 sp ++ Kc' x0 x1 = K' x0 x1) (hB' : ∀ x0 x1, B ++ Bn x0 x1 = B' x0 x1)
    (h : ∀ x0 x1, (∀ φ ∈ Bn x0 x1, ∀ b, φ.fp b → w0.heap.size ≤ b) → (∃ w, ∀ φ ∈ Bn x0 x1, φ.ok w) → Nx ((t, vv x0 x1) :: m) (St w0 M (K' x0 x1) (B' x0 x1))) : LF P n ⟨some t, .call ⟨.invoke c name, xs.toArray, ats⟩, ty, pos, af, g⟩ m (St w0 M K B) Nx :=
  l_invX (ι := α × β) sp bi ht hiv hm hx hf hKc hBx hBc hnd hrw (fun w hw => (hc w hw).mono fun _ _ h => h.gen) (fun i => hnum i.1 i.2) (fun i => hall i.1 i.2) (K' := fun i => K' i.1 i.2) (fun i => hK' i.1 i.2) fun i hf he => (hB' i.1 i.2) ▸ h i.1 i.2 hf he

def CP3 {α β γ : Type} (w : World) (M : List Nat) (Bc : List Fact) (vv : α → β → γ → Value) (Kc : α → β → γ → List Kb) (Bn : α → β → γ → List Fact) (e : Ending) (w' : World) : Prop :=
  ∃ x0 x1 x2, e = .returned (vv x0 x1 x2) ∧ St w M (Kc x0 x1 x2) (Bc ++ Bn x0 x1 x2) w' ∧ ∀ φ ∈ Bn x0 x1 x2, ∀ b, φ.fp b → w.heap.size ≤ b

theorem CP3.gen {α β γ : Type} {w : World} {M : List Nat} {Bc : List Fact} {vv : α → β → γ → Value} {Kc : α → β → γ → List Kb} {Bn : α → β → γ → List Fact} {e : Ending} {w' : World} (h : CP3 w M Bc vv Kc Bn e w') : CP (ι := α × β × γ) w M Bc (fun i => vv i.1 i.2.1 i.2.2) (fun i => Kc i.1 i.2.1 i.2.2) (fun i => Bn i.1 i.2.1 i.2.2) e w' :=
  let ⟨x0, x1, x2, h1⟩ := h; ⟨(x0, x1, x2), h1⟩

theorem l_callX3 {α β γ : Type} {P : Program} {n : Nat} {m : Mp} {ty : TypeId} {pos : String} {af : Array Edge} {g : Option (Nat × Bool)} {w0 : World} {M : List Nat} {K : List Kb} {B : List Fact} {Nx : Mp → (World → Prop) → Prop} {t : Nat}
    {f : FuncId} {xs : List Operand} {ats : Array TypeId} {vs : List Value} {vv : α → β → γ → Value} {Kc : List Kb} {Bc : List Fact} {Kc' : α → β → γ → List Kb} {Bn : α → β → γ → List Fact}
    (sp bi : List Nat) (Bx : List Fact) (K' : α → β → γ → List Kb) (B' : α → β → γ → List Fact) (ht : t < n) (hx : evs m xs = some vs) (hf : callable P f = true) (hBx : ∀ w, St w0 M K B w → St w0 M K Bx w) (hKc : selK K sp = Kc) (hBc : selB Bx bi = Bc) (hnd : ndB sp = true) (hrw : (Kc.all fun k => k.rw) = true)
    (hc : ∀ w, St w (Kc.map Kb.num) Kc Bc w → Calls P f vs.toArray w (CP3 w (Kc.map Kb.num) Bc vv Kc' Bn))
    (hnum : ∀ x0 x1 x2, ((Kc' x0 x1 x2).take Kc.length).map Kb.num = Kc.map Kb.num) (hall : ∀ x0 x1 x2, ((Kc' x0 x1 x2).all fun k => k.rw) = true) (hK' : ∀ x0 x1 x2, minusK K 0 sp ++ Kc' x0 x1 x2 = K' x0 x1 x2) (hB' : ∀ x0 x1 x2, B ++ Bn x0 x1 x2 = B' x0 x1 x2)
    (h : ∀ x0 x1 x2, (∀ φ ∈ Bn x0 x1 x2, ∀ b, φ.fp b → w0.heap.size ≤ b) → (∃ w, ∀ φ ∈ Bn x0 x1 x2, φ.ok w) → Nx ((t, vv x0 x1 x2) :: m) (St w0 M (K' x0 x1 x2) (B' x0 x1 x2))) : LF P n ⟨some t, .call ⟨.value (.func f), xs.toArray, ats⟩, ty, pos, af, g⟩ m (St w0 M K B) Nx :=
  l_callX (ι := α × β × γ) sp bi ht hx hf hKc hBx hBc hnd hrw (fun w hw => (hc w hw).mono fun _ _ h => h.gen) (fun i => hnum i.1 i.2.1 i.2.2) (fun i => hall i.1 i.2.1 i.2.2) (K' := fun i => K' i.1 i.2.1 i.2.2) (fun i => hK' i.1 i.2.1 i.2.2) fun i hf he => (hB' i.1 i.2.1 i.2.2) ▸ h i.1 i.2.1 i.2.2 hf he

theorem l_invX3 {α β γ : Type} {P : Program} {n : Nat} {m : Mp} {ty : TypeId} {pos : String} {af : Array Edge} {g : Option (Nat × Bool)} {w0 : World} {M : List Nat} {K : List Kb} {B : List Fact} {Nx : Mp → (World → Prop) → Prop} {t : Nat}
    {f : FuncId} {xs : List Operand} {ats : Array TypeId} {vs : List Value} {T : TypeId} {name : String} {r u : Value} {c : Operand} {vv : α → β → γ → Value} {Kc : List Kb} {Bc : List Fact} {Kc' : α → β → γ → List Kb} {Bn : α → β → γ → List Fact}
    (sp bi : List Nat) (Bx : List Fact) (K' : α → β → γ → List Kb) (B' : α → β → γ → List Fact) (ht : t < n) (hiv : ev m c = some (.iface T u)) (hm : ∀ w, (method (P.types.size + Made.depth) T u name).run P w = .ok (f, r) w) (hx : evs m xs = some vs) (hf : callable P f = true) (hBx : ∀ w, St w0 M K B w → St w0 M K Bx w) (hKc : selK K sp = Kc) (hBc : selB Bx bi = Bc) (hnd : ndB sp = true) (hrw : (Kc.all fun k => k.rw) = true)
    (hc : ∀ w, St w (Kc.map Kb.num) Kc Bc w → Calls P f (r :: vs).toArray w (CP3 w (Kc.map Kb.num) Bc vv Kc' Bn))
    (hnum : ∀ x0 x1 x2, ((Kc' x0 x1 x2).take Kc.length).map Kb.num = Kc.map Kb.num) (hall : ∀ x0 x1 x2, ((Kc' x0 x1 x2).all fun k => k.rw) = true) (hK' : ∀ x0 x1 x2, minusK K 0 sp ++ Kc' x0 x1 x2 = K' x0 x1 x2) (hB' : ∀ x0 x1 x2, B ++ Bn x0 x1 x2 = B' x0 x1 x2)
    (h : ∀ x0 x1 x2, (∀ φ ∈ Bn x0 x1 x2, ∀ b, φ.fp b → w0.heap.size ≤ b) → (∃ w, ∀ φ ∈ Bn x0 x1 x2, φ.ok w) → Nx ((t, vv x0 x1 x2) :: m) (St w0 M (K' x0 x1 x2) (B' x0 x1 x2))) : LF P n ⟨some t, .call ⟨.invoke c name, xs.toArray, ats⟩, ty, pos, af, g⟩ m (St w0 M K B) Nx :=
  l_invX (ι := α × β × γ) sp bi ht hiv hm hx hf hKc hBx hBc hnd hrw (fun w hw => (hc w hw).mono fun _ _ h => h.gen) (fun i => hnum i.1 i.2.1 i.2.2) (fun i => hall i.1 i.2.1 i.2.2) (K' := fun i => K' i.1 i.2.1 i.2.2) (fun i => hK' i.1 i.2.1 i.2.2) fun i hf he => (hB' i.1 i.2.1 i.2.2) ▸ h i.1 i.2.1 i.2.2 hf he

def CP4 {α β γ δ : Type} (w : World) (M : List Nat) (Bc : List Fact) (vv : α → β → γ → δ → Value) (Kc : α → β → γ → δ → List Kb) (Bn : α → β → γ → δ → List Fact) (e : Ending) (w' : World) : Prop :=
  ∃ x0 x1 x2 x3, e = .returned (vv x0 x1 x2 x3) ∧ St w M (Kc x0 x1 x2 x3) (Bc ++ Bn x0 x1 x2 x3) w' ∧ ∀ φ ∈ Bn x0 x1 x2 x3, ∀ b, φ.fp b → w.heap.size ≤ b

theorem CP4.gen {α β γ δ : Type} {w : World} {M : List Nat} {Bc : List Fact} {vv : α → β → γ → δ → Value} {Kc : α → β → γ → δ → List Kb} {Bn : α → β → γ → δ → List Fact} {e : Ending} {w' : World} (h : CP4 w M Bc vv Kc Bn e w') : CP (ι := α × β × γ × δ) w M Bc (fun i => vv i.1 i.2.1 i.2.2.1 i.2.2.2) (fun i => Kc i.1 i.2.1 i.2.2.1 i.2.2.2) (fun i => Bn i.1 i.2.1 i.2.2.1 i.2.2.2) e w' :=
  let ⟨x0, x1, x2, x3, h1⟩ := h; ⟨(x0, x1, x2, x3), h1⟩

theorem l_callX4 {α β γ δ : Type} {P : Program} {n : Nat} {m : Mp} {ty : TypeId} {pos : String} {af : Array Edge} {g : Option (Nat × Bool)} {w0 : World} {M : List Nat} {K : List Kb} {B : List Fact} {Nx : Mp → (World → Prop) → Prop} {t : Nat}
    {f : FuncId} {xs : List Operand} {ats : Array TypeId} {vs : List Value} {vv : α → β → γ → δ → Value} {Kc : List Kb} {Bc : List Fact} {Kc' : α → β → γ → δ → List Kb} {Bn : α → β → γ → δ → List Fact}
    (sp bi : List Nat) (Bx : List Fact) (K' : α → β → γ → δ → List Kb) (B' : α → β → γ → δ → List Fact) (ht : t < n) (hx : evs m xs = some vs) (hf : callable P f = true) (hBx : ∀ w, St w0 M K B w → St w0 M K Bx w) (hKc : selK K sp = Kc) (hBc : selB Bx bi = Bc) (hnd : ndB sp = true) (hrw : (Kc.all fun k => k.rw) = true)
    (hc : ∀ w, St w (Kc.map Kb.num) Kc Bc w → Calls P f vs.toArray w (CP4 w (Kc.map Kb.num) Bc vv Kc' Bn))
    (hnum : ∀ x0 x1 x2 x3, ((Kc' x0 x1 x2 x3).take Kc.length).map Kb.num = Kc.map Kb.num) (hall : ∀ x0 x1 x2 x3, ((Kc' x0 x1 x2 x3).all fun k => k.rw) = true) (hK' : ∀ x0 x1 x2 x3, minusK K 0 sp ++ Kc' x0 x1 x2 x3 = K' x0 x1 x2 x3) (hB' : ∀ x0 x1 x2 x3, B ++ Bn x0 x1 x2 x3 = B' x0 x1 x2 x3)
    (h : ∀ x0 x1 x2 x3, (∀ φ ∈ Bn x0 x1 x2 x3, ∀ b, φ.fp b → w0.heap.size ≤ b) → (∃ w, ∀ φ ∈ Bn x0 x1 x2 x3, φ.ok w) → Nx ((t, vv x0 x1 x2 x3) :: m) (St w0 M (K' x0 x1 x2 x3) (B' x0 x1 x2 x3))) : LF P n ⟨some t, .call ⟨.value (.func f), xs.toArray, ats⟩, ty, pos, af, g⟩ m (St w0 M K B) Nx :=
  l_callX (ι := α × β × γ × δ) sp bi ht hx hf hKc hBx hBc hnd hrw (fun w hw => (hc w hw).mono fun _ _ h => h.gen) (fun i => hnum i.1 i.2.1 i.2.2.1 i.2.2.2) (fun i => hall i.1 i.2.1 i.2.2.1 i.2.2.2) (K' := fun i => K' i.1 i.2.1 i.2.2.1 i.2.2.2) (fun i => hK' i.1 i.2.1 i.2.2.1 i.2.2.2) fun i hf he => (hB' i.1 i.2.1 i.2.2.1 i.2.2.2) ▸ h i.1 i.2.1 i.2.2.1 i.2.2.2 hf he

theorem l_invX4 {α β γ δ : Type} {P : Program} {n : Nat} {m : Mp} {ty : TypeId} {pos : String} {af : Array Edge} {g : Option (Nat × Bool)} {w0 : World} {M : List Nat} {K : List Kb} {B : List Fact} {Nx : Mp → (World → Prop) → Prop} {t : Nat}
    {f : FuncId} {xs : List Operand} {ats : Array TypeId} {vs : List Value} {T : TypeId} {name : String} {r u : Value} {c : Operand} {vv : α → β → γ → δ → Value} {Kc : List Kb} {Bc : List Fact} {Kc' : α → β → γ → δ → List Kb} {Bn : α → β → γ → δ → List Fact}
    (sp bi : List Nat) (Bx : List Fact) (K' : α → β → γ → δ → List Kb) (B' : α → β → γ → δ → List Fact) (ht : t < n) (hiv : ev m c = some (.iface T u)) (hm : ∀ w, (method (P.types.size + Made.depth) T u name).run P w = .ok (f, r) w) (hx : evs m xs = some vs) (hf : callable P f = true) (hBx : ∀ w, St w0 M K B w → St w0 M K Bx w) (hKc : selK K sp = Kc) (hBc : selB Bx bi = Bc) (hnd : ndB sp = true) (hrw : (Kc.all fun k => k.rw) = true)
    (hc : ∀ w, St w (Kc.map Kb.num) Kc Bc w → Calls P f (r :: vs).toArray w (CP4 w (Kc.map Kb.num) Bc vv Kc' Bn))
    (hnum : ∀ x0 x1 x2 x3, ((Kc' x0 x1 x2 x3).take Kc.length).map Kb.num = Kc.map Kb.num) (hall : ∀ x0 x1 x2 x3, ((Kc' x0 x1 x2 x3).all fun k => k.rw) = true) (hK' : ∀ x0 x1 x2 x3, minusK K 0 sp ++ Kc' x0 x1 x2 x3 = K' x0 x1 x2 x3) (hB' : ∀ x0 x1 x2 x3, B ++ Bn x0 x1 x2 x3 = B' x0 x1 x2 x3)
    (h : ∀ x0 x1 x2 x3, (∀ φ ∈ Bn x0 x1 x2 x3, ∀ b, φ.fp b → w0.heap.size ≤ b) → (∃ w, ∀ φ ∈ Bn x0 x1 x2 x3, φ.ok w) → Nx ((t, vv x0 x1 x2 x3) :: m) (St w0 M (K' x0 x1 x2 x3) (B' x0 x1 x2 x3))) : LF P n ⟨some t, .call ⟨.invoke c name, xs.toArray, ats⟩, ty, pos, af, g⟩ m (St w0 M K B) Nx :=
  l_invX (ι := α × β × γ × δ) sp bi ht hiv hm hx hf hKc hBx hBc hnd hrw (fun w hw => (hc w hw).mono fun _ _ h => h.gen) (fun i => hnum i.1 i.2.1 i.2.2.1 i.2.2.2) (fun i => hall i.1 i.2.1 i.2.2.1 i.2.2.2) (K' := fun i => K' i.1 i.2.1 i.2.2.1 i.2.2.2) (fun i => hK' i.1 i.2.1 i.2.2.1 i.2.2.2) fun i hf he => (hB' i.1 i.2.1 i.2.2.1 i.2.2.2) ▸ h i.1 i.2.1 i.2.2.1 i.2.2.2 hf he

def CP5 {α β γ δ ε : Type} (w : World) (M : List Nat) (Bc : List Fact) (vv : α → β → γ → δ → ε → Value) (Kc : α → β → γ → δ → ε → List Kb) (Bn : α → β → γ → δ → ε → List Fact) (e : Ending) (w' : World) : Prop :=
  ∃ x0 x1 x2 x3 x4, e = .returned (vv x0 x1 x2 x3 x4) ∧ St w M (Kc x0 x1 x2 x3 x4) (Bc ++ Bn x0 x1 x2 x3 x4) w' ∧ ∀ φ ∈ Bn x0 x1 x2 x3 x4, ∀ b, φ.fp b → w.heap.size ≤ b

theorem CP5.gen {α β γ δ ε : Type} {w : World} {M : List Nat} {Bc : List Fact} {vv : α → β → γ → δ → ε → Value} {Kc : α → β → γ → δ → ε → List Kb} {Bn : α → β → γ → δ → ε → List Fact} {e : Ending} {w' : World} (h : CP5 w M Bc vv Kc Bn e w') : CP (ι := α × β × γ × δ × ε) w M Bc (fun i => vv i.1 i.2.1 i.2.2.1 i.2.2.2.1 i.2.2.2.2) (fun i => Kc i.1 i.2.1 i.2.2.1 i.2.2.2.1 i.2.2.2.2) (fun i => Bn i.1 i.2.1 i.2.2.1 i.2.2.2.1 i.2.2.2.2) e w' :=
  let ⟨x0, x1, x2, x3, x4, h1⟩ := h; ⟨(x0, x1, x2, x3, x4), h1⟩

theorem l_callX5 {α β γ δ ε : Type} {P : Program} {n : Nat} {m : Mp} {ty : TypeId} {pos : String} {af : Array Edge} {g : Option (Nat × Bool)} {w0 : World} {M : List Nat} {K : List Kb} {B : List Fact} {Nx : Mp → (World → Prop) → Prop} {t : Nat}
    {f : FuncId} {xs : List Operand} {ats : Array TypeId} {vs : List Value} {vv : α → β → γ → δ → ε → Value} {Kc : List Kb} {Bc : List Fact} {Kc' : α → β → γ → δ → ε → List Kb} {Bn : α → β → γ → δ → ε → List Fact}
    (sp bi : List Nat) (Bx : List Fact) (K' : α → β → γ → δ → ε → List Kb) (B' : α → β → γ → δ → ε → List Fact) (ht : t < n) (hx : evs m xs = some vs) (hf : callable P f = true) (hBx : ∀ w, St w0 M K B w → St w0 M K Bx w) (hKc : selK K sp = Kc) (hBc : selB Bx bi = Bc) (hnd : ndB sp = true) (hrw : (Kc.all fun k => k.rw) = true)
    (hc : ∀ w, St w (Kc.map Kb.num) Kc Bc w → Calls P f vs.toArray w (CP5 w (Kc.map Kb.num) Bc vv Kc' Bn))
    (hnum : ∀ x0 x1 x2 x3 x4, ((Kc' x0 x1 x2 x3 x4).take Kc.length).map Kb.num = Kc.map Kb.num) (hall : ∀ x0 x1 x2 x3 x4, ((Kc' x0 x1 x2 x3 x4).all fun k => k.rw) = true) (hK' : ∀ x0 x1 x2 x3 x4, minusK K 0 sp ++ Kc' x0 x1 x2 x3 x4 = K' x0 x1 x2 x3 x4) (hB' : ∀ x0 x1 x2 x3 x4, B ++ Bn x0 x1 x2 x3 x4 = B' x0 x1 x2 x3 x4)
    (h : ∀ x0 x1 x2 x3 x4, (∀ φ ∈ Bn x0 x1 x2 x3 x4, ∀ b, φ.fp b → w0.heap.size ≤ b) → (∃ w, ∀ φ ∈ Bn x0 x1 x2 x3 x4, φ.ok w) → Nx ((t, vv x0 x1 x2 x3 x4) :: m) (St w0 M (K' x0 x1 x2 x3 x4) (B' x0 x1 x2 x3 x4))) : LF P n ⟨some t, .call ⟨.value (.func f), xs.toArray, ats⟩, ty, pos, af, g⟩ m (St w0 M K B) Nx :=
  l_callX (ι := α × β × γ × δ × ε) sp bi ht hx hf hKc hBx hBc hnd hrw (fun w hw => (hc w hw).mono fun _ _ h => h.gen) (fun i => hnum i.1 i.2.1 i.2.2.1 i.2.2.2.1 i.2.2.2.2) (fun i => hall i.1 i.2.1 i.2.2.1 i.2.2.2.1 i.2.2.2.2) (K' := fun i => K' i.1 i.2.1 i.2.2.1 i.2.2.2.1 i.2.2.2.2) (fun i => hK' i.1 i.2.1 i.2.2.1 i.2.2.2.1 i.2.2.2.2) fun i hf he => (hB' i.1 i.2.1 i.2.2.1 i.2.2.2.1 i.2.2.2.2) ▸ h i.1 i.2.1 i.2.2.1 i.2.2.2.1 i.2.2.2.2 hf he

theorem l_invX5 {α β γ δ ε : Type} {P : Program} {n : Nat} {m : Mp} {ty : TypeId} {pos : String} {af : Array Edge} {g : Option (Nat × Bool)} {w0 : World} {M : List Nat} {K : List Kb} {B : List Fact} {Nx : Mp → (World → Prop) → Prop} {t : Nat}
    {f : FuncId} {xs : List Operand} {ats : Array TypeId} {vs : List Value} {T : TypeId} {name : String} {r u : Value} {c : Operand} {vv : α → β → γ → δ → ε → Value} {Kc : List Kb} {Bc : List Fact} {Kc' : α → β → γ → δ → ε → List Kb} {Bn : α → β → γ → δ → ε → List Fact}
    (sp bi : List Nat) (Bx : List Fact) (K' : α → β → γ → δ → ε → List Kb) (B' : α → β → γ → δ → ε → List Fact) (ht : t < n) (hiv : ev m c = some (.iface T u)) (hm : ∀ w, (method (P.types.size + Made.depth) T u name).run P w = .ok (f, r) w) (hx : evs m xs = some vs) (hf : callable P f = true) (hBx : ∀ w, St w0 M K B w → St w0 M K Bx w) (hKc : selK K sp = Kc) (hBc : selB Bx bi = Bc) (hnd : ndB sp = true) (hrw : (Kc.all fun k => k.rw) = true)
    (hc : ∀ w, St w (Kc.map Kb.num) Kc Bc w → Calls P f (r :: vs).toArray w (CP5 w (Kc.map Kb.num) Bc vv Kc' Bn))
    (hnum : ∀ x0 x1 x2 x3 x4, ((Kc' x0 x1 x2 x3 x4).take Kc.length).map Kb.num = Kc.map Kb.num) (hall : ∀ x0 x1 x2 x3 x4, ((Kc' x0 x1 x2 x3 x4).all fun k => k.rw) = true) (hK' : ∀ x0 x1 x2 x3 x4, minusK K 0 sp ++ Kc' x0 x1 x2 x3 x4 = K' x0 x1 x2 x3 x4) (hB' : ∀ x0 x1 x2 x3 x4, B ++ Bn x0 x1 x2 x3 x4 = B' x0 x1 x2 x3 x4)
    (h : ∀ x0 x1 x2 x3 x4, (∀ φ ∈ Bn x0 x1 x2 x3 x4, ∀ b, φ.fp b → w0.heap.size ≤ b) → (∃ w, ∀ φ ∈ Bn x0 x1 x2 x3 x4, φ.ok w) → Nx ((t, vv x0 x1 x2 x3 x4) :: m) (St w0 M (K' x0 x1 x2 x3 x4) (B' x0 x1 x2 x3 x4))) : LF P n ⟨some t, .call ⟨.invoke c name, xs.toArray, ats⟩, ty, pos, af, g⟩ m (St w0 M K B) Nx :=
  l_invX (ι := α × β × γ × δ × ε) sp bi ht hiv hm hx hf hKc hBx hBc hnd hrw (fun w hw => (hc w hw).mono fun _ _ h => h.gen) (fun i => hnum i.1 i.2.1 i.2.2.1 i.2.2.2.1 i.2.2.2.2) (fun i => hall i.1 i.2.1 i.2.2.1 i.2.2.2.1 i.2.2.2.2) (K' := fun i => K' i.1 i.2.1 i.2.2.1 i.2.2.2.1 i.2.2.2.2) (fun i => hK' i.1 i.2.1 i.2.2.1 i.2.2.2.1 i.2.2.2.2) fun i hf he => (hB' i.1 i.2.1 i.2.2.1 i.2.2.2.1 i.2.2.2.2) ▸ h i.1 i.2.1 i.2.2.1 i.2.2.2.1 i.2.2.2.2 hf he

end Go.Proofs.YtfkaafbeeegenaaGreat.Zed
