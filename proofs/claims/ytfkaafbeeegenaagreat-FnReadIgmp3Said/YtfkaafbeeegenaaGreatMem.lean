/- Program-free: memory: known byte slices, loads, stores, new blocks, slices, calls. -/
import Derived.Test.YtfkaafbeeegenaaGreatOps
namespace Go.Proofs.YtfkaafbeeegenaaGreat.Zed
set_option linter.unusedSimpArgs false
set_option linter.unusedVariables false
open Go.RowKit

/-! ### Byte slices -/

def nb (bs : List UInt8) (i : Nat) : Nat := (bs.getD i 0).toNat
theorem nb_lt (bs : List UInt8) (i : Nat) : nb bs i < 256 := UInt8.toNat_lt _
def sl (bs : List UInt8) (lo hi : Nat) : List UInt8 := (bs.take hi).drop lo
theorem sl_length {bs : List UInt8} {lo hi : Nat} (h : hi ≤ bs.length) : (sl bs lo hi).length = hi - lo := by simp [sl]; omega
theorem nb_sl {bs : List UInt8} {lo hi i : Nat} (h : lo + i < hi) : nb (sl bs lo hi) i = nb bs (lo + i) := by
  simp only [nb, sl, List.getD_eq_getElem?_getD, List.getElem?_drop, List.getElem?_take]
  rw [if_pos h]
theorem sl_sl {bs : List UInt8} {lo hi lo' hi' : Nat} (h : lo + hi' ≤ hi) : sl (sl bs lo hi) lo' hi' = sl bs (lo + lo') (lo + hi') := by
  simp only [sl, List.take_drop, List.drop_drop, List.take_take]
  rw [Nat.min_eq_left h]
def cutA (A : Option Addr) (c lo : Nat) : Option Addr := if c = lo then A else A.map (·.add lo)

theorem add_zero_ (a : Addr) : a.add 0 = a := by simp [Addr.add]
theorem add_add_ (a : Addr) (i j : Nat) : (a.add i).add j = a.add (i + j) := by
  unfold Addr.add
  by_cases hi : i = 0 <;> by_cases hj : j = 0 <;> simp [hi, hj, Nat.add_assoc]
theorem add_block (a : Addr) (i : Nat) : (a.add i).block = a.block := by
  unfold Addr.add
  split <;> rfl

/-- The slice value '.slice A n c' holds the bytes bs. -/
def Byt (A : Option Addr) (n c : Nat) (bs : List UInt8) : Fact where
  fp i := bs ≠ [] ∧ ∃ ad, A = some ad ∧ i = ad.block
  ok w := n = bs.length ∧ n ≤ c ∧ (bs ≠ [] → ∃ ad, A = some ad ∧ ad.block < w.heap.size ∧ ∀ i, i < bs.length → w.cell? (ad.add i) = some (.int .u8 (nb bs i : Int)))
  inb := by
    rintro w ⟨_, _, h⟩ i ⟨hne, ad, hA, rfl⟩
    obtain ⟨ad', hA', hlt, _⟩ := h hne
    rw [hA] at hA'
    obtain rfl := Option.some.inj hA'
    exact hlt
  stable := by
    rintro w w' ⟨h1, h2, h⟩ hs
    refine ⟨h1, h2, fun hne => ?_⟩
    obtain ⟨ad, hA, hlt, hc⟩ := h hne
    have hb := hs ad.block ⟨hne, ad, hA, rfl⟩
    refine ⟨ad, hA, ?_, fun i hi => ?_⟩
    · rcases Nat.lt_or_ge ad.block w'.heap.size with h' | h'
      · exact h'
      · rw [Array.getElem?_eq_none h'] at hb
        exact absurd hb.symm (by rw [Array.getElem?_eq_getElem hlt]; simp)
    · rw [← hc i hi]
      unfold World.cell?
      rw [add_block, hb]

theorem Byt.cut {A : Option Addr} {n c : Nat} {bs : List UInt8} {w : World} (h : (Byt A n c bs).ok w) {lo hi : Nat} (h1 : lo ≤ hi) (h2 : hi ≤ n) : (Byt (cutA A c lo) (hi - lo) (c - lo) (sl bs lo hi)).ok w := by
  obtain ⟨rfl, hc, h⟩ := h
  refine ⟨(sl_length h2).symm, by omega, fun hne => ?_⟩
  have hl : lo < hi := by
    rcases Nat.lt_or_ge lo hi with h' | h'
    · exact h'
    · exfalso
      apply hne
      have := sl_length (lo := lo) h2
      exact List.eq_nil_of_length_eq_zero (by omega)
  have hbs : bs ≠ [] := by rintro rfl; simp at h2; omega
  obtain ⟨ad, rfl, hlt, hcell⟩ := h hbs
  refine ⟨ad.add lo, ?_, by rw [add_block]; exact hlt, fun i hi' => ?_⟩
  · unfold cutA
    rw [if_neg (by omega)]
    rfl
  · rw [sl_length h2] at hi'
    rw [add_add_, hcell _ (by omega), nb_sl (by omega)]

theorem Byt.cut_fp {A : Option Addr} {n c : Nat} {bs : List UInt8} {lo hi i : Nat} (hlo : (sl bs lo hi) ≠ []) (h : (Byt (cutA A c lo) (hi - lo) (c - lo) (sl bs lo hi)).fp i) : (Byt A n c bs).fp i := by
  obtain ⟨hne, ad, hA, rfl⟩ := h
  refine ⟨fun hb => hlo (by subst hb; simp [sl]), ?_⟩
  unfold cutA at hA
  split at hA
  · exact ⟨ad, hA, rfl⟩
  · cases A with
    | none => simp at hA
    | some a =>
      simp only [Option.map_some, Option.some.injEq] at hA
      exact ⟨a, rfl, by rw [← hA, add_block]⟩

/-- A cut of a known byte slice is known. -/
theorem St.cut {w0 : World} {M : List Nat} {K : List Kb} {B : List Fact} {w : World} (h : St w0 M K B w) {j : Nat} {A : Option Addr} {n c : Nat} {bs : List UInt8} (hj : B[j]? = some (Byt A n c bs)) {lo hi : Nat} (h1 : lo ≤ hi) (h2 : hi ≤ n) :
    St w0 M K (B ++ [Byt (cutA A c lo) (hi - lo) (c - lo) (sl bs lo hi)]) w := by
  have hb := h.fact hj
  refine ⟨h.pres, h.ok, h.nd, h.wr, fun φ hφ => ?_, fun φ hφ k hk hr hf => ?_⟩
  · rcases List.mem_append.1 hφ with hφ | hφ
    · exact h.facts φ hφ
    · rw [List.mem_singleton.1 hφ]; exact Byt.cut hb h1 h2
  · rcases List.mem_append.1 hφ with hφ | hφ
    · exact h.apart φ hφ k hk hr hf
    · rw [List.mem_singleton.1 hφ] at hf
      exact h.apart _ (List.mem_of_getElem? hj) k hk hr (Byt.cut_fp hf.1 hf)

/-- The value of one cell. -/
def _root_.Go.Value.one1 : Value → Bool
  | .agg _ | .tuple _ => false
  | _ => true

/-! ### Types -/

/-- A type whose values are one cell, by the program's tables. -/
def nagg (P : Program) (t : TypeId) : Bool :=
  (match P.underlying t with | some (.struct _) => false | some (.array _ _) => false | some _ => true | none => false) && (match P.info? t with | some i => i.size == 1 | none => false)
/-- A struct or array of so many cells. -/
def aggs (P : Program) (t : TypeId) : Option Nat :=
  match P.underlying t with
  | some (.struct _) | some (.array _ _) => (P.info? t).map (·.size)
  | _ => none
/-- Where field f of struct s begins (its own size not 0). -/
def foff (P : Program) (s : TypeId) (f : Nat) : Option Nat :=
  match P.underlying s with
  | some (.struct fs) => (match fs[f]? with | some fd => (match P.info? fd.type with | some i => if i.size = 0 then none else some fd.offset | none => none) | none => none)
  | _ => none
/-- A function with a body. -/
def callable (P : Program) (f : FuncId) : Bool :=
  match P.funcs[f]? with
  | some fn => !(fn.name == "runtime.NumGoroutine") && fn.body.isSome
  | none => false

section
variable {P : Program}

theorem nagg_spec {t : TypeId} (h : nagg P t = true) : (∃ i, P.info? t = some i ∧ i.size = 1) ∧ ∀ w, (isAgg t).run P w = .ok false w := by
  unfold nagg at h
  rw [Bool.and_eq_true] at h
  refine ⟨?_, fun w => ?_⟩
  · have h2 := h.2
    split at h2
    · rename_i i hi; exact ⟨i, hi, by simpa using h2⟩
    · cases h2
  · have h1 := h.1
    cases hd : P.underlying t with
    | none => rw [hd] at h1; cases h1
    | some d =>
      rw [hd] at h1
      unfold isAgg
      rw [Sem.run_bind, run_underlying hd]
      cases d <;> first | rfl | cases h1

theorem run_sizeOf {t : TypeId} {i : TypeInfo} (h : P.info? t = some i) (w : World) : (sizeOf t).run P w = .ok i.size w := by simp [sizeOf, typeInfo, h]

theorem run_load1 {t : TypeId} (h : nagg P t = true) {w : World} {a : Addr} {v : Value} (hc : w.cell? a = some v) : (Instr.loadAt t (.pointer (some a))).run P w = .ok v w := by
  show (loadVar t a).run P w = _
  unfold loadVar
  rw [Sem.run_bind, (nagg_spec h).2]
  show (Sem.run P (load a) w) = _
  simp [load, Sem.run, hc]

theorem run_store1 {t : TypeId} (h : nagg P t = true) {w : World} {a : Addr} {u v : Value} (hc : w.cell? a = some u) (hf : w.frozen? a = false) (hv : v.one1 = true) : (Instr.storeAt t (.pointer (some a)) v).run P w = .ok () (w.setCell a v) := by
  obtain ⟨⟨i, hi, hs⟩, _⟩ := nagg_spec h
  show (storeVar t a v).run P w = _
  unfold storeVar
  have hcs : v.cells = #[v] := by cases v <;> first | rfl | cases hv
  rw [Sem.run_bind, run_sizeOf hi, hs, hcs]
  show Sem.run P (Sem.store .plain (a.add 0) v (Sem.pure ())) w = _
  rw [add_zero_]
  cases v <;> first | (simp [Sem.run, hc, hf]; done) | cases hv

theorem run_loadCellsFrom {w : World} (a : Addr) : ∀ (vs : List Value) (i : Nat) (acc : Array Value), (∀ j v, vs[j]? = some v → w.cell? (a.add (i + j)) = some v) →
    (loadCellsFrom a i vs.length acc).run P w = .ok (acc ++ vs.toArray) w
  | [], i, acc, h => by simp [loadCellsFrom]
  | v :: vs, i, acc, h => by
    have h0 : w.cell? (a.add i) = some v := by simpa using h 0 v rfl
    simp only [List.length_cons, loadCellsFrom]
    rw [Sem.run_bind]
    have : (load (a.add i)).run P w = .ok v w := by simp [load, Sem.run, h0]
    rw [this]
    simp only [Result.andThen_ok]
    rw [run_loadCellsFrom a vs (i + 1) (acc.push v) (fun j u hj => by have := h (j + 1) u (by simpa using hj); rwa [show i + 1 + j = i + (j + 1) by omega])]
    simp

theorem run_loadAgg {t : TypeId} {vs : List Value} (h : aggs P t = some vs.length) {w : World} {a : Addr} (hc : ∀ j v, vs[j]? = some v → w.cell? (a.add j) = some v) : (Instr.loadAt t (.pointer (some a))).run P w = .ok (.agg vs.toArray) w := by
  show (loadVar t a).run P w = _
  have hsz : ∃ i, P.info? t = some i ∧ i.size = vs.length := by
    unfold aggs at h
    split at h <;> first
      | (cases hi : P.info? t with
         | none => rw [hi] at h; cases h
         | some i => rw [hi] at h; exact ⟨i, rfl, by simpa using h⟩)
      | cases h
  obtain ⟨i, hi, hs⟩ := hsz
  have hag : (isAgg t).run P w = .ok true w := by
    unfold aggs at h
    unfold isAgg
    split at h <;> first
      | (rename_i hd; rw [Sem.run_bind, run_underlying hd]; rfl)
      | cases h
  unfold loadVar
  rw [Sem.run_bind, hag]
  have h2 := run_loadCellsFrom (P := P) (w := w) a vs 0 #[] (fun j v hj => by simpa using hc j v hj)
  simp only [Result.andThen_ok, if_true]
  rw [Sem.run_bind, run_sizeOf hi, hs]
  simp only [Result.andThen_ok]
  rw [Sem.run_bind]
  unfold loadCells
  rw [h2]
  simp

/-! ### Arguments -/

def evs (m : Mp) : List Operand → Option (List Value)
  | [] => some []
  | x :: xs => match ev m x, evs m xs with
    | some v, some vs => some (v :: vs)
    | _, _ => none

theorem Fr.evs {n : Nat} {m : Mp} {a : Act} (h : Fr n m a) : ∀ {xs : List Operand} {vs : List Value}, Zed.evs m xs = some vs → xs.map a.eval = vs
  | [], vs, hv => by simpa [Zed.evs] using hv
  | x :: xs, vs, hv => by
    unfold Zed.evs at hv
    split at hv
    · rename_i v vs' h1 h2
      obtain rfl := Option.some.inj hv
      simp [h.ev h1, Fr.evs h h2]
    · cases hv

def evp (m : Mp) : List (Nat × Operand) → Option (List (Nat × Value))
  | [] => some []
  | (i, x) :: xs => match ev m x, evp m xs with
    | some v, some vs => some ((i, v) :: vs)
    | _, _ => none

theorem Fr.evp {n : Nat} {m : Mp} {a : Act} (h : Fr n m a) : ∀ {xs : List (Nat × Operand)} {vs : List (Nat × Value)}, Zed.evp m xs = some vs → xs.map (fun (i, x) => (i, a.eval x)) = vs
  | [], vs, hv => by simpa [Zed.evp] using hv
  | (i, x) :: xs, vs, hv => by
    unfold Zed.evp at hv
    split at hv
    · rename_i v vs' h1 h2
      obtain rfl := Option.some.inj hv
      simp [h.ev h1, Fr.evp h h2]
    · cases hv

variable {n : Nat} {S : World → Prop} {m : Mp} {d : Option Tmp} {ty : TypeId} {pos : String} {af : Array Edge} {g : Option (Nat × Bool)} {x y c : Operand} {v u : Value}
variable {w0 : World} {M : List Nat} {K : List Kb} {B : List Fact}

/-! ### Quiet operations on memory -/

theorem q_nil {A : Addr} (hx : ev m x = some (.pointer (some A))) : QF P n S ⟨d, .nilCheck x, ty, pos, af, g⟩ m (.pointer (some A)) := by
  intro a ha w hw
  show QU P w _ ((match a.eval x with
    | .pointer none | .nilIface | .nilFunc => runtimePanic .nilDeref
    | .func (.method name) first captured =>
      match (first[0]? : Option Value) with
      | some .nilIface => runtimePanic .nilDeref
      | some (.iface t w) => do
        if (← nilAhead ((← program).types.size + Made.depth) t w name) != some false then
          unsupported (.noEntry "op/nilCheck.the method's receiver behind this interface value is a nil pointer, or cannot be seen to be none, and the arguments act or may panic (ledger 612)")
        pure (.value (.func (.method name) first captured))
      | _ => pure (.value (.func (.method name) first captured))
    | x => pure (.value x) : Sem Next).run P w)
  rw [ha.ev hx]
  exact ⟨rfl, rfl⟩

theorem q_field {s f o : Nat} {b off : Nat} (hx : ev m x = some (.pointer (some ⟨b, off, none⟩))) (hf : foff P s f = some o) : QF P n S ⟨d, .fieldAddr s x f, ty, pos, af, g⟩ m (.pointer (some ⟨b, off + o, none⟩)) := by
  refine q_v (fun a => Instr.fieldAt s (a.eval x) f) (fun a => rfl) fun a ha w hw => ?_
  rw [ha.ev hx]
  unfold foff at hf
  split at hf
  · rename_i fs hs
    split at hf
    · rename_i fd hfd
      split at hf
      · rename_i i hi
        split at hf
        · cases hf
        · rename_i hz
          obtain rfl := Option.some.inj hf
          have : (Addr.add ⟨b, off, none⟩ fd.offset) = ⟨b, off + fd.offset, none⟩ := by
            unfold Addr.add
            split
            · rename_i h0; simp [h0]
            · rfl
          simp [Instr.fieldAt, run_underlying hs, hfd, Instr.sureAddr, fieldPlace, run_sizeOf hi, hz, this]
      · cases hf
    · cases hf
  · cases hf

/-- A known cell is loaded. -/
theorem q_load {t b off j : Nat} {k : Kb} (hx : ev m x = some (.pointer (some ⟨b, off, none⟩))) (ht : nagg P t = true) (hS : ∀ w, S w → St w0 M K B w) (hk : K[j]? = some k) (hb : k.num = b) (hv : k.cs[off]? = some (some v)) :
    QF P n S ⟨d, .load t x, ty, pos, af, g⟩ m v := by
  subst hb
  refine q_v (fun a => Instr.loadAt t (a.eval x)) (fun a => rfl) fun a ha w hw => ?_
  rw [ha.ev hx]
  exact run_load1 ht (((hS w hw).kb hk).cell hv)

/-- Known cells, as a struct. -/
theorem q_loadAgg {t b off j : Nat} {k : Kb} {vs : List Value} (hx : ev m x = some (.pointer (some ⟨b, off, none⟩))) (ht : aggs P t = some vs.length) (hS : ∀ w, S w → St w0 M K B w) (hk : K[j]? = some k) (hb : k.num = b)
    (hv : (k.cs.drop off).take vs.length = vs.map some) : QF P n S ⟨d, .load t x, ty, pos, af, g⟩ m (.agg vs.toArray) := by
  subst hb
  refine q_v (fun a => Instr.loadAt t (a.eval x)) (fun a => rfl) fun a ha w hw => ?_
  rw [ha.ev hx]
  refine run_loadAgg ht fun i u hi => ?_
  have hc : k.cs[off + i]? = some (some u) := by
    have h1 : ((k.cs.drop off).take vs.length)[i]? = some (some u) := by rw [hv]; simp [hi]
    rw [List.getElem?_take, List.getElem?_drop] at h1
    split at h1
    · exact h1
    · cases h1
  have := ((hS w hw).kb hk).cell hc
  have e : (Addr.add ⟨k.num, off, none⟩ i) = ⟨k.num, off + i, none⟩ := by
    unfold Addr.add
    split
    · rename_i h0; simp [h0]
    · rfl
  rw [e]
  exact this

/-- A variable of a struct without fields. -/
theorem q_loadEmpty {t : TypeId} {A : Addr} (hx : ev m x = some (.pointer (some A))) (ht : aggs P t = some 0) : QF P n S ⟨d, .load t x, ty, pos, af, g⟩ m (.agg #[]) := by
  refine q_v (fun a => Instr.loadAt t (a.eval x)) (fun a => rfl) fun a ha w hw => ?_
  rw [ha.ev hx]
  exact run_loadAgg (vs := []) ht (by simp)

/-- The address of an element of a known byte slice. -/
theorem q_index {t e i j len cp : Nat} {A : Option Addr} {kd : IntKind} {bs : List UInt8} (hx : ev m x = some (.slice A len cp)) (hy : ev m y = some (.int kd (i : Int))) (ht : P.underlying t = some (.slice e)) (he : nagg P e = true)
    (hS : ∀ w, S w → St w0 M K B w) (hj : B[j]? = some (Byt A len cp bs)) (hi : i < len) : QF P n S ⟨d, .indexAddr t x y, ty, pos, af, g⟩ m (.pointer (A.map (·.add i))) := by
  refine q_v (fun a => Instr.indexAt t (a.eval x) (a.eval y)) (fun a => rfl) fun a ha w hw => ?_
  rw [ha.ev hx, ha.ev hy]
  obtain ⟨hl, hc, hb⟩ := (hS w hw).fact hj
  obtain ⟨ad, rfl, _, _⟩ := hb (by rintro rfl; simp at hl; omega)
  obtain ⟨⟨inf, hinf, hs⟩, _⟩ := nagg_spec he
  have h1 : (0 : Int) ≤ (i : Int) ∧ (i : Int) < (len : Int) := by omega
  simp [Instr.indexAt, asIntOf, run_underlying ht, run_sizeOf hinf, hs]
  intro hle
  omega

/-- A byte of a known byte slice. -/
theorem q_byte {t i j len cp : Nat} {A : Option Addr} {bs : List UInt8} (hx : ev m x = some (.pointer (A.map (·.add i)))) (ht : nagg P t = true) (hS : ∀ w, S w → St w0 M K B w) (hj : B[j]? = some (Byt A len cp bs)) (hi : i < len) :
    QF P n S ⟨d, .load t x, ty, pos, af, g⟩ m (.int .u8 (nb bs i : Int)) := by
  refine q_v (fun a => Instr.loadAt t (a.eval x)) (fun a => rfl) fun a ha w hw => ?_
  rw [ha.ev hx]
  obtain ⟨hl, hc, hb⟩ := (hS w hw).fact hj
  obtain ⟨ad, rfl, _, hcell⟩ := hb (by rintro rfl; simp at hl; omega)
  exact run_load1 ht (hcell i (by omega))

theorem q_len {t e len cp : Nat} {A : Option Addr} (hx : ev m x = some (.slice A len cp)) (ht : P.underlying t = some (.slice e)) : QF P n S ⟨d, .call ⟨.builtin .len, #[x], #[t]⟩, ty, pos, af, g⟩ m (.int .i64 (len : Int)) := by
  intro a ha w hw
  have : (execOp a.eval ⟨d, .call ⟨.builtin .len, #[x], #[t]⟩, ty, pos, af, g⟩).run P w = .ok (.value (.int .i64 (len : Int))) w := by
    simp [execOp, resolve, invoke, builtin, Builtin.len_, ha.ev hx, run_underlying ht, goInt]
  rw [this]
  exact ⟨rfl, rfl⟩

theorem run_bound {k : IntKind} {i N : Nat} (h : i ≤ N) (code : BoundsCode) (w : World) : (Instr.sliceBound (.int k (i : Int)) N code).run P w = .ok i w := by
  have : (0 : Int) ≤ (i : Int) ∧ (i : Int) ≤ (N : Int) := by omega
  simp [Instr.sliceBound, asIntOf, this.2]

theorem run_slice {t e len cp lo hi : Nat} {A : Option Addr} {l h : Option Value} (ht : P.underlying t = some (.slice e)) (he : nagg P e = true)
    (hl : (l = none ∧ lo = 0) ∨ ∃ k, l = some (.int k (lo : Int))) (hh : (h = none ∧ hi = len) ∨ ∃ k, h = some (.int k (hi : Int))) (h1 : lo ≤ hi) (h2 : hi ≤ cp) (w : World) :
    (Instr.sliceAt t (.slice A len cp) l h none).run P w = .ok (.slice (cutA A cp lo) (hi - lo) (cp - lo)) w := by
  obtain ⟨⟨inf, hinf, hs⟩, _⟩ := nagg_spec he
  have hb : (Instr.sliceBounds true len cp l h none).run P w = .ok (lo, hi, cp) w := by
    rcases hl with ⟨rfl, rfl⟩ | ⟨k, rfl⟩ <;> rcases hh with ⟨rfl, rfl⟩ | ⟨k', rfl⟩ <;> simp [Instr.sliceBounds, run_bound h1, run_bound h2]
  simp [Instr.sliceAt, Instr.slice, run_underlying ht, hb, run_sizeOf hinf, hs, cutA]

/-- A cut x[lo:hi] of a slice whose elements are one cell. -/
theorem q_slice {t e len cp lo hi : Nat} {A : Option Addr} {ol oh : Option Operand} (hx : ev m x = some (.slice A len cp)) (ht : P.underlying t = some (.slice e)) (he : nagg P e = true)
    (hl : (ol = none ∧ lo = 0) ∨ ∃ o k, ol = some o ∧ ev m o = some (.int k (lo : Int))) (hh : (oh = none ∧ hi = len) ∨ ∃ o k, oh = some o ∧ ev m o = some (.int k (hi : Int))) (h1 : lo ≤ hi) (h2 : hi ≤ cp) :
    QF P n S ⟨d, .slice t x ol oh none, ty, pos, af, g⟩ m (.slice (cutA A cp lo) (hi - lo) (cp - lo)) := by
  refine q_v (fun a => Instr.sliceAt t (a.eval x) (ol.map a.eval) (oh.map a.eval) none) (fun a => rfl) fun a ha w hw => ?_
  rw [ha.ev hx]
  refine run_slice ht he ?_ ?_ h1 h2 w
  · rcases hl with ⟨rfl, rfl⟩ | ⟨o, k, rfl, h⟩
    · exact .inl ⟨rfl, rfl⟩
    · exact .inr ⟨k, by simp [ha.ev h]⟩
  · rcases hh with ⟨rfl, rfl⟩ | ⟨o, k, rfl, h⟩
    · exact .inl ⟨rfl, rfl⟩
    · exact .inr ⟨k, by simp [ha.ev h]⟩

theorem q_build {t : TypeId} {ps : List (Nat × Operand)} {vs : List (Nat × Value)} (hp : evp m ps = some vs) (hr : ∀ w, (Instr.build t vs.toArray).run P w = .ok v w) : QF P n S ⟨d, .build t ps.toArray, ty, pos, af, g⟩ m v := by
  refine q_v (fun a => Instr.build t (ps.toArray.map fun (i, x) => (i, a.eval x))) (fun a => rfl) fun a ha w hw => ?_
  have : (ps.toArray.map fun (i, x) => (i, a.eval x)) = vs.toArray := by rw [← ha.evp hp]; simp
  rw [this]
  exact hr w

theorem q_extract {vs : List Value} {i : Nat} (hx : ev m x = some (.tuple vs.toArray)) (hi : vs[i]? = some v) : QF P n S ⟨d, .extract x i, ty, pos, af, g⟩ m v := by
  refine q_v (fun a => Instr.extract (a.eval x) i) (fun a => rfl) fun a ha w hw => ?_
  rw [ha.ev hx]
  simp [Instr.extract, hi]

theorem q_iface {t : TypeId} {td : TypeDesc} (hx : ev m x = some v) (ht : P.underlying t = some td) (hn : ∀ ms, td ≠ .interface ms) : QF P n S ⟨d, .makeInterface t x, ty, pos, af, g⟩ m (.iface t v) := by
  refine q_v (fun a => Instr.makeInterface t (a.eval x)) (fun a => rfl) fun a ha w hw => ?_
  rw [ha.ev hx]
  cases td <;> first | (simp [Instr.makeInterface, run_underlying ht]; done) | exact absurd rfl (hn _)

theorem q_is {xt t : TypeId} {td : TypeDesc} (hx : ev m x = some (.iface t v)) (ht : P.underlying t = some td) (hn : ∀ ms, td ≠ .interface ms) : QF P n S ⟨d, .typeAssert x xt t true, ty, pos, af, g⟩ m (.tuple #[v, .bool true]) := by
  refine q_v (fun a => Instr.typeAssert (a.eval x) xt t true) (fun a => rfl) fun a ha w hw => ?_
  rw [ha.ev hx]
  cases td <;> first | (simp [Instr.typeAssert, run_underlying ht]; done) | exact absurd rfl (hn _)

theorem q_isnt {xt t T : TypeId} {td : TypeDesc} {z : Value} (hx : ev m x = some (.iface T v)) (ht : P.underlying t = some td) (hn : ∀ ms, td ≠ .interface ms) (hne : T ≠ t) (hz : (P.info? t).bind (·.zero) = some z) :
    QF P n S ⟨d, .typeAssert x xt t true, ty, pos, af, g⟩ m (.tuple #[z, .bool false]) := by
  refine q_v (fun a => Instr.typeAssert (a.eval x) xt t true) (fun a => rfl) fun a ha w hw => ?_
  rw [ha.ev hx]
  obtain ⟨i, hi, hz⟩ := Option.bind_eq_some_iff.1 hz
  cases td <;> first | (simp [Instr.typeAssert, run_underlying ht, hne, zeroValue, typeInfo, hi, hz]; done) | exact absurd rfl (hn _)

theorem q_func {f : Fn} {cs : List Operand} {vs : List Value} (hc : evs m cs = some vs) : QF P n S ⟨d, .makeFunc f #[] cs.toArray, ty, pos, af, g⟩ m (.func f #[] vs.toArray) := by
  refine q_v (fun a => Instr.makeFunc f (#[].map a.eval) (cs.toArray.map a.eval)) (fun a => rfl) fun a ha w hw => ?_
  simp [Instr.makeFunc, ← ha.evs hc]

/-! ### Calls -/

theorem run_callFunc {f : FuncId} (hf : callable P f = true) (args : Array Value) (w : World) : (callFunc f args).run P w = .ok (.enter f args) w := by
  unfold callable at hf
  split at hf
  · rename_i fn hfn
    rw [Bool.and_eq_true] at hf
    have hb : ¬ fn.body = none := by intro h; simp [h] at hf
    have hn : ¬ fn.name = "runtime.NumGoroutine" := by simpa using hf.1
    simp [callFunc, program, Sem.run, hfn, hn, hb]
  · cases hf

theorem run_call {f : FuncId} {xs : List Operand} {ats : Array TypeId} {vs : List Value} {a : Act} (ha : Fr n m a) (hx : evs m xs = some vs) (hf : callable P f = true) (w : World) :
    (execOp a.eval ⟨d, .call ⟨.value (.func f), xs.toArray, ats⟩, ty, pos, af, g⟩).run P w = .ok (.enter f vs.toArray) w := by
  have hv : xs.toArray.map a.eval = vs.toArray := by rw [← ha.evs hx]; simp
  simp only [execOp, resolve, hv]
  simp [Deferred.ofValue, Act.eval, invoke, run_callFunc hf]

theorem q_call {f : FuncId} {xs : List Operand} {ats : Array TypeId} {vs : List Value} (hx : evs m xs = some vs) (hf : callable P f = true) (hc : ∀ w, S w → Calls P f vs.toArray w (fun e w' => e = .returned v ∧ Pres [] w w')) :
    QF P n S ⟨d, .call ⟨.value (.func f), xs.toArray, ats⟩, ty, pos, af, g⟩ m v := by
  intro a ha w hw
  rw [run_call ha hx hf]
  exact ⟨rfl, hc w hw⟩

/-- The call of a closure. -/
theorem run_callC {f : FuncId} {cs : Array Value} {xs : List Operand} {ats : Array TypeId} {vs : List Value} {a : Act} (ha : Fr n m a) (hc : ev m c = some (.func (.func f) #[] cs)) (hx : evs m xs = some vs) (hf : callable P f = true) (w : World) :
    (execOp a.eval ⟨d, .call ⟨.value c, xs.toArray, ats⟩, ty, pos, af, g⟩).run P w = .ok (.enter f (vs.toArray ++ cs)) w := by
  have hv : xs.toArray.map a.eval = vs.toArray := by rw [← ha.evs hx]; simp
  simp only [execOp, resolve, hv, ha.ev hc]
  simp [Deferred.ofValue, invoke, run_callFunc hf]

theorem q_callC {f : FuncId} {cs : Array Value} {xs : List Operand} {ats : Array TypeId} {vs : List Value} (hf' : ev m c = some (.func (.func f) #[] cs)) (hx : evs m xs = some vs) (hf : callable P f = true)
    (hc : ∀ w, S w → Calls P f (vs.toArray ++ cs) w (fun e w' => e = .returned v ∧ Pres [] w w')) : QF P n S ⟨d, .call ⟨.value c, xs.toArray, ats⟩, ty, pos, af, g⟩ m v := by
  intro a ha w hw
  rw [run_callC ha hf' hx hf]
  exact ⟨rfl, hc w hw⟩

/-- The call of a method through an interface value whose dynamic type is known. -/
theorem run_invoke {f : FuncId} {T : TypeId} {name : String} {xs : List Operand} {ats : Array TypeId} {vs : List Value} {r : Value} {a : Act} (ha : Fr n m a) (hc : ev m c = some (.iface T v))
    (hm : ∀ w, (method (P.types.size + Made.depth) T v name).run P w = .ok (f, r) w) (hx : evs m xs = some vs) (hf : callable P f = true) (w : World) :
    (execOp a.eval ⟨d, .call ⟨.invoke c name, xs.toArray, ats⟩, ty, pos, af, g⟩).run P w = .ok (.enter f (r :: vs).toArray) w := by
  have hv : xs.toArray.map a.eval = vs.toArray := by rw [← ha.evs hx]; simp
  simp only [execOp, resolve, hv, ha.ev hc]
  simp [invoke, callMethod, program, Sem.run, hm, run_callFunc hf]

theorem q_invoke {f : FuncId} {T : TypeId} {name : String} {xs : List Operand} {ats : Array TypeId} {vs : List Value} {r u : Value} (hc : ev m c = some (.iface T u)) (hm : ∀ w, (method (P.types.size + Made.depth) T u name).run P w = .ok (f, r) w)
    (hx : evs m xs = some vs) (hf : callable P f = true) (h : ∀ w, S w → Calls P f (r :: vs).toArray w (fun e w' => e = .returned v ∧ Pres [] w w')) : QF P n S ⟨d, .call ⟨.invoke c name, xs.toArray, ats⟩, ty, pos, af, g⟩ m v := by
  intro a ha w hw
  rw [run_invoke ha hc hm hx hf]
  exact ⟨rfl, h w hw⟩

/-! ### What turns the world -/

section
variable {D : World → Prop} {Nx : Mp → (World → Prop) → Prop} {t : Nat}

theorem l_run {o : Oper} (h : ∀ a, Fr n m a → ∀ w, D w → ∃ x w', (execOp a.eval o).run P w = .ok x w' ∧ (∃ m' D', (match x with | .value v => m' = insM o.dst v m | .skip => m' = insM o.dst undef m | _ => False) ∧ D' w' ∧ Closed D' ∧ Nx m' D'))
    (hd : ∀ t, o.dst = some t → t < n) : LF P n o m D Nx := by
  intro a ha w hw Q
  obtain ⟨x, w', hr, m', D', hm, hd', hc, hn⟩ := h a ha w hw
  unfold Oper.wp
  rw [hr]
  cases x <;> simp only at hm <;> subst hm
  · exact ⟨_, D', ha.ins hd _, hd', hc, hn⟩
  · exact ⟨_, D', ha.ins hd _, hd', hc, hn⟩

/-- A new block. -/
theorem l_alloc {e : TypeId} {z : Value} (ht : t < n) (hz : (P.info? e).bind (·.zero) = some z) (h : ∀ b, Nx ((t, .pointer (some ⟨b, 0, none⟩)) :: m) (St w0 M (K ++ [⟨b, e, z.cells.toList.map some, true⟩]) B)) :
    LF P n ⟨some t, .alloc e, ty, pos, af, g⟩ m (St w0 M K B) Nx := by
  refine l_run (fun a ha w hw => ?_) (by simpa using ht)
  obtain ⟨i, hi, hz⟩ := Option.bind_eq_some_iff.1 hz
  refine ⟨.value (.pointer (some ⟨w.heap.size, 0, none⟩)), w.alloc (.cells z.cells.toList.toArray e), ?_, _, St w0 M (K ++ [Kb.mk w.heap.size e (z.cells.toList.map some) true]) B, rfl, hw.new _ _, St.closed _ _ _ _, h w.heap.size⟩
  simp [execOp, Instr.alloc, zeroValue, typeInfo, hi, hz, newVar, newRow, newObj, Sem.run]

theorem l_box {e : TypeId} (ht : t < n) (hx : ev m x = some v) (h : ∀ b, Nx ((t, .pointer (some ⟨b, 0, none⟩)) :: m) (St w0 M (K ++ [⟨b, e, v.cells.toList.map some, true⟩]) B)) :
    LF P n ⟨some t, .box e x, ty, pos, af, g⟩ m (St w0 M K B) Nx := by
  refine l_run (fun a ha w hw => ?_) (by simpa using ht)
  refine ⟨.value (.pointer (some ⟨w.heap.size, 0, none⟩)), w.alloc (.cells v.cells.toList.toArray e), ?_, _, St w0 M (K ++ [Kb.mk w.heap.size e (v.cells.toList.map some) true]) B, rfl, hw.new _ _, St.closed _ _ _ _, h w.heap.size⟩
  simp [execOp, Instr.box, ha.ev hx, newVar, newRow, newObj, Sem.run]

theorem l_buildSlice {s e len : Nat} {ps : List (Nat × Operand)} {vs : List (Nat × Value)} {cs : List Value} (ht : t < n) (hp : evp m ps = some vs)
    (hr : ∀ w : World, (Instr.buildSlice s len vs.toArray).run P w = .ok (.slice (some ⟨w.heap.size, 0, none⟩) len len) (w.alloc (.cells cs.toArray e)))
    (h : ∀ b, Nx ((t, .slice (some ⟨b, 0, none⟩) len len) :: m) (St w0 M (K ++ [⟨b, e, cs.map some, true⟩]) B)) :
    LF P n ⟨some t, .buildSlice s len ps.toArray, ty, pos, af, g⟩ m (St w0 M K B) Nx := by
  refine l_run (fun a ha w hw => ?_) (by simpa using ht)
  have : (ps.toArray.map fun (i, x) => (i, a.eval x)) = vs.toArray := by rw [← ha.evp hp]; simp
  refine ⟨.value (.slice (some ⟨w.heap.size, 0, none⟩) len len), w.alloc (.cells cs.toArray e), ?_, _, St w0 M (K ++ [Kb.mk w.heap.size e (cs.map some) true]) B, rfl, hw.new _ _, St.closed _ _ _ _, h w.heap.size⟩
  show (do pure (Next.value (← Instr.buildSlice s len (ps.toArray.map fun (i, x) => (i, a.eval x)))) : Sem Next).run P w = _
  rw [this]
  exact run_v (hr w)

/-- A store into a known block. -/
theorem l_store {e b off j : Nat} {k : Kb} (hx : ev m x = some (.pointer (some ⟨b, off, none⟩))) (hy : ev m y = some v) (he : nagg P e = true) (hv : v.one1 = true) (hk : K[j]? = some k) (hb : k.num = b) (hrw : k.rw = true) (ho : off < k.cs.length)
    (h : Nx m (St w0 M (setK K j off v) B)) : LF P n ⟨none, .store e x y, ty, pos, af, g⟩ m (St w0 M K B) Nx := by
  subst hb
  refine l_run (fun a ha w hw => ?_) (by simp)
  obtain ⟨u, hu⟩ := (hw.kb hk).there ho
  refine ⟨.skip, w.setCell ⟨k.num, off, none⟩ v, ?_, _, St w0 M (setK K j off v) B, rfl, hw.store hk hrw off v, St.closed _ _ _ _, h⟩
  show (do Instr.storeAt e (a.eval x) (a.eval y); pure Next.skip : Sem Next).run P w = _
  rw [ha.ev hx, ha.ev hy]
  exact run_u (run_store1 he hu ((hw.kb hk).frozen off) hv)

def setKs (K : List Kb) (j off : Nat) : List Value → List Kb
  | [] => K
  | v :: r => setKs (setK K j off v) j (off + 1) r

theorem run_storeCells {a : Addr} : ∀ (vs : List Value) (i : Nat) {K : List Kb} {k : Kb} {j : Nat} {w : World}, St w0 M K B w → K[j]? = some k → a = ⟨k.num, a.off, none⟩ → k.rw = true → a.off + i + vs.length ≤ k.cs.length → (∀ v ∈ vs, v.one1 = true) →
    ∃ w', (storeCells a vs i).run P w = .ok () w' ∧ St w0 M (setKs K j (a.off + i) vs) B w'
  | [], i, K, k, j, w, h, hk, ha, hrw, hl, hv => ⟨w, rfl, h⟩
  | v :: vs, i, K, k, j, w, h, hk, ha, hrw, hl, hv => by
    have hadd : a.add i = ⟨k.num, a.off + i, none⟩ := by
      rw [ha]
      unfold Addr.add
      split
      · rename_i h0; simp [h0]
      · rfl
    have hlen : a.off + i < k.cs.length := by simp at hl; omega
    obtain ⟨u, hu⟩ := (h.kb hk).there hlen
    have hf := (h.kb hk).frozen (a.off + i)
    have h1 := h.store hk hrw (a.off + i) v
    have hk' : (setK K j (a.off + i) v)[j]? = some { k with cs := k.cs.set (a.off + i) (some v) } := by
      unfold setK
      rw [List.getElem?_modify]
      simp [hk]
    obtain ⟨w', hr, hs⟩ := run_storeCells vs (i + 1) (k := { k with cs := k.cs.set (a.off + i) (some v) }) (j := j) h1 hk' ha hrw (by simp at hl ⊢; omega) (fun x hx => hv x (List.mem_cons_of_mem _ hx))
    refine ⟨w', ?_, ?_⟩
    · unfold storeCells
      rw [Sem.run_bind, hadd]
      have : (store ⟨k.num, a.off + i, none⟩ v).run P w = .ok () (w.setCell ⟨k.num, a.off + i, none⟩ v) := by
        have hone := hv v List.mem_cons_self
        unfold store
        cases v <;> first | (simp [Sem.run, hu, hf]; done) | cases hone
      rw [this]
      exact hr
    · rw [show a.off + (i + 1) = a.off + i + 1 by omega] at hs
      exact hs

/-- A struct is stored. -/
theorem l_storeAgg {e b off j : Nat} {k : Kb} {vs : List Value} (hx : ev m x = some (.pointer (some ⟨b, off, none⟩))) (hy : ev m y = some (.agg vs.toArray)) (he : aggs P e = some vs.length) (hv : ∀ v ∈ vs, v.one1 = true) (hk : K[j]? = some k) (hb : k.num = b)
    (hrw : k.rw = true) (ho : off + vs.length ≤ k.cs.length) (h : Nx m (St w0 M (setKs K j off vs) B)) : LF P n ⟨none, .store e x y, ty, pos, af, g⟩ m (St w0 M K B) Nx := by
  subst hb
  refine l_run (fun a ha w hw => ?_) (by simp)
  obtain ⟨w', hr, hs⟩ := run_storeCells (P := P) (a := ⟨k.num, off, none⟩) vs 0 hw hk rfl hrw (by simpa using ho) hv
  refine ⟨.skip, w', ?_, _, St w0 M (setKs K j off vs) B, rfl, by simpa using hs, St.closed _ _ _ _, h⟩
  show (do Instr.storeAt e (a.eval x) (a.eval y); pure Next.skip : Sem Next).run P w = _
  rw [ha.ev hx, ha.ev hy]
  refine run_u ?_
  have hsz : ∃ i, P.info? e = some i ∧ i.size = vs.length := by
    unfold aggs at he
    split at he <;> first
      | (cases hi : P.info? e with
         | none => rw [hi] at he; cases he
         | some i => rw [hi] at he; exact ⟨i, rfl, by simpa using he⟩)
      | cases he
  obtain ⟨i, hi, hs'⟩ := hsz
  show (storeVar e ⟨k.num, off, none⟩ (.agg vs.toArray)).run P w = _
  unfold storeVar
  rw [Sem.run_bind, run_sizeOf hi, hs']
  simp only [Value.cells, Result.andThen_ok, List.size_toArray, ne_eq, not_true_eq_false, if_false]
  exact hr

/-- A call, by what it comes to. -/
theorem l_call {f : FuncId} {xs : List Operand} {ats : Array TypeId} {vs : List Value} (hd : ∀ t, d = some t → t < n) (hx : evs m xs = some vs) (hf : callable P f = true)
    (hc : ∀ w, D w → Calls P f vs.toArray w (fun e w' => ∃ v D', e = .returned v ∧ D' w' ∧ Closed D' ∧ Nx (insM d v m) D')) : LF P n ⟨d, .call ⟨.value (.func f), xs.toArray, ats⟩, ty, pos, af, g⟩ m D Nx := by
  intro a ha w hw Q
  unfold Oper.wp
  rw [run_call ha hx hf]
  exact (hc w hw).mono fun e w' ⟨v, D', he, hD, hC, hN⟩ => by subst he; exact ⟨_, D', ha.ins hd v, hD, hC, hN⟩

theorem l_invoke {f : FuncId} {T : TypeId} {name : String} {xs : List Operand} {ats : Array TypeId} {vs : List Value} {r u : Value} (hd : ∀ t, d = some t → t < n) (hc : ev m c = some (.iface T u)) (hm : ∀ w, (method (P.types.size + Made.depth) T u name).run P w = .ok (f, r) w)
    (hx : evs m xs = some vs) (hf : callable P f = true) (h : ∀ w, D w → Calls P f (r :: vs).toArray w (fun e w' => ∃ v D', e = .returned v ∧ D' w' ∧ Closed D' ∧ Nx (insM d v m) D')) :
    LF P n ⟨d, .call ⟨.invoke c name, xs.toArray, ats⟩, ty, pos, af, g⟩ m D Nx := by
  intro a ha w hw Q
  unfold Oper.wp
  rw [run_invoke ha hc hm hx hf]
  exact (h w hw).mono fun e w' ⟨v, D', he, hD, hC, hN⟩ => by subst he; exact ⟨_, D', ha.ins hd v, hD, hC, hN⟩

/-- A quiet one, where it stands among others. -/
theorem l_q (o : Oper) (hd : ∀ t, o.dst = some t → t < n) (hc : Closed D) (hq : QF P n D o m v) (h : Nx (insM o.dst v m) D) : LF P n o m D Nx := by
  intro a ha w hw Q
  exact wp_of_QU (hq a ha w hw) fun w' hp => ⟨_, D, ha.ins hd v, hc w w' hw hp, hc, h⟩

/-- A call, by what it comes to: nothing new to name; one, two, three things. -/
theorem l_call0 {f : FuncId} {xs : List Operand} {ats : Array TypeId} {vs : List Value} {t : Nat} {K' : List Kb} {B' : List Fact} (ht : t < n) (hx : evs m xs = some vs) (hf : callable P f = true)
    (hc : ∀ w, St w0 M K B w → Calls P f vs.toArray w (fun e w' => e = .returned v ∧ St w0 M K' B' w')) (h : Nx ((t, v) :: m) (St w0 M K' B')) : LF P n ⟨some t, .call ⟨.value (.func f), xs.toArray, ats⟩, ty, pos, af, g⟩ m (St w0 M K B) Nx :=
  l_call (by simpa using ht) hx hf fun w hw => (hc w hw).mono fun e w' ⟨he, hs⟩ => ⟨_, _, he, hs, St.closed _ _ _ _, h⟩
theorem l_call1 {ι : Type} {f : FuncId} {xs : List Operand} {ats : Array TypeId} {vs : List Value} {t : Nat} {vv : ι → Value} {K' : ι → List Kb} {B' : ι → List Fact} (ht : t < n) (hx : evs m xs = some vs) (hf : callable P f = true)
    (hc : ∀ w, St w0 M K B w → Calls P f vs.toArray w (fun e w' => ∃ i, e = .returned (vv i) ∧ St w0 M (K' i) (B' i) w')) (h : ∀ i, Nx ((t, vv i) :: m) (St w0 M (K' i) (B' i))) : LF P n ⟨some t, .call ⟨.value (.func f), xs.toArray, ats⟩, ty, pos, af, g⟩ m (St w0 M K B) Nx :=
  l_call (by simpa using ht) hx hf fun w hw => (hc w hw).mono fun e w' ⟨i, he, hs⟩ => ⟨_, _, he, hs, St.closed _ _ _ _, h i⟩
theorem l_call2 {ι κ : Type} {f : FuncId} {xs : List Operand} {ats : Array TypeId} {vs : List Value} {t : Nat} {vv : ι → κ → Value} {K' : ι → κ → List Kb} {B' : ι → κ → List Fact} (ht : t < n) (hx : evs m xs = some vs) (hf : callable P f = true)
    (hc : ∀ w, St w0 M K B w → Calls P f vs.toArray w (fun e w' => ∃ i j, e = .returned (vv i j) ∧ St w0 M (K' i j) (B' i j) w')) (h : ∀ i j, Nx ((t, vv i j) :: m) (St w0 M (K' i j) (B' i j))) : LF P n ⟨some t, .call ⟨.value (.func f), xs.toArray, ats⟩, ty, pos, af, g⟩ m (St w0 M K B) Nx :=
  l_call (by simpa using ht) hx hf fun w hw => (hc w hw).mono fun e w' ⟨i, j, he, hs⟩ => ⟨_, _, he, hs, St.closed _ _ _ _, h i j⟩
theorem l_inv0 {f : FuncId} {T : TypeId} {name : String} {xs : List Operand} {ats : Array TypeId} {vs : List Value} {r u : Value} {t : Nat} {K' : List Kb} {B' : List Fact} (ht : t < n) (hc : ev m c = some (.iface T u)) (hm : ∀ w, (method (P.types.size + Made.depth) T u name).run P w = .ok (f, r) w)
    (hx : evs m xs = some vs) (hf : callable P f = true) (hh : ∀ w, St w0 M K B w → Calls P f (r :: vs).toArray w (fun e w' => e = .returned v ∧ St w0 M K' B' w')) (h : Nx ((t, v) :: m) (St w0 M K' B')) :
    LF P n ⟨some t, .call ⟨.invoke c name, xs.toArray, ats⟩, ty, pos, af, g⟩ m (St w0 M K B) Nx :=
  l_invoke (by simpa using ht) hc hm hx hf fun w hw => (hh w hw).mono fun e w' ⟨he, hs⟩ => ⟨_, _, he, hs, St.closed _ _ _ _, h⟩
theorem l_inv1 {ι : Type} {f : FuncId} {T : TypeId} {name : String} {xs : List Operand} {ats : Array TypeId} {vs : List Value} {r u : Value} {t : Nat} {vv : ι → Value} {K' : ι → List Kb} {B' : ι → List Fact} (ht : t < n) (hc : ev m c = some (.iface T u)) (hm : ∀ w, (method (P.types.size + Made.depth) T u name).run P w = .ok (f, r) w)
    (hx : evs m xs = some vs) (hf : callable P f = true) (hh : ∀ w, St w0 M K B w → Calls P f (r :: vs).toArray w (fun e w' => ∃ i, e = .returned (vv i) ∧ St w0 M (K' i) (B' i) w')) (h : ∀ i, Nx ((t, vv i) :: m) (St w0 M (K' i) (B' i))) :
    LF P n ⟨some t, .call ⟨.invoke c name, xs.toArray, ats⟩, ty, pos, af, g⟩ m (St w0 M K B) Nx :=
  l_invoke (by simpa using ht) hc hm hx hf fun w hw => (hh w hw).mono fun e w' ⟨i, he, hs⟩ => ⟨_, _, he, hs, St.closed _ _ _ _, h i⟩
end

/-! ### Small things -/

theorem q_T {o : Oper} {p : Prop} [Decidable p] (h : QF P n S o m (.bool (decide p))) (hp : p) : QF P n S o m (.bool true) := by rwa [decide_eq_true hp] at h
theorem q_F {o : Oper} {p : Prop} [Decidable p] (h : QF P n S o m (.bool (decide p))) (hp : ¬ p) : QF P n S o m (.bool false) := by rwa [decide_eq_false hp] at h
theorem q_N {o : Oper} {k : IntKind} {a b : Nat} (h : QF P n S o m (.int k (a : Int))) (e : a = b) : QF P n S o m (.int k (b : Int)) := by subst e; exact h
theorem or_lt_ (a b k : Nat) (ha : a < 2 ^ k) (hb : b < 2 ^ k) : a ||| b < 2 ^ k := Nat.or_lt_two_pow ha hb

/-- The address of an element of a row of known length. -/
theorem q_indexK {t e b i len cp sz : Nat} {kd : IntKind} (hx : ev m x = some (.slice (some ⟨b, 0, none⟩) len cp)) (hy : ev m y = some (.int kd (i : Int))) (ht : P.underlying t = some (.slice e)) (he : (P.info? e).map (·.size) = some sz) (hi : i < len) :
    QF P n S ⟨d, .indexAddr t x y, ty, pos, af, g⟩ m (.pointer (some ⟨b, i * sz, none⟩)) := by
  refine q_v (fun a => Instr.indexAt t (a.eval x) (a.eval y)) (fun a => rfl) fun a ha w hw => ?_
  rw [ha.ev hx, ha.ev hy]
  obtain ⟨inf, hinf, hs⟩ := Option.map_eq_some_iff.1 he
  have hadd : Addr.add ⟨b, 0, none⟩ (i * sz) = ⟨b, i * sz, none⟩ := by
    unfold Addr.add
    split
    · rename_i h0; rw [h0]
    · simp
  simp [Instr.indexAt, asIntOf, run_underlying ht, run_sizeOf hinf, hs, hadd]
  intro hle
  omega

theorem ld_ {T b off j : Nat} {k : Kb} {vs : List Value} {w : World} (ht : aggs P T = some vs.length) (hw : St w0 M K B w) (hk : K[j]? = some k) (hb : k.num = b) (hv : (k.cs.drop off).take vs.length = vs.map some) : (loadVar T ⟨b, off, none⟩).run P w = .ok (.agg vs.toArray) w := by
  subst hb
  refine run_loadAgg ht fun i u hi => ?_
  have hc : k.cs[off + i]? = some (some u) := by
    have h1 : ((k.cs.drop off).take vs.length)[i]? = some (some u) := by rw [hv]; simp [hi]
    rw [List.getElem?_take, List.getElem?_drop] at h1
    split at h1
    · exact h1
    · cases h1
  have := (hw.kb hk).cell hc
  have e : (Addr.add ⟨k.num, off, none⟩ i) = ⟨k.num, off + i, none⟩ := by
    unfold Addr.add
    split
    · rename_i h0; simp [h0]
    · rfl
  rw [e]
  exact this
end

/-! ### Blocks told anew -/

/-- Some of the blocks, in whatever order, some cells forgotten. -/
def wk (K : List Kb) : List (Nat × List Nat) → List Kb
  | [] => []
  | (i, os) :: r => match K[i]? with
    | some k => { k with cs := os.foldl (fun c o => c.set o none) k.cs } :: wk K r
    | none => wk K r

theorem fits_forgets : ∀ (os : List Nat) {cs : List (Option Value)} {c : List Value}, fits cs c → fits (os.foldl (fun c o => c.set o none) cs) c
  | [], _, _, h => h
  | o :: os, _, _, h => fits_forgets os (fits_forget h o)

theorem wk_mem {K : List Kb} : ∀ {sp : List (Nat × List Nat)} {k : Kb}, k ∈ wk K sp → ∃ i os y, (i, os) ∈ sp ∧ K[i]? = some y ∧ k = { y with cs := os.foldl (fun c o => c.set o none) y.cs }
  | [], k, h => by simp [wk] at h
  | (i, os) :: r, k, h => by
    unfold wk at h
    split at h
    · rename_i y hy
      rcases List.mem_cons.1 h with h | h
      · exact ⟨i, os, y, List.mem_cons_self, hy, h⟩
      · obtain ⟨i', os', y', hm, h1, h2⟩ := wk_mem h
        exact ⟨i', os', y', List.mem_cons_of_mem _ hm, h1, h2⟩
    · obtain ⟨i', os', y', hm, h1, h2⟩ := wk_mem h
      exact ⟨i', os', y', List.mem_cons_of_mem _ hm, h1, h2⟩

theorem wk_nd {K : List Kb} (hnd : (K.map Kb.num).Nodup) : ∀ {sp : List (Nat × List Nat)}, (sp.map (·.1)).Nodup → ((wk K sp).map Kb.num).Nodup
  | [], _ => by simp [wk]
  | (i, os) :: r, h => by
    rw [List.map_cons, List.nodup_cons] at h
    have ih := wk_nd hnd (sp := r) h.2
    unfold wk
    split
    · rename_i y hy
      rw [List.map_cons, List.nodup_cons]
      refine ⟨fun hm => ?_, ih⟩
      obtain ⟨k, hk, hn⟩ := List.mem_map.1 hm
      obtain ⟨i', os', y', hm', hy', rfl⟩ := wk_mem hk
      simp only at hn
      have hij : i' = i := by
        have h1 : (K.map Kb.num)[i']? = some y'.num := by simp [hy']
        have h2 : (K.map Kb.num)[i]? = some y.num := by simp [hy]
        rw [← hn] at h2
        have l1 : i' < (K.map Kb.num).length := (List.getElem?_eq_some_iff.1 h1).1
        have l2 : i < (K.map Kb.num).length := (List.getElem?_eq_some_iff.1 h2).1
        exact (List.getElem?_inj l1 hnd).1 (h1.trans h2.symm)
      subst hij
      exact h.1 (List.mem_map.2 ⟨_, hm', rfl⟩)
    · exact ih

def ndB : List Nat → Bool
  | [] => true
  | i :: r => !r.contains i && ndB r
theorem ndB_spec : ∀ {l : List Nat}, ndB l = true → l.Nodup
  | [], _ => List.nodup_nil
  | i :: r, h => by
    simp only [ndB, Bool.and_eq_true] at h
    rw [List.nodup_cons]
    exact ⟨by simpa using h.1, ndB_spec h.2⟩

theorem St.wk {w0 : World} {M : List Nat} {K : List Kb} {B : List Fact} {w : World} (h : St w0 M K B w) (sp : List (Nat × List Nat)) (hnd : ndB (sp.map (·.1)) = true) : St w0 M (Zed.wk K sp) B w := by
  refine h.weak (fun k hk => ?_) (wk_nd h.nd (ndB_spec hnd))
  obtain ⟨i, os, y, _, hy, rfl⟩ := wk_mem hk
  exact ⟨y, List.mem_of_getElem? hy, rfl, fun h => h, fun ⟨c, hc, hf⟩ => ⟨c, hc, fits_forgets os hf⟩⟩

/-- Fewer facts. -/
theorem St.factsTo {w0 : World} {M : List Nat} {K : List Kb} {B B' : List Fact} {w : World} (h : St w0 M K B w) (hb : ∀ φ ∈ B', φ ∈ B) : St w0 M K B' w :=
  ⟨h.pres, h.ok, h.nd, h.wr, fun φ hφ => h.facts φ (hb φ hφ), fun φ hφ => h.apart φ (hb φ hφ)⟩

/-- A function's beginning: blocks and facts that stand. -/
theorem St.start {w : World} {M : List Nat} {K : List Kb} {B : List Fact} (hK : ∀ k ∈ K, k.ok w) (hnd : (K.map Kb.num).Nodup) (hw : ∀ k ∈ K, k.rw = true → k.num ∈ M) (hB : ∀ φ ∈ B, φ.ok w) (ha : ∀ φ ∈ B, ∀ k ∈ K, k.rw = true → ¬ φ.fp k.num) : St w M K B w :=
  ⟨Pres.refl _ _, hK, hnd, fun k hk hr => .inl (hw k hk hr), hB, ha⟩
theorem St.start0 {w : World} {M : List Nat} : St w M [] [] w := St.start (by simp) (by simp) (by simp) (by simp) (by simp)
theorem St.start1 {w : World} {M : List Nat} {φ : Fact} (h : φ.ok w) : St w M [] [φ] w := St.start (by simp) (by simp) (by simp) (by simpa using h) (by simp)
theorem St.start2 {w : World} {M : List Nat} {φ ψ : Fact} (h : φ.ok w) (h' : ψ.ok w) : St w M [] [φ, ψ] w := St.start (by simp) (by simp) (by simp) (by simpa using ⟨h, h'⟩) (by simp)
end Go.Proofs.YtfkaafbeeegenaaGreat.Zed
