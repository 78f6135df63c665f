/- Program-free: each kind of operation as a quiet fact (QF) or as what it leaves (LF). -/
import Derived.Test.YtfkaafbeeegenaaGreatReg
import Derived.Laws.BitsAllLaws
import Derived.WalkKit
namespace Go.Proofs.YtfkaafbeeegenaaGreat.Zed
set_option linter.unusedSimpArgs false
set_option linter.unusedVariables false
open Go.RowKit

/-! ### Numbers -/

def lim : IntKind → Nat
  | .i8 => 128 | .i16 => 32768 | .i32 => 2147483648 | .i64 => 9223372036854775808
  | .u8 => 256 | .u16 => 65536 | .u32 => 4294967296 | .u64 => 18446744073709551616
def mdl : IntKind → Nat
  | .i8 => 256 | .i16 => 65536 | .i32 => 4294967296 | .i64 => 18446744073709551616
  | .u8 => 256 | .u16 => 65536 | .u32 => 4294967296 | .u64 => 18446744073709551616

theorem wrap_nat {k : IntKind} {p : Nat} (h : p < lim k) : k.wrap (p : Int) = p := by
  cases k <;> simp [lim] at h <;> simp [IntKind.wrap, IntKind.bits, IntKind.signed] <;> omega
theorem wrap_mod {k : IntKind} (hk : k.signed = false) (p : Nat) : k.wrap (p : Int) = ((p % mdl k : Nat) : Int) := by
  cases k <;> simp [IntKind.signed] at hk <;> simp [IntKind.wrap, IntKind.bits, IntKind.signed, mdl]

theorem bits_nat (op : BinOp) (f : Nat → Nat → Nat) (k : IntKind) (hk : k.signed = false) {p q : Nat} (hp : p < lim k) (hq : q < lim k)
    (hop : (op = .and ∧ f = (· &&& ·)) ∨ (op = .or ∧ f = (· ||| ·)) ∨ (op = .xor ∧ f = (· ^^^ ·))) (P : Program) (w : World) :
    (Op.intBits op k (p : Int) (q : Int)).run P w = .ok (.int k ((f p q : Nat) : Int)) w := by
  have e : ∀ x : Nat, x < lim k → (BitVec.ofInt k.bits (x : Int)).toNat = x := by
    intro x hx
    rw [BitVec.ofInt_natCast, BitVec.toNat_ofNat]
    refine Nat.mod_eq_of_lt ?_
    cases k <;> simp [IntKind.signed] at hk <;> simpa [lim, IntKind.bits] using hx
  have hl : ∀ x : Nat, x < 2 ^ k.bits → x < lim k := by
    intro x hx
    cases k <;> simp [IntKind.signed] at hk <;> simpa [lim, IntKind.bits] using hx
  have hb : ∀ x : Nat, x < lim k → x < 2 ^ k.bits := by
    intro x hx
    cases k <;> simp [IntKind.signed] at hk <;> simpa [lim, IntKind.bits] using hx
  rcases hop with ⟨rfl, rfl⟩ | ⟨rfl, rfl⟩ | ⟨rfl, rfl⟩
  · show Result.ok (Value.int k (k.wrap ((BitVec.ofInt k.bits (p : Int) &&& BitVec.ofInt k.bits (q : Int)).toNat : Int))) w = _
    rw [BitVec.toNat_and, e p hp, e q hq, wrap_nat (hl _ (Nat.and_lt_two_pow _ (hb q hq)))]
  · show Result.ok (Value.int k (k.wrap ((BitVec.ofInt k.bits (p : Int) ||| BitVec.ofInt k.bits (q : Int)).toNat : Int))) w = _
    rw [BitVec.toNat_or, e p hp, e q hq, wrap_nat (hl _ (Nat.or_lt_two_pow (hb p hp) (hb q hq)))]
  · show Result.ok (Value.int k (k.wrap ((BitVec.ofInt k.bits (p : Int) ^^^ BitVec.ofInt k.bits (q : Int)).toNat : Int))) w = _
    rw [BitVec.toNat_xor, e p hp, e q hq, wrap_nat (hl _ (Nat.xor_lt_two_pow (hb p hp) (hb q hq)))]

/-! ### From a run to a fact -/

section
variable {P : Program} {n : Nat} {S : World → Prop} {m : Mp} {d : Option Tmp} {ty : TypeId} {pos : String} {af : Array Edge} {g : Option (Nat × Bool)}
  {x y c : Operand} {v u : Value}

theorem run_v {s : Sem Value} {w w' : World} {v : Value} (h : s.run P w = .ok v w') : (do pure (Next.value (← s)) : Sem Next).run P w = .ok (.value v) w' := by simp [h]
theorem run_u {s : Sem Unit} {w w' : World} (h : s.run P w = .ok () w') : (do s; pure Next.skip : Sem Next).run P w = .ok .skip w' := by simp [h]

theorem q_v {o : Oper} (s : Act → Sem Value) (ho : ∀ a : Act, execOp a.eval o = (do pure (Next.value (← s a)) : Sem Next)) (h : ∀ a, Fr n m a → ∀ w, S w → (s a).run P w = .ok v w) : QF P n S o m v := by
  intro a ha w hw
  rw [ho a, run_v (h a ha w hw)]
  exact ⟨rfl, rfl⟩

theorem q_move (hx : ev m x = some v) : QF P n S ⟨d, .move x, ty, pos, af, g⟩ m v := by
  intro a ha w hw
  show QU P w v (Result.ok (.value (a.eval x)) w)
  rw [ha.ev hx]
  exact ⟨rfl, rfl⟩
theorem q_assign (hx : ev m x = some v) : QF P n S ⟨d, .assign x, ty, pos, af, g⟩ m v := by
  intro a ha w hw
  show QU P w v (Result.ok (.value (a.eval x)) w)
  rw [ha.ev hx]
  exact ⟨rfl, rfl⟩
theorem q_pick {b : Bool} (hc : ev m c = some (.bool b)) (hx : b = true → ev m x = some v) (hy : b = false → ev m y = some v) : QF P n S ⟨d, .pick c x y, ty, pos, af, g⟩ m v := by
  refine q_v (fun a => do pure (if ← asBool (a.eval c) then a.eval x else a.eval y)) (fun a => by simp [execOp]) fun a ha w hw => ?_
  rw [ha.ev hc]
  cases b
  · simp [asBool, ha.ev (hy rfl)]
  · simp [asBool, ha.ev (hx rfl)]

/-! #### Integers -/

theorem run_eqGuard_int (op : BinOp) (t : TypeId) (x y : Operand) (k k' : IntKind) (p q : Int) (w : World) : (eqGuard op t x y (.int k p) (.int k' q)).run P w = .ok () w := by
  cases op <;> rfl

theorem q_bin {op : BinOp} {t yt : TypeId} {p q : Value} (hx : ev m x = some p) (hy : ev m y = some q) (hg : ∀ w, (eqGuard op t x y p q).run P w = .ok () w) (hr : ∀ w, (binOp op t p q).run P w = .ok v w) :
    QF P n S ⟨d, .binOp op t x y yt, ty, pos, af, g⟩ m v := by
  refine q_v (fun a => do eqGuard op t x y (a.eval x) (a.eval y); binOp op t (a.eval x) (a.eval y)) (fun a => rfl) fun a ha w hw => ?_
  rw [ha.ev hx, ha.ev hy, Sem.run_bind, hg w]
  exact hr w

theorem q_int {op : BinOp} {t yt : TypeId} {k k' : IntKind} {p q : Int} (hx : ev m x = some (.int k p)) (hy : ev m y = some (.int k' q)) (hr : ∀ w, (binOp op t (.int k p) (.int k' q)).run P w = .ok v w) :
    QF P n S ⟨d, .binOp op t x y yt, ty, pos, af, g⟩ m v := q_bin hx hy (run_eqGuard_int op t x y k k' p q) hr

theorem q_add {t yt : TypeId} {k : IntKind} {p q : Nat} (hx : ev m x = some (.int k (p : Int))) (hy : ev m y = some (.int k (q : Int))) (h : p + q < lim k) :
    QF P n S ⟨d, .binOp .add t x y yt, ty, pos, af, g⟩ m (.int k ((p + q : Nat) : Int)) := by
  refine q_int hx hy fun w => ?_
  have := wrap_nat h
  simp [binOp, Op.intArith] at this ⊢
  exact this
theorem q_sub {t yt : TypeId} {k : IntKind} {p q : Nat} (hx : ev m x = some (.int k (p : Int))) (hy : ev m y = some (.int k (q : Int))) (hq : q ≤ p) (h : p < lim k) :
    QF P n S ⟨d, .binOp .sub t x y yt, ty, pos, af, g⟩ m (.int k ((p - q : Nat) : Int)) := by
  refine q_int hx hy fun w => ?_
  have := wrap_nat (k := k) (p := p - q) (by omega)
  simp [binOp, Op.intArith]
  rw [← this]
  congr 1
  omega
theorem q_mul {t yt : TypeId} {k : IntKind} {p q : Nat} (hx : ev m x = some (.int k (p : Int))) (hy : ev m y = some (.int k (q : Int))) (h : p * q < lim k) :
    QF P n S ⟨d, .binOp .mul t x y yt, ty, pos, af, g⟩ m (.int k ((p * q : Nat) : Int)) := by
  refine q_int hx hy fun w => ?_
  have := wrap_nat h
  simp [binOp, Op.intArith] at this ⊢
  exact this
/-- What wraps round, of an unsigned kind. -/
theorem q_addw {t yt : TypeId} {k : IntKind} {p q : Nat} (hx : ev m x = some (.int k (p : Int))) (hy : ev m y = some (.int k (q : Int))) (hk : k.signed = false) :
    QF P n S ⟨d, .binOp .add t x y yt, ty, pos, af, g⟩ m (.int k (((p + q) % mdl k : Nat) : Int)) := by
  refine q_int hx hy fun w => ?_
  have := wrap_mod hk (p + q)
  simp [binOp, Op.intArith] at this ⊢
  exact this
theorem q_mulw {t yt : TypeId} {k : IntKind} {p q : Nat} (hx : ev m x = some (.int k (p : Int))) (hy : ev m y = some (.int k (q : Int))) (hk : k.signed = false) :
    QF P n S ⟨d, .binOp .mul t x y yt, ty, pos, af, g⟩ m (.int k (((p * q) % mdl k : Nat) : Int)) := by
  refine q_int hx hy fun w => ?_
  have := wrap_mod hk (p * q)
  simp [binOp, Op.intArith] at this ⊢
  exact this
theorem q_shr {t yt : TypeId} {k k' : IntKind} {p e N : Nat} (hx : ev m x = some (.int k (p : Int))) (hy : ev m y = some (.int k' (e : Int))) (he : e ≤ k.bits) (hN : 2 ^ e = N) :
    QF P n S ⟨d, .binOp .shr t x y yt, ty, pos, af, g⟩ m (.int k ((p / N : Nat) : Int)) := by
  subst hN
  refine q_int hx hy fun w => ?_
  simp only [binOp, Op.shift]
  rw [if_neg (by omega)]
  simp only [Int.toNat_natCast, Nat.min_eq_left he]
  rw [Int.fdiv_eq_ediv_of_nonneg _ (Int.pow_nonneg (by decide))]
  simp
theorem q_shl {t yt : TypeId} {k k' : IntKind} {p e N : Nat} (hx : ev m x = some (.int k (p : Int))) (hy : ev m y = some (.int k' (e : Int))) (he : e ≤ k.bits) (hN : 2 ^ e = N) (h : p * N < lim k) :
    QF P n S ⟨d, .binOp .shl t x y yt, ty, pos, af, g⟩ m (.int k ((p * N : Nat) : Int)) := by
  subst hN
  refine q_int hx hy fun w => ?_
  have := wrap_nat h
  simp only [binOp, Op.shift]
  rw [if_neg (by omega)]
  simp only [Int.toNat_natCast, Nat.min_eq_left he]
  simp at this ⊢
  exact this
theorem q_shlw {t yt : TypeId} {k k' : IntKind} {p e N : Nat} (hx : ev m x = some (.int k (p : Int))) (hy : ev m y = some (.int k' (e : Int))) (he : e ≤ k.bits) (hN : 2 ^ e = N) (hk : k.signed = false) :
    QF P n S ⟨d, .binOp .shl t x y yt, ty, pos, af, g⟩ m (.int k (((p * N) % mdl k : Nat) : Int)) := by
  subst hN
  refine q_int hx hy fun w => ?_
  have := wrap_mod hk (p * 2 ^ e)
  simp only [binOp, Op.shift]
  rw [if_neg (by omega)]
  simp only [Int.toNat_natCast, Nat.min_eq_left he]
  simp at this ⊢
  exact this
theorem q_and {t yt : TypeId} {k : IntKind} {p q : Nat} (hx : ev m x = some (.int k (p : Int))) (hy : ev m y = some (.int k (q : Int))) (hk : k.signed = false) (hp : p < lim k) (hq : q < lim k) :
    QF P n S ⟨d, .binOp .and t x y yt, ty, pos, af, g⟩ m (.int k ((p &&& q : Nat) : Int)) := by
  refine q_int hx hy fun w => ?_
  have := bits_nat .and (· &&& ·) k hk hp hq (.inl ⟨rfl, rfl⟩) P w
  simpa [binOp] using this
theorem q_or {t yt : TypeId} {k : IntKind} {p q : Nat} (hx : ev m x = some (.int k (p : Int))) (hy : ev m y = some (.int k (q : Int))) (hk : k.signed = false) (hp : p < lim k) (hq : q < lim k) :
    QF P n S ⟨d, .binOp .or t x y yt, ty, pos, af, g⟩ m (.int k ((p ||| q : Nat) : Int)) := by
  refine q_int hx hy fun w => ?_
  have := bits_nat .or (· ||| ·) k hk hp hq (.inr (.inl ⟨rfl, rfl⟩)) P w
  simpa [binOp] using this

/-- Comparisons, of numbers: over the integers. -/
def cmpI : BinOp → Int → Int → Bool
  | .eql, p, q => decide (p = q)
  | .neq, p, q => decide (p ≠ q)
  | .lss, p, q => decide (p < q)
  | .leq, p, q => decide (p ≤ q)
  | .gtr, p, q => decide (q < p)
  | .geq, p, q => decide (q ≤ p)
  | _, _, _ => false
def isCmp : BinOp → Bool
  | .eql | .neq | .lss | .leq | .gtr | .geq => true
  | _ => false
theorem q_cmpI {op : BinOp} {t yt : TypeId} {k : IntKind} {p q : Int} (hx : ev m x = some (.int k p)) (hy : ev m y = some (.int k q)) (ho : isCmp op = true) :
    QF P n S ⟨d, .binOp op t x y yt, ty, pos, af, g⟩ m (.bool (cmpI op p q)) := by
  refine q_int hx hy fun w => ?_
  cases op <;> simp [isCmp] at ho <;> simp [binOp, Op.intCmp, cmpI]
  · by_cases h : p = q <;> simp [h]
  · by_cases h : p = q <;> simp [h, bne]
theorem q_eq {t yt : TypeId} {k : IntKind} {p q : Nat} (hx : ev m x = some (.int k (p : Int))) (hy : ev m y = some (.int k (q : Int))) : QF P n S ⟨d, .binOp .eql t x y yt, ty, pos, af, g⟩ m (.bool (decide (p = q))) := by
  have := q_cmpI (P := P) (n := n) (S := S) (d := d) (ty := ty) (pos := pos) (af := af) (g := g) (t := t) (yt := yt) (op := .eql) hx hy rfl
  simpa [cmpI, Int.ofNat_inj] using this
theorem q_ne {t yt : TypeId} {k : IntKind} {p q : Nat} (hx : ev m x = some (.int k (p : Int))) (hy : ev m y = some (.int k (q : Int))) : QF P n S ⟨d, .binOp .neq t x y yt, ty, pos, af, g⟩ m (.bool (decide (p ≠ q))) := by
  have := q_cmpI (P := P) (n := n) (S := S) (d := d) (ty := ty) (pos := pos) (af := af) (g := g) (t := t) (yt := yt) (op := .neq) hx hy rfl
  simpa [cmpI, Int.ofNat_inj] using this
theorem q_lt {t yt : TypeId} {k : IntKind} {p q : Nat} (hx : ev m x = some (.int k (p : Int))) (hy : ev m y = some (.int k (q : Int))) : QF P n S ⟨d, .binOp .lss t x y yt, ty, pos, af, g⟩ m (.bool (decide (p < q))) := by
  have := q_cmpI (P := P) (n := n) (S := S) (d := d) (ty := ty) (pos := pos) (af := af) (g := g) (t := t) (yt := yt) (op := .lss) hx hy rfl
  simpa [cmpI] using this
theorem q_le {t yt : TypeId} {k : IntKind} {p q : Nat} (hx : ev m x = some (.int k (p : Int))) (hy : ev m y = some (.int k (q : Int))) : QF P n S ⟨d, .binOp .leq t x y yt, ty, pos, af, g⟩ m (.bool (decide (p ≤ q))) := by
  have := q_cmpI (P := P) (n := n) (S := S) (d := d) (ty := ty) (pos := pos) (af := af) (g := g) (t := t) (yt := yt) (op := .leq) hx hy rfl
  simpa [cmpI] using this
theorem q_gt {t yt : TypeId} {k : IntKind} {p q : Nat} (hx : ev m x = some (.int k (p : Int))) (hy : ev m y = some (.int k (q : Int))) : QF P n S ⟨d, .binOp .gtr t x y yt, ty, pos, af, g⟩ m (.bool (decide (q < p))) := by
  have := q_cmpI (P := P) (n := n) (S := S) (d := d) (ty := ty) (pos := pos) (af := af) (g := g) (t := t) (yt := yt) (op := .gtr) hx hy rfl
  simpa [cmpI] using this
theorem q_ge {t yt : TypeId} {k : IntKind} {p q : Nat} (hx : ev m x = some (.int k (p : Int))) (hy : ev m y = some (.int k (q : Int))) : QF P n S ⟨d, .binOp .geq t x y yt, ty, pos, af, g⟩ m (.bool (decide (q ≤ p))) := by
  have := q_cmpI (P := P) (n := n) (S := S) (d := d) (ty := ty) (pos := pos) (af := af) (g := g) (t := t) (yt := yt) (op := .geq) hx hy rfl
  simpa [cmpI] using this

/-- Conversions from number to number. -/
theorem q_conv {s t : TypeId} {k k' : IntKind} {p : Int} {sd : TypeDesc} (hx : ev m x = some (.int k p)) (hs : P.underlying s = some sd) (ht : P.underlying t = some (.int k')) :
    QF P n S ⟨d, .convert s t x, ty, pos, af, g⟩ m (.int k' (k'.wrap p)) := by
  refine q_v (fun a => convert s t (a.eval x)) (fun a => rfl) fun a ha w hw => ?_
  rw [ha.ev hx]
  cases sd <;> simp [convert, run_underlying hs, run_underlying ht, Conv.intToInt]
theorem q_convn {s t : TypeId} {k k' : IntKind} {p : Nat} {sd : TypeDesc} (hx : ev m x = some (.int k (p : Int))) (hs : P.underlying s = some sd) (ht : P.underlying t = some (.int k')) (h : p < lim k') :
    QF P n S ⟨d, .convert s t x, ty, pos, af, g⟩ m (.int k' (p : Int)) := by
  have := q_conv (P := P) (n := n) (S := S) (d := d) (ty := ty) (pos := pos) (af := af) (g := g) hx hs ht
  rwa [wrap_nat h] at this
theorem q_convw {s t : TypeId} {k k' : IntKind} {p : Nat} {sd : TypeDesc} (hx : ev m x = some (.int k (p : Int))) (hs : P.underlying s = some sd) (ht : P.underlying t = some (.int k')) (hk : k'.signed = false) :
    QF P n S ⟨d, .convert s t x, ty, pos, af, g⟩ m (.int k' ((p % mdl k' : Nat) : Int)) := by
  have := q_conv (P := P) (n := n) (S := S) (d := d) (ty := ty) (pos := pos) (af := af) (g := g) hx hs ht
  rwa [wrap_mod hk] at this

theorem q_not {t : TypeId} {b : Bool} (hx : ev m x = some (.bool b)) : QF P n S ⟨d, .unOp .not t x, ty, pos, af, g⟩ m (.bool !b) := by
  refine q_v (fun a => Op.unary .not (a.eval x)) (fun a => rfl) fun a ha w hw => ?_
  rw [ha.ev hx]
  rfl
theorem run_eql {t : TypeId} {p q : Value} {r : Bool} {w : World} (hp : ∀ k i, p ≠ .int k i) (hs : ∀ a, p ≠ .string a) (hf : ∀ k b, p ≠ .float k b) (hc : ∀ k a b, p ≠ .complex k a b)
    (h : ∀ e : Nat, (Op.equalIn (e + 1) t p q).run P w = .ok r w) : (binOp .eql t p q).run P w = .ok (.bool r) w ∧ (binOp .neq t p q).run P w = .ok (.bool !r) w := by
  have h' := h 9999
  cases p <;> first
    | exact absurd rfl (hp _ _) | exact absurd rfl (hs _) | exact absurd rfl (hf _ _) | exact absurd rfl (hc _ _ _)
    | (constructor
       · show ((Op.equalIn (9999 + 1) t _ q) >>= fun r => (pure (.bool r) : Sem Value)).run P w = _
         rw [Sem.run_bind, h']; rfl
       · show ((Op.equalIn (9999 + 1) t _ q) >>= fun r => (pure (.bool !r) : Sem Value)).run P w = _
         rw [Sem.run_bind, h']; rfl)

theorem run_equalIn_bool {t : TypeId} (ht : P.underlying t = some .bool) (a b : Bool) (w : World) (e : Nat) : (Op.equalIn (e + 1) t (.bool a) (.bool b)).run P w = .ok (a == b) w := by
  simp [Op.equalIn, run_underlying ht]
theorem run_equalIn_nil {t : TypeId} {ms : Array (String × TypeId)} (ht : P.underlying t = some (.interface ms)) (w : World) (e : Nat) : (Op.equalIn (e + 1) t .nilIface .nilIface).run P w = .ok true w := by
  simp [Op.equalIn, run_underlying ht]
theorem run_equalIn_held {t T : TypeId} {u : Value} {ms : Array (String × TypeId)} (ht : P.underlying t = some (.interface ms)) (w : World) (e : Nat) : (Op.equalIn (e + 1) t (.iface T u) .nilIface).run P w = .ok false w := by
  simp [Op.equalIn, run_underlying ht]
theorem run_equalIn_ptr {t e : TypeId} {A : Addr} (ht : P.underlying t = some (.pointer e)) (w : World) (k : Nat) : (Op.equalIn (k + 1) t (.pointer (some A)) (.pointer none)).run P w = .ok false w := by
  simp [Op.equalIn, run_underlying ht]
theorem run_equalIn_pnil {t e : TypeId} (ht : P.underlying t = some (.pointer e)) (w : World) (k : Nat) : (Op.equalIn (k + 1) t (.pointer none) (.pointer none)).run P w = .ok true w := by
  simp [Op.equalIn, run_underlying ht]

/-- Truths compared. -/
theorem q_eqb {t yt : TypeId} {b b' : Bool} (hx : ev m x = some (.bool b)) (hy : ev m y = some (.bool b')) (ht : P.underlying t = some .bool) : QF P n S ⟨d, .binOp .eql t x y yt, ty, pos, af, g⟩ m (.bool (b == b')) :=
  q_bin hx hy (fun w => rfl) fun w => (run_eql (by simp) (by simp) (by simp) (by simp) (run_equalIn_bool ht b b' w)).1
theorem q_neb {t yt : TypeId} {b b' : Bool} (hx : ev m x = some (.bool b)) (hy : ev m y = some (.bool b')) (ht : P.underlying t = some .bool) : QF P n S ⟨d, .binOp .neq t x y yt, ty, pos, af, g⟩ m (.bool (!(b == b'))) :=
  q_bin hx hy (fun w => rfl) fun w => (run_eql (by simp) (by simp) (by simp) (by simp) (run_equalIn_bool ht b b' w)).2
/-- Texts compared. -/
theorem q_eqs {t yt : TypeId} {a b : ByteArray} (hx : ev m x = some (.string a)) (hy : ev m y = some (.string b)) {r : Bool} (hr : (a.toList == b.toList) = r) : QF P n S ⟨d, .binOp .eql t x y yt, ty, pos, af, g⟩ m (.bool r) :=
  q_bin hx hy (fun w => rfl) fun w => by subst hr; rfl
theorem run_eqGuard_const (op : BinOp) (t : TypeId) (z : Value) (w : World) : (eqGuard op t x (.const z) .nilIface .nilIface).run P w = .ok () w := by
  cases op <;> first | rfl | (cases x <;> rfl)
/-- Is an interface value nil? -/
theorem q_isNil {t yt : TypeId} {z : Value} {ms : Array (String × TypeId)} (hx : ev m x = some .nilIface) (hz : z = .nilIface) (ht : P.underlying t = some (.interface ms)) :
    QF P n S ⟨d, .binOp .eql t x (.const z) yt, ty, pos, af, g⟩ m (.bool true) := by
  subst hz
  exact q_bin hx rfl (run_eqGuard_const _ t _) fun w => (run_eql (by simp) (by simp) (by simp) (by simp) (run_equalIn_nil ht w)).1
theorem q_isNil' {t yt : TypeId} {z : Value} {ms : Array (String × TypeId)} {T : TypeId} {u : Value} (hx : ev m x = some (.iface T u)) (hz : z = .nilIface) (ht : P.underlying t = some (.interface ms)) :
    QF P n S ⟨d, .binOp .eql t x (.const z) yt, ty, pos, af, g⟩ m (.bool false) := by
  subst hz
  exact q_bin hx rfl (fun w => rfl) fun w => (run_eql (by simp) (by simp) (by simp) (by simp) (run_equalIn_held ht w)).1
theorem q_notNil {t yt : TypeId} {z : Value} {ms : Array (String × TypeId)} (hx : ev m x = some .nilIface) (hz : z = .nilIface) (ht : P.underlying t = some (.interface ms)) :
    QF P n S ⟨d, .binOp .neq t x (.const z) yt, ty, pos, af, g⟩ m (.bool false) := by
  subst hz
  exact q_bin hx rfl (run_eqGuard_const _ t _) fun w => (run_eql (by simp) (by simp) (by simp) (by simp) (run_equalIn_nil ht w)).2
theorem q_notNil' {t yt : TypeId} {z : Value} {ms : Array (String × TypeId)} {T : TypeId} {u : Value} (hx : ev m x = some (.iface T u)) (hz : z = .nilIface) (ht : P.underlying t = some (.interface ms)) :
    QF P n S ⟨d, .binOp .neq t x (.const z) yt, ty, pos, af, g⟩ m (.bool true) := by
  subst hz
  exact q_bin hx rfl (fun w => rfl) fun w => (run_eql (by simp) (by simp) (by simp) (by simp) (run_equalIn_held ht w)).2
/-- Is a pointer nil? -/
theorem q_ptrNotNil {t yt e : TypeId} {A : Addr} (hx : ev m x = some (.pointer (some A))) (hy : ev m y = some (.pointer none)) (ht : P.underlying t = some (.pointer e)) : QF P n S ⟨d, .binOp .neq t x y yt, ty, pos, af, g⟩ m (.bool true) :=
  q_bin hx hy (fun w => rfl) fun w => (run_eql (by simp) (by simp) (by simp) (by simp) (run_equalIn_ptr ht w)).2
theorem q_ptrIsNil {t yt e : TypeId} (hx : ev m x = some (.pointer none)) (hy : ev m y = some (.pointer none)) (ht : P.underlying t = some (.pointer e)) : QF P n S ⟨d, .binOp .neq t x y yt, ty, pos, af, g⟩ m (.bool false) :=
  q_bin hx hy (fun w => rfl) fun w => (run_eql (by simp) (by simp) (by simp) (by simp) (run_equalIn_pnil ht w)).2
end
end Go.Proofs.YtfkaafbeeegenaaGreat.Zed
