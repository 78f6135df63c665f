/- Program-free: bits of numbers. -/
import Derived.Test.YtfkaafbeeegenaaGreatCel
namespace Go.Proofs.YtfkaafbeeegenaaGreat.Zed
set_option linter.unusedVariables false
set_option linter.unusedSimpArgs false
theorem andm (x k N M : Nat) (hN : 2 ^ k = N) (hM : N - 1 = M) : x &&& M = x % N := by subst hN; subst hM; exact Nat.and_two_pow_sub_one_eq_mod x k
theorem zm1 (x : Nat) : x &&& 1 = x % 2 := andm x 1 2 1 rfl rfl
theorem zm3 (x : Nat) : x &&& 3 = x % 4 := andm x 2 4 3 rfl rfl
theorem zm7 (x : Nat) : x &&& 7 = x % 8 := andm x 3 8 7 rfl rfl
theorem zm15 (x : Nat) : x &&& 15 = x % 16 := andm x 4 16 15 rfl rfl
theorem zm31 (x : Nat) : x &&& 31 = x % 32 := andm x 5 32 31 rfl rfl
theorem zm63 (x : Nat) : x &&& 63 = x % 64 := andm x 6 64 63 rfl rfl
theorem zm127 (x : Nat) : x &&& 127 = x % 128 := andm x 7 128 127 rfl rfl
theorem zm255 (x : Nat) : x &&& 255 = x % 256 := andm x 8 256 255 rfl rfl
theorem zm1023 (x : Nat) : x &&& 1023 = x % 1024 := andm x 10 1024 1023 rfl rfl
theorem zm4095 (x : Nat) : x &&& 4095 = x % 4096 := andm x 12 4096 4095 rfl rfl
theorem zm1048575 (x : Nat) : x &&& 1048575 = x % 1048576 := andm x 20 1048576 1048575 rfl rfl
theorem anddiv (x a k N b : Nat) (hN : 2 ^ k = N) (hb : a / N = b) : (x &&& a) / N = (x / N) &&& b := by
  subst hN; subst hb
  rw [← Nat.shiftRight_eq_div_pow, ← Nat.shiftRight_eq_div_pow, ← Nat.shiftRight_eq_div_pow, Nat.shiftRight_and_distrib]
theorem bt (x k N : Nat) (hN : 2 ^ k = N) : (x &&& N) = x / N % 2 * N := by
  have h1 := anddiv x N k N 1 hN (by subst hN; exact Nat.div_self (Nat.two_pow_pos k))
  have h2 : (x &&& N) % N = 0 := by
    subst hN
    rw [Nat.and_mod_two_pow, Nat.mod_self, Nat.and_zero]
  have h3 : N * ((x &&& N) / N) + (x &&& N) % N = (x &&& N) := Nat.div_add_mod _ _
  rw [h1, h2, zm1, Nat.add_zero, Nat.mul_comm] at h3
  exact h3.symm
theorem btest (x k N : Nat) (hN : 2 ^ k = N) : bitN (decide (x &&& N ≠ 0)) = x / N % 2 := by
  rw [bt x k N hN]
  have h : x / N % 2 < 2 := Nat.mod_lt _ (by decide)
  have hp : N ≠ 0 := by have := Nat.two_pow_pos k; omega
  rcases Nat.lt_or_ge (x / N % 2) 1 with h0 | h0
  · have : x / N % 2 = 0 := by omega
    simp [this, bitN]
  · have : x / N % 2 = 1 := by omega
    simp [this, bitN, hp]
theorem zt1 (x : Nat) : bitN (decide (x &&& 1 ≠ 0)) = x / 1 % 2 := btest x 0 1 rfl
theorem zb1 (x : Nat) : (x &&& 1) = x / 1 % 2 * 1 := bt x 0 1 rfl
theorem zt2 (x : Nat) : bitN (decide (x &&& 2 ≠ 0)) = x / 2 % 2 := btest x 1 2 rfl
theorem zb2 (x : Nat) : (x &&& 2) = x / 2 % 2 * 2 := bt x 1 2 rfl
theorem zt4 (x : Nat) : bitN (decide (x &&& 4 ≠ 0)) = x / 4 % 2 := btest x 2 4 rfl
theorem zb4 (x : Nat) : (x &&& 4) = x / 4 % 2 * 4 := bt x 2 4 rfl
theorem zt8 (x : Nat) : bitN (decide (x &&& 8 ≠ 0)) = x / 8 % 2 := btest x 3 8 rfl
theorem zb8 (x : Nat) : (x &&& 8) = x / 8 % 2 * 8 := bt x 3 8 rfl
theorem zt16 (x : Nat) : bitN (decide (x &&& 16 ≠ 0)) = x / 16 % 2 := btest x 4 16 rfl
theorem zb16 (x : Nat) : (x &&& 16) = x / 16 % 2 * 16 := bt x 4 16 rfl
theorem zt32 (x : Nat) : bitN (decide (x &&& 32 ≠ 0)) = x / 32 % 2 := btest x 5 32 rfl
theorem zb32 (x : Nat) : (x &&& 32) = x / 32 % 2 * 32 := bt x 5 32 rfl
theorem zt64 (x : Nat) : bitN (decide (x &&& 64 ≠ 0)) = x / 64 % 2 := btest x 6 64 rfl
theorem zb64 (x : Nat) : (x &&& 64) = x / 64 % 2 * 64 := bt x 6 64 rfl
theorem zt128 (x : Nat) : bitN (decide (x &&& 128 ≠ 0)) = x / 128 % 2 := btest x 7 128 rfl
theorem zb128 (x : Nat) : (x &&& 128) = x / 128 % 2 * 128 := bt x 7 128 rfl
theorem zt256 (x : Nat) : bitN (decide (x &&& 256 ≠ 0)) = x / 256 % 2 := btest x 8 256 rfl
theorem zb256 (x : Nat) : (x &&& 256) = x / 256 % 2 * 256 := bt x 8 256 rfl
theorem zt512 (x : Nat) : bitN (decide (x &&& 512 ≠ 0)) = x / 512 % 2 := btest x 9 512 rfl
theorem zb512 (x : Nat) : (x &&& 512) = x / 512 % 2 * 512 := bt x 9 512 rfl
theorem zt1024 (x : Nat) : bitN (decide (x &&& 1024 ≠ 0)) = x / 1024 % 2 := btest x 10 1024 rfl
theorem zb1024 (x : Nat) : (x &&& 1024) = x / 1024 % 2 * 1024 := bt x 10 1024 rfl
theorem zt2048 (x : Nat) : bitN (decide (x &&& 2048 ≠ 0)) = x / 2048 % 2 := btest x 11 2048 rfl
theorem zb2048 (x : Nat) : (x &&& 2048) = x / 2048 % 2 * 2048 := bt x 11 2048 rfl
theorem zt4096 (x : Nat) : bitN (decide (x &&& 4096 ≠ 0)) = x / 4096 % 2 := btest x 12 4096 rfl
theorem zb4096 (x : Nat) : (x &&& 4096) = x / 4096 % 2 * 4096 := bt x 12 4096 rfl
theorem zt8192 (x : Nat) : bitN (decide (x &&& 8192 ≠ 0)) = x / 8192 % 2 := btest x 13 8192 rfl
theorem zb8192 (x : Nat) : (x &&& 8192) = x / 8192 % 2 * 8192 := bt x 13 8192 rfl
theorem zd224 (x : Nat) : (x &&& 224) / 32 = (x / 32) &&& 7 := anddiv x 224 5 32 7 rfl rfl
theorem zd240 (x : Nat) : (x &&& 240) / 16 = (x / 16) &&& 15 := anddiv x 240 4 16 15 rfl rfl
theorem zd192 (x : Nat) : (x &&& 192) / 64 = (x / 64) &&& 3 := anddiv x 192 6 64 3 rfl rfl
theorem zd24 (x : Nat) : (x &&& 24) / 8 = (x / 8) &&& 3 := anddiv x 24 3 8 3 rfl rfl
theorem zd56 (x : Nat) : (x &&& 56) / 8 = (x / 8) &&& 7 := anddiv x 56 3 8 7 rfl rfl
theorem zd65520 (x : Nat) : (x &&& 65520) / 16 = (x / 16) &&& 4095 := anddiv x 65520 4 16 4095 rfl rfl
theorem zd4 (x : Nat) : (x &&& 4) / 4 = (x / 4) &&& 1 := anddiv x 4 2 4 1 rfl rfl
theorem zd8 (x : Nat) : (x &&& 8) / 8 = (x / 8) &&& 1 := anddiv x 8 3 8 1 rfl rfl
theorem zd48 (x : Nat) : (x &&& 48) / 16 = (x / 16) &&& 3 := anddiv x 48 4 16 3 rfl rfl
theorem zd112 (x : Nat) : (x &&& 112) / 16 = (x / 16) &&& 7 := anddiv x 112 4 16 7 rfl rfl
theorem sl_nil {bs : List UInt8} {lo hi : Nat} (h : hi ≤ lo) : sl bs lo hi = [] := by
  unfold sl
  apply List.drop_eq_nil_of_le
  rw [List.length_take]
  omega
theorem bNe2 (r : List UInt8) (i : Nat) : bN r i 2 = nb r i * 256 + nb r (i + 1) := by simp [bN]
theorem bNe4 (r : List UInt8) (i : Nat) : bN r i 4 = nb r i * 16777216 + nb r (i + 1) * 65536 + nb r (i + 2) * 256 + nb r (i + 3) := by
  simp only [bN, Nat.zero_mul, Nat.zero_add, Nat.add_zero]
  omega
theorem wrap88 (p : Nat) (h : p < 256) : IntKind.u8.wrap (IntKind.i8.wrap (p : Int)) = p := by
  simp only [IntKind.wrap, IntKind.bits, IntKind.signed]
  simp
  omega
theorem q_conv88 {P : Program} {n : Nat} {S : World → Prop} {m : Mp} {d : Option Tmp} {ty : TypeId} {pos : String} {af : Array Edge} {g : Option (Nat × Bool)} {x : Operand} {s t : TypeId} {p : Nat} {sd : TypeDesc} (hx : ev m x = some (.int .i8 (IntKind.i8.wrap (p : Int)))) (hs : P.underlying s = some sd) (ht : P.underlying t = some (.int .u8)) (h : p < 256) :
    QF P n S ⟨d, .convert s t x, ty, pos, af, g⟩ m (.int .u8 (p : Int)) := by
  have := q_conv (P := P) (n := n) (S := S) (d := d) (ty := ty) (pos := pos) (af := af) (g := g) hx hs ht
  rwa [wrap88 p h] at this
theorem Kb.ok.byt {k : Kb} {w : World} (h : k.ok w) {bs : List UInt8} (hcs : k.cs = bs.map fun b => some (.int .u8 ((b.toNat : Nat) : Int))) : (Byt (some ⟨k.num, 0, none⟩) bs.length bs.length bs).ok w := by
  refine ⟨rfl, Nat.le_refl _, fun _ => ⟨⟨k.num, 0, none⟩, rfl, h.lt, fun i hi => ?_⟩⟩
  rw [add_mk]
  refine h.cell ?_
  rw [hcs]
  simp [nb, List.getD_eq_getElem?_getD, List.getElem?_eq_getElem hi]
end Go.Proofs.YtfkaafbeeegenaaGreat.Zed
