/- Program-free: cuts of cuts. -/
import Derived.Test.YtfkaafbeeegenaaGreatBit
namespace Go.Proofs.YtfkaafbeeegenaaGreat.Zed
set_option linter.unusedSimpArgs false
set_option linter.unusedVariables false

/-! ### Cuts of cuts -/

theorem St.cutS {w0 : World} {M : List Nat} {K : List Kb} {B : List Fact} {w : World} (h : St w0 M K B w) {j : Nat} {A : Option Addr} {n c a b : Nat} {r : List UInt8} (hj : B[j]? = some (Byt A n c (sl r a b))) {lo hi : Nat} (h1 : lo ≤ hi) (h2 : hi ≤ n) (h3 : a + hi ≤ b) :
    St w0 M K (B ++ [Byt (cutA A c lo) (hi - lo) (c - lo) (sl r (a + lo) (a + hi))]) w := by
  have := h.cut hj h1 h2
  rwa [sl_sl h3] at this
theorem Own.cut2 {w0 w : World} {R : Fact} {M : List Nat} {K : List Kb} {B : List Fact} (h : St w0 M K B w) {j : Nat} {A : Option Addr} {n c : Nat} {bs : List UInt8} (hj : B[j]? = some (Byt A n c bs)) (hR : ∀ i, (Byt A n c bs).fp i → w0.heap.size ≤ i ∨ R.fp i) {lo hi lo' hi' : Nat} (h1 : lo ≤ hi) (h2 : hi ≤ n)
    (h3 : lo' ≤ hi') (h4 : hi' ≤ hi - lo) : Own w0 R (Byt (cutA (cutA A c lo) (c - lo) lo') (hi' - lo') (c - lo - lo') (sl bs (lo + lo') (lo + hi'))) w := by
  have hb := Byt.cut (h.fact hj) h1 h2
  have hb2 := Byt.cut hb h3 h4
  rw [sl_sl (by omega)] at hb2
  refine ⟨hb2, fun i hx => hR i ?_⟩
  have hne := hx.1
  have : (Byt (cutA (cutA A c lo) (c - lo) lo') (hi' - lo') (c - lo - lo') (sl (sl bs lo hi) lo' hi')).fp i := by
    rw [sl_sl (by omega)]
    exact hx
  have h5 := Byt.cut_fp (by rw [sl_sl (by omega)]; exact hne) this (n := hi - lo)
  exact Byt.cut_fp h5.1 h5 (n := n)
end Go.Proofs.YtfkaafbeeegenaaGreat.Zed
