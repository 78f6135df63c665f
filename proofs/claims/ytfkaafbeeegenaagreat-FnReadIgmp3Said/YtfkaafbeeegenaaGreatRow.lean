/- Program-free: a slice of bytes that came in. -/
import Derived.Test.YtfkaafbeeegenaaGreatBit
import Derived.OpenShut
namespace Go.Proofs.YtfkaafbeeegenaaGreat.Zed
set_option linter.unusedSimpArgs false
set_option linter.unusedVariables false
open Go.RowKit

/-- What the walk is told of a slice of integers that came in. -/
def IsRow (k : IntKind) (w : World) (a : Option Addr) (len cap : Nat) (zs : List Int) : Prop :=
  (a = none ∧ len = 0 ∧ cap = 0 ∧ zs = []) ∨
  ∃ x, a = some x ∧ len ≤ cap ∧ cap ≤ maxLen ∧ zs.length = cap ∧ (∀ i, i < zs.length → w.cell? (x.add i) = some (.int k (zs.getD i 0))) ∧ ∀ n ∈ zs, (Lit.int k n).wf = true

theorem byt_of_row {w : World} {a : Option Addr} {len cap : Nat} {zs : List Int} (h : IsRow .u8 w a len cap zs) : ∃ bs, (Byt a len cap bs).ok w := by
  rcases h with ⟨rfl, rfl, rfl, rfl⟩ | ⟨x, rfl, hl, hm, hz, hc, hw⟩
  · exact ⟨[], rfl, Nat.le_refl _, fun h => absurd rfl h⟩
  · refine ⟨(zs.take len).map fun z => UInt8.ofNat z.toNat, ?_, hl, fun hne => ⟨x, rfl, ?_, fun i hi => ?_⟩⟩
    · simp; omega
    · have hlen : 0 < zs.length := by
        rcases Nat.eq_zero_or_pos zs.length with h0 | h0
        · exfalso
          apply hne
          rw [List.eq_nil_of_length_eq_zero h0]
          simp
        · exact h0
      have h0 := hc 0 hlen
      rcases Nat.lt_or_ge x.block w.heap.size with h' | h'
      · exact h'
      · exfalso
        rw [add_zero_] at h0
        unfold World.cell? at h0
        rw [Array.getElem?_eq_none h'] at h0
        simp at h0
    · have hi' : i < len ∧ i < zs.length := by
        rw [List.length_map, List.length_take] at hi
        omega
      have hz' : i < zs.length := hi'.2
      rw [hc i hz']
      have hmem : zs.getD i 0 ∈ zs := by
        rw [List.getD_eq_getElem?_getD, List.getElem?_eq_getElem hz', Option.getD_some]
        exact List.getElem_mem hz'
      have hwf := hw _ hmem
      have e1 : IntKind.u8.min = 0 := rfl
      have e2 : IntKind.u8.max = 255 := rfl
      have hb : 0 ≤ zs.getD i 0 ∧ zs.getD i 0 ≤ 255 := by simpa [Lit.wf, e1, e2] using hwf
      have e3 : nb ((zs.take len).map fun z => UInt8.ofNat z.toNat) i = (zs.getD i 0).toNat := by
        simp only [nb, List.getD_eq_getElem?_getD, List.getElem?_map, List.getElem?_take, if_pos hi'.1, List.getElem?_eq_getElem hz', Option.map_some, Option.getD_some] at hb ⊢
        simp [UInt8.toNat_ofNat]
        omega
      rw [e3]
      congr 2
      omega
end Go.Proofs.YtfkaafbeeegenaaGreat.Zed
