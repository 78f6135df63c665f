/- Program-free: what stands behind a region is told once. -/
import Derived.Test.YtfkaafbeeegenaaGreatRec
namespace Go.Proofs.YtfkaafbeeegenaaGreat.Zed
set_option linter.unusedVariables false
set_option linter.unusedSimpArgs false
open Go.RowKit

/-- What stands behind the first part of a sequence is told once. -/
theorem HT.seqC {P : Program} {n : Nat} {m : Mp} {D : World → Prop} {Q : Exit → Act → World → Prop} {x y : Code} {ι : Type} (mm : ι → Mp) (DD : ι → World → Prop)
    (hx : HT P x n m D (Exit.then (fun a w => ∃ p, Fr n (mm p) a ∧ DD p w) Q)) (hy : ∀ p, HT P y n (mm p) (DD p) Q) : HT P (.seq x y) n m D Q :=
  HT.seq fun a ha w hw => Go.wp_mono (hx a ha w hw) fun e a' w' h => by
    cases e with
    | normal => obtain ⟨p, hf, hd⟩ := h; exact hy p a' hf w' hd
    | _ => exact h
theorem ecut {n : Nat} {m : Mp} {D : World → Prop} {Q : Exit → Act → World → Prop} {ι : Type} {mm : ι → Mp} {DD : ι → World → Prop} (p : ι) (hm : Sub (mm p) m) (hD : ∀ w, D w → DD p w) : ET .normal n m D (Exit.then (fun a w => ∃ p, Fr n (mm p) a ∧ DD p w) Q) :=
  fun a ha w hw => ⟨p, ha.sub hm, hD w hw⟩
/-- The known blocks in another order, the row behind. -/
theorem St.selT {w0 : World} {M : List Nat} {K K' Kr : List Kb} {B : List Fact} {w : World} (h : St w0 M (K ++ Kr) B w) (sp : List Nat) (hK : selK K sp = K') (hnd : ndB sp = true) : St w0 M (K' ++ Kr) B w := by
  subst hK
  have hm : ∀ k, k ∈ selK K sp ++ Kr → k ∈ K ++ Kr := by
    intro k hk
    rcases List.mem_append.1 hk with hk | hk
    · obtain ⟨i, _, hi⟩ := selK_mem hk
      exact List.mem_append_left _ (List.mem_of_getElem? hi)
    · exact List.mem_append_right _ hk
  refine ⟨h.pres, fun k hk => h.ok k (hm k hk), ?_, fun k hk hr => h.wr k (hm k hk) hr, h.facts, fun φ hφ k hk hr => h.apart φ hφ k (hm k hk) hr⟩
  have hn := h.nd
  rw [List.map_append, List.nodup_append] at hn ⊢
  refine ⟨?_, hn.2.1, fun a ha b hb => ?_⟩
  · have hnd' := ndB_spec hnd
    clear hnd hm
    induction sp with
    | nil => simp [selK]
    | cons i r ih =>
      rw [List.nodup_cons] at hnd'
      unfold selK
      split
      · rename_i y hy
        rw [List.map_cons, List.nodup_cons]
        refine ⟨fun hm => ?_, ih hnd'.2⟩
        obtain ⟨k, hk, hn'⟩ := List.mem_map.1 hm
        obtain ⟨i', hi', hk'⟩ := selK_mem hk
        exact hnd'.1 (nd_inj hn.1 hk' hy hn' ▸ hi')
      · exact ih hnd'.2
  · obtain ⟨k, hk, rfl⟩ := List.mem_map.1 ha
    obtain ⟨i, _, hi⟩ := selK_mem hk
    exact hn.2.2 _ (List.mem_map_of_mem (List.mem_of_getElem? hi)) b hb
end Go.Proofs.YtfkaafbeeegenaaGreat.Zed
