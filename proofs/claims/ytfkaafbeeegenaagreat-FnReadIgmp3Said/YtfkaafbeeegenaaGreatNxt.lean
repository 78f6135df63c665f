/- Program-free: an assertion to an interface; bytes of this call's own that are written. -/
import Derived.Test.YtfkaafbeeegenaaGreatApp
namespace Go.Proofs.YtfkaafbeeegenaaGreat.Zed
set_option linter.unusedVariables false
set_option linter.unusedSimpArgs false
set_option maxRecDepth 100000
open Go.RowKit

section
variable {P : Program} {n : Nat} {S : World → Prop} {m : Mp} {d : Option Tmp} {ty : TypeId} {pos : String} {af : Array Edge} {g : Option (Nat × Bool)} {x y : Operand} {v u : Value}
theorem q_assertI {xt t : TypeId} (hx : ev m x = some u) (hr : ∀ w, (Instr.typeAssert u xt t true).run P w = .ok v w) : QF P n S ⟨d, .typeAssert x xt t true, ty, pos, af, g⟩ m v := by
  refine q_v (fun a => Instr.typeAssert (a.eval x) xt t true) (fun a => rfl) fun a ha w hw => ?_
  rw [ha.ev hx]
  exact hr w
end
/-- The cells of bytes. -/
def cb (bs : List UInt8) : List (Option Value) := bs.map fun b => some (.int .u8 ((b.toNat : Nat) : Int))
def setb (bs : List UInt8) (i v : Nat) : List UInt8 := bs.set i (UInt8.ofNat v)
theorem cb_set (bs : List UInt8) (r : List (Option Value)) (i v : Nat) (hi : i < bs.length) (hv : v < 256) : (cb bs ++ r).set i (some (.int .u8 (v : Int))) = cb (setb bs i v) ++ r := by
  rw [List.set_append_left _ _ (by simpa [cb] using hi)]
  congr 1
  simp only [cb, setb, List.map_set]
  congr 3
  simp
  omega
theorem cb_get (bs : List UInt8) (r : List (Option Value)) (i : Nat) (hi : i < bs.length) : (cb bs ++ r)[i]? = some (some (.int .u8 ((nb bs i : Nat) : Int))) := by
  rw [List.getElem?_append_left (by simpa [cb] using hi)]
  simp [cb, nb, List.getD_eq_getElem?_getD, List.getElem?_eq_getElem hi]
theorem nb_setb (bs : List UInt8) (i v j : Nat) (hi : i < bs.length) (hv : v < 256) : nb (setb bs i v) j = if i = j then v else nb bs j := by
  simp only [nb, setb, List.getD_eq_getElem?_getD, List.getElem?_set]
  by_cases h : i = j
  · subst h
    simp [hi]
    omega
  · simp [h]
theorem setb_length (bs : List UInt8) (i v : Nat) : (setb bs i v).length = bs.length := by simp [setb]
theorem Kb.ok.bytr {k : Kb} {w : World} (h : k.ok w) {bs : List UInt8} {r : List (Option Value)} {n cp : Nat} (hcs : k.cs = cb bs ++ r) (hn : n = bs.length) (hc : n ≤ cp) : (Byt (some ⟨k.num, 0, none⟩) n cp bs).ok w := by
  refine ⟨hn, hc, fun _ => ⟨⟨k.num, 0, none⟩, rfl, h.lt, fun i hi => ?_⟩⟩
  rw [add_mk]
  exact h.cell (by rw [hcs]; exact cb_get bs r i hi)

theorem cb_some (bs : List UInt8) : (bs.map fun b => Value.int .u8 (b.toNat : Int)).map some = cb bs := by simp [cb, List.map_map, Function.comp_def]
theorem cb_length (bs : List UInt8) : (cb bs).length = bs.length := by simp [cb]

section
variable {P : Program} {n : Nat} {m : Mp} {d : Option Tmp} {ty : TypeId} {pos : String} {af : Array Edge} {g : Option (Nat × Bool)} {x y : Operand} {v u : Value}
variable {w0 : World} {M : List Nat} {K : List Kb} {B : List Fact} {Nx : Mp → (World → Prop) → Prop} {t : Nat}
/-- Bytes are copied behind an empty row of this call's own, to a block that is known. -/
theorem l_append1K {s : Operand} {st e j q b : Nat} {A : Option Addr} {k cp : Nat} {bs : List UInt8} (ht : t < n) (hs : ev m s = some (.slice (some ⟨b, 0, none⟩) 0 0)) (hx : ev m x = some (.slice A k cp)) (hst : P.underlying st = some (.slice e)) (he : byteT P e)
    (hq : K[q]? = some ⟨b, e, [], true⟩) (hj : B[j]? = some (Byt A k cp bs)) (hk : k ≤ 140737488355328) (hk0 : 0 < k)
    (h : ∀ i : { p : Nat × Nat × List (Option Value) // k ≤ p.2.1 }, Nx ((t, .slice (some ⟨i.1.1, 0, none⟩) k i.1.2.1) :: m) (St w0 [] [⟨i.1.1, e, cb bs ++ i.1.2.2, true⟩] B)) :
    LF P n ⟨some t, .call ⟨.builtin .append, #[s, x], #[st, st]⟩, ty, pos, af, g⟩ m (St w0 [] K B) Nx := by
  refine l_run (fun a ha w hw => ?_) (by simpa using ht)
  have hbb : w0.heap.size ≤ b := by
    rcases hw.wr _ (List.mem_of_getElem? hq) rfl with h' | h'
    · cases h'
    · exact h'
  have hrow : w.ownsRow w0.heap.size e 1 (.slice (some ⟨b, 0, none⟩) 0 0) 0 [] := by
    obtain ⟨cc, hcc, hfit⟩ := hw.kb hq
    have hc0 : cc = [] := List.eq_nil_of_length_eq_zero (fits_length hfit)
    subst hc0
    exact ⟨rfl, .inr ⟨b, 0, #[], rfl, hbb, hcc, Nat.le_refl _, by simp [maxLen], by simp, by simp⟩⟩
  obtain ⟨i, hi, h1, h2, h3⟩ := he
  obtain ⟨hbl, hbc, hcell⟩ := hw.fact hj
  have hne : bs ≠ [] := by rintro rfl; simp at hbl; omega
  obtain ⟨ad, rfl, hlt, hcc⟩ := hcell hne
  have hm : (maxLen : Nat) = maxLen := rfl
  obtain ⟨v', w', hr, hown, hg, hnil, hat⟩ := run_append_own_at (P := P) w w0.heap.size st ty e i (.int .u8 0) 1 1 hst hi h3 h1 h2 rfl (by decide) _ 0 [] hrow ad k cp (bs.map fun b => .int .u8 (b.toNat : Int)) (by simp [hbl])
    (fun j u hj => by
      have hjl : j < bs.length := by
        have := (List.getElem?_eq_some_iff.1 hj).1
        simpa using this
      rw [hcc j hjl]
      simp [nb, List.getD_eq_getElem?_getD, List.getElem?_eq_getElem hjl] at hj ⊢
      exact hj)
    (fun u hu => by
      obtain ⟨b, _, rfl⟩ := List.mem_map.1 hu
      rfl) (by simp only [maxLen]; omega) (by omega) hw.pres.size
  rw [Nat.zero_add, List.nil_append] at hown
  have hne' : v' ≠ .slice none 0 0 := fun he => by
    have := (hnil.1 he).2
    omega
  obtain ⟨gg, cap, r, rfl, hgok, hl1, hl2, hl3, hl4, hgb⟩ := row_of_own hown hne'
  rw [cb_some] at hgok
  have hp : Pres [b] w w' := ⟨hg.os, hg.tape, hg.output, hg.size, fun i hi hn => hg.block i hi (by
    intro he
    simp [Value.ownBlock] at he
    exact hn (by simp [he]))⟩
  have hgg : gg = b ∨ gg = w.heap.size := by
    rcases hat with h | h
    · left; simpa [Value.ownBlock] using h
    · right; simpa [Value.ownBlock] using h
  refine ⟨.value (.slice (some ⟨gg, 0, none⟩) k cap), w', run_appendOp (ha.ev hs) (ha.ev hx) hr, _, St w0 [] [⟨gg, e, cb bs ++ r, true⟩] B, rfl, ?_, St.closed _ _ _ _, h ⟨(gg, cap, r), hl3⟩⟩
  have hp0 : Pres [] w0 w' := hw.pres.trans hp fun i hi => by
    rw [List.mem_singleton.1 hi]; exact .inr hbb
  refine ⟨hp0, fun y hy => ?_, by simp, fun y hy _ => ?_, fun φ hφ => ?_, fun φ hφ y hy _ hf => ?_⟩
  · rw [List.mem_singleton.1 hy]; exact hgok
  · rw [List.mem_singleton.1 hy]; exact .inr hgb
  · exact φ.pres (hw.facts φ hφ) hp fun i hi => by
      rw [List.mem_singleton.1 hi]
      exact hw.apart φ hφ _ (List.mem_of_getElem? hq) rfl
  · rw [List.mem_singleton.1 hy] at hf
    simp only at hf
    rcases hgg with rfl | rfl
    · exact hw.apart φ hφ _ (List.mem_of_getElem? hq) rfl hf
    · have := φ.inb w (hw.facts φ hφ) _ hf
      omega

theorem q_loadB {S : World → Prop} {t b i j : Nat} {k : Kb} {bs : List UInt8} {r : List (Option Value)} (hx : ev m x = some (.pointer (some ⟨b, i, none⟩))) (ht : nagg P t = true) (hS : ∀ w, S w → St w0 M K B w) (hk : K[j]? = some k) (hb : k.num = b) (hcs : k.cs = cb bs ++ r) (hi : i < bs.length) :
    QF P n S ⟨d, .load t x, ty, pos, af, g⟩ m (.int .u8 ((nb bs i : Nat) : Int)) :=
  q_load hx ht hS hk hb (by rw [hcs]; exact cb_get bs r i hi)
theorem l_storeB {e b i j val : Nat} {k : Kb} {bs : List UInt8} {r : List (Option Value)} {K' : List Kb} (hx : ev m x = some (.pointer (some ⟨b, i, none⟩))) (hy : ev m y = some (.int .u8 ((val : Nat) : Int))) (he : nagg P e = true) (hk : K[j]? = some k) (hb : k.num = b) (hrw : k.rw = true) (hcs : k.cs = cb bs ++ r) (hi : i < bs.length) (hv : val < 256)
    (hK : K.modify j (fun k => { k with cs := cb (setb bs i val) ++ r }) = K') (h : Nx m (St w0 M K' B)) : LF P n ⟨none, .store e x y, ty, pos, af, g⟩ m (St w0 M K B) Nx := by
  refine l_store hx hy he rfl hk hb hrw (by rw [hcs, List.length_append, cb_length]; omega) ?_
  have e1 : setK K j i (.int .u8 ((val : Nat) : Int)) = K' := by
    rw [← hK]
    refine List.ext_getElem? fun q => ?_
    unfold setK
    rw [List.getElem?_modify, List.getElem?_modify]
    by_cases hq : j = q
    · subst hq
      rw [hk]
      show some (if j = j then _ else _) = some (if j = j then _ else _)
      rw [if_pos rfl, if_pos rfl, hcs, cb_set bs r i val hi hv]
    · simp [hq]
  rw [e1]
  exact h
/-- What stands in the clone, as bytes. -/
theorem St.bytr {w : World} (h : St w0 M K B w) {j : Nat} {k : Kb} (hk : K[j]? = some k) {bs : List UInt8} {r : List (Option Value)} {N cp : Nat} (hcs : k.cs = cb bs ++ r) (hn : N = bs.length) (hc : N ≤ cp) : St w [] [] [Byt (some ⟨k.num, 0, none⟩) N cp bs] w :=
  St.start1 (M := []) ((h.kb hk).bytr hcs hn hc)
end
theorem mp_even (bs : List UInt8) (h : 5 ≤ bs.length) : bN (setb bs 2 (nb bs 2 &&& 254)) 0 4 / 256 % 2 = 0 := by
  have e : ∀ x : Nat, x < 256 → x &&& 254 < 256 ∧ (x &&& 254) % 2 = 0 := by decide
  have h2 := e _ (nb_lt bs 2)
  have h3 := nb_lt bs 3
  simp only [bN, Nat.zero_add, Nat.add_zero]
  rw [nb_setb _ _ _ _ (by omega) h2.1, nb_setb _ _ _ _ (by omega) h2.1, nb_setb _ _ _ _ (by omega) h2.1, nb_setb _ _ _ _ (by omega) h2.1]
  simp
  omega
theorem mp_odd (bs : List UInt8) (h : 5 ≤ bs.length) : bN (setb bs 2 (nb bs 2 ||| 1)) 0 4 / 256 % 2 = 1 := by
  have e : ∀ x : Nat, x < 256 → x ||| 1 < 256 ∧ (x ||| 1) % 2 = 1 := by decide
  have h2 := e _ (nb_lt bs 2)
  have h3 := nb_lt bs 3
  simp only [bN, Nat.zero_add, Nat.add_zero]
  rw [nb_setb _ _ _ _ (by omega) h2.1, nb_setb _ _ _ _ (by omega) h2.1, nb_setb _ _ _ _ (by omega) h2.1, nb_setb _ _ _ _ (by omega) h2.1]
  simp
  omega
theorem sn_num (bs : List UInt8) (h : 5 ≤ bs.length) (u v : Nat) (hu : u < 256) (hv : v < 256) : bN (setb (setb bs 3 u) 4 v) 3 2 = u * 256 + v := by
  simp only [bN, Nat.zero_add, Nat.add_zero, Nat.zero_mul]
  rw [nb_setb _ _ _ _ (by rw [setb_length]; omega) hv, nb_setb _ _ _ _ (by rw [setb_length]; omega) hv, nb_setb _ _ _ _ (by omega) hu]
  simp
theorem sn_num2 (bs : List UInt8) (h : 5 ≤ bs.length) (u v : Nat) (hu : u < 256) (hv : v < 256) : bN (setb (setb bs 4 v) 3 u) 3 2 = u * 256 + v := by
  simp only [bN, Nat.zero_add, Nat.add_zero, Nat.zero_mul]
  rw [nb_setb _ _ _ _ (by rw [setb_length]; omega) hu, nb_setb _ _ _ _ (by rw [setb_length]; omega) hu, nb_setb _ _ _ _ (by omega) hv, nb_setb _ _ _ _ (by omega) hv]
  simp
theorem setb_comm (bs : List UInt8) (u v : Nat) : setb (setb bs 4 v) 3 u = setb (setb bs 3 u) 4 v := List.set_comm _ _ (by decide)
end Go.Proofs.YtfkaafbeeegenaaGreat.Zed
