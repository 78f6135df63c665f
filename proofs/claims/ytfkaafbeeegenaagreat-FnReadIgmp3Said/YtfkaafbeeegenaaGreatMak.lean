/- Program-free: rows of bytes that are made, and copied to; a block as a fact. -/
import Derived.Test.YtfkaafbeeegenaaGreatOff
import Derived.Test.YtfkaafbeeegenaaGreatNxt
import Derived.Laws.CopyRow
import Derived.Laws.IdiomCopy
import Derived.Deep.OwnRows
namespace Go.Proofs.YtfkaafbeeegenaaGreat.Zed
set_option linter.unusedVariables false
set_option linter.unusedSimpArgs false
open Go.RowKit

theorem modify_same {K : List Kb} {j : Nat} {k : Kb} {f : Kb → Kb} (hk : K[j]? = some k) (hf : f k = k) : K.modify j f = K := by
  refine List.ext_getElem? fun q => ?_
  rw [List.getElem?_modify]
  by_cases hq : j = q
  · subst hq; simp [hk, hf]
  · simp [hq]
theorem setKs_eq {j : Nat} {post : List (Option Value)} : ∀ (vs : List Value) (mid pre : List (Option Value)) (K : List Kb) (k : Kb), K[j]? = some k → k.cs = pre ++ mid ++ post → mid.length = vs.length → setKs K j pre.length vs = K.modify j (fun k => { k with cs := pre ++ vs.map some ++ post })
  | [], mid, pre, K, k, hk, hcs, hl => by
    have : mid = [] := List.eq_nil_of_length_eq_zero hl
    subst this
    refine (modify_same hk ?_).symm
    simp only [List.append_nil, List.map_nil] at hcs ⊢
    rw [← hcs]
  | v :: vs, [], pre, K, k, hk, hcs, hl => by simp at hl
  | v :: vs, m0 :: mid, pre, K, k, hk, hcs, hl => by
    have h1 : (setK K j pre.length v)[j]? = some { k with cs := (pre ++ [some v]) ++ mid ++ post } := by
      unfold setK
      rw [List.getElem?_modify]
      rw [hk]
      show some (if j = j then _ else _) = some _
      rw [if_pos rfl, hcs]
      congr 2
      simp [List.set_append_right]
    have ih := setKs_eq vs mid (pre ++ [some v]) (setK K j pre.length v) _ h1 rfl (by simpa using hl)
    rw [List.length_append] at ih
    show setKs (setK K j pre.length v) j (pre.length + 1) vs = _
    rw [show pre.length + 1 = pre.length + [some v].length from rfl, ih]
    refine List.ext_getElem? fun q => ?_
    unfold setK
    rw [List.getElem?_modify, List.getElem?_modify, List.getElem?_modify]
    by_cases hq : j = q
    · subst hq; simp [hk]
    · simp [hq]

section
variable {P : Program} {n : Nat} {m : Mp} {d : Option Tmp} {ty : TypeId} {pos : String} {af : Array Edge} {g : Option (Nat × Bool)} {x y : Operand} {v u : Value}
variable {w0 : World} {M : List Nat} {K : List Kb} {B : List Fact} {Nx : Mp → (World → Prop) → Prop} {t : Nat}

theorem l_makeB {st e k : Nat} {kl kc : IntKind} (ht : t < n) (hx : ev m x = some (.int kl ((k : Nat) : Int))) (hy : ev m y = some (.int kc ((k : Nat) : Int))) (hst : P.underlying st = some (.slice e)) (he : byteT P e) (hk : k ≤ 100000)
    (h : ∀ b, Nx ((t, .slice (some ⟨b, 0, none⟩) k k) :: m) (St w0 M (K ++ [⟨b, e, cb (List.replicate k 0) ++ [], true⟩]) B)) : LF P n ⟨some t, .makeSlice st x y, ty, pos, af, g⟩ m (St w0 M K B) Nx := by
  refine l_run (fun a ha w hw => ?_) (by simpa using ht)
  obtain ⟨i, hi, h1, h2, h3⟩ := he
  have hr := Go.run_make_row (P := P) st e i (.int .u8 0) hst hi h3 h1 rfl kl kc k (by rw [h2]; omega) (by omega) w
  have hm : madeCells #[Value.int .u8 0] k = (List.replicate k (Value.int .u8 0)).toArray := by
    apply Array.ext
    · simp [madeCells]
    · intro i h1 h2
      simp [madeCells, Nat.mod_one]
  have hc : (List.replicate k (Value.int .u8 0)).map some = cb (List.replicate k 0) ++ [] := by simp [cb]
  rw [hm] at hr
  refine ⟨.value (.slice (some ⟨w.heap.size, 0, none⟩) k k), w.alloc (.cells (List.replicate k (Value.int .u8 0)).toArray e), ?_, _, St w0 M (K ++ [Kb.mk w.heap.size e (cb (List.replicate k 0) ++ []) true]) B, rfl, ?_, St.closed _ _ _ _, h w.heap.size⟩
  · show (do pure (Next.value (← Instr.makeSlice st (a.eval x) (a.eval y))) : Sem Next).run P w = _
    rw [ha.ev hx, ha.ev hy]
    exact run_v hr
  · rw [← hc]; exact hw.new _ _

/-- Bytes are copied into a known block. -/
theorem run_copyB {dT sT e : Nat} (hst : P.underlying dT = some (.slice e)) (he : byteT P e) {w : World} (hw : St w0 M K B w) {j : Nat} {k : Kb} (hk : K[j]? = some k) (hrw : k.rw = true) {pre mid post : List (Option Value)} (hcs : k.cs = pre ++ mid ++ post)
    {A : Option Addr} {sn sc dc : Nat} {bs : List UInt8} (hb : (Byt A sn sc bs).ok w) (hm : mid.length = sn) :
    ∃ w', (Builtin.copy_ #[dT, sT] ty #[.slice (some ⟨k.num, pre.length, none⟩) sn dc, .slice A sn sc]).run P w = .ok (goInt sn) w' ∧ St w0 M (K.modify j (fun k => { k with cs := pre ++ cb bs ++ post })) B w' := by
  obtain ⟨i, hi, h1, h2, h3⟩ := he
  obtain ⟨hl, hc, hcell⟩ := hb
  have hs1 : (P.info? e).map (·.size) = some 1 := by rw [hi]; simp [h1]
  by_cases h0 : bs = []
  · subst h0
    have hs0 : sn = 0 := by simpa using hl
    subst hs0
    refine ⟨w, run_copy_none (P := P) w dT sT ty e _ A 0 dc 0 sc hst hs1 (by simp), ?_⟩
    have hmid : mid = [] := List.eq_nil_of_length_eq_zero hm
    subst hmid
    rw [modify_same hk (by simp only [cb, List.map_nil]; rw [← hcs])]
    exact hw
  · obtain ⟨ad, rfl, hlt, hcc⟩ := hcell h0
    have hsrc : ∀ j v, (bs.map fun b => Value.int .u8 (b.toNat : Int))[j]? = some v → w.cell? (ad.add j) = some v := by
      intro j u hj
      have hjl : j < bs.length := by
        have := (List.getElem?_eq_some_iff.1 hj).1
        simpa using this
      rw [hcc j hjl]
      simp [nb, List.getD_eq_getElem?_getD, List.getElem?_eq_getElem hjl] at hj ⊢
      exact hj
    have hld := run_loadCells_list (P := P) w ad _ hsrc
    have hlen : (bs.map fun b => Value.int .u8 (b.toNat : Int)).length = sn := by simp [hl]
    obtain ⟨w', hst', hS⟩ := run_storeCells (P := P) (a := ⟨k.num, pre.length, none⟩) (bs.map fun b => Value.int .u8 (b.toNat : Int)) 0 hw hk rfl hrw (by simp [hcs]; omega) (fun v hv => by
      obtain ⟨b, _, rfl⟩ := List.mem_map.1 hv
      rfl)
    refine ⟨w', ?_, ?_⟩
    · rw [hlen] at hld
      simp [Builtin.copy_, run_underlying hst, Builtin.lenOf, Builtin.firstCells, sizeOf, typeInfo, hi, h1, hld, hst']
    · have := setKs_eq (j := j) (post := post) (bs.map fun b => Value.int .u8 (b.toNat : Int)) mid pre K k hk hcs (by rw [hm, hlen])
      rw [cb_some] at this
      rw [← this]
      exact hS
theorem l_copyB {dT sT e sn sc dc q j : Nat} {A : Option Addr} {bs : List UInt8} {k : Kb} {K' : List Kb} (pre mid post : List (Option Value)) {off : Nat} (hx : ev m x = some (.slice (some ⟨k.num, off, none⟩) sn dc)) (hy : ev m y = some (.slice A sn sc)) (hst : P.underlying dT = some (.slice e)) (he : byteT P e)
    (hk : K[j]? = some k) (hrw : k.rw = true) (hcs : k.cs = pre ++ mid ++ post) (ho : pre.length = off) (hm : mid.length = sn) {Bx : List Fact} (hBx : ∀ w, St w0 M K B w → St w0 M K Bx w) (hb : Bx[q]? = some (Byt A sn sc bs)) (hK : K.modify j (fun k => { k with cs := pre ++ cb bs ++ post }) = K')
    {ht : ∀ t ∈ d, t < n} (h : Nx (insM d (.int .i64 ((sn : Nat) : Int)) m) (St w0 M K' B)) : LF P n ⟨d, .call ⟨.builtin .copy, #[x, y], #[dT, sT]⟩, ty, pos, af, g⟩ m (St w0 M K B) Nx := by
  subst ho
  subst hK
  refine l_run (fun a ha w hw => ?_) ht
  obtain ⟨w', hr, hS⟩ := run_copyB (P := P) (ty := ty) (dT := dT) (sT := sT) hst he hw hk hrw hcs ((hBx w hw).fact hb) (dc := dc) hm
  refine ⟨.value (goInt sn), w', ?_, _, St w0 M (K.modify j (fun k => { k with cs := pre ++ cb bs ++ post })) B, rfl, hS, St.closed _ _ _ _, h⟩
  simp [execOp, resolve, invoke, builtin, ha.ev hx, ha.ev hy, hr]
end
end Go.Proofs.YtfkaafbeeegenaaGreat.Zed
