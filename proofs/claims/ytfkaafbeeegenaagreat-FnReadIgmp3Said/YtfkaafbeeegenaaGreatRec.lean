/- Program-free: rows of bytes that grow; rows of records, each with a row of its own. -/
import Derived.Test.YtfkaafbeeegenaaGreatGen
namespace Go.Proofs.YtfkaafbeeegenaaGreat.Zed
set_option linter.unusedVariables false
set_option linter.unusedSimpArgs false
open Go.RowKit

def bv (bs : List UInt8) : List Value := bs.map fun b => .int .u8 (b.toNat : Int)
theorem bv_append (a b : List UInt8) : bv a ++ bv b = bv (a ++ b) := by simp [bv]
theorem sl_append {bs : List UInt8} {a b c : Nat} (h1 : a ≤ b) (h2 : b ≤ c) (h3 : b ≤ bs.length) : sl bs a b ++ sl bs b c = sl bs a c := by
  have e : bs.take c = bs.take b ++ (bs.drop b).take (c - b) := by
    have : c = b + (c - b) := by omega
    rw [this, List.take_add]
    congr 2
    omega
  simp only [sl]
  rw [e, List.drop_append_of_le_length (l₂ := (bs.drop b).take (c - b)) (i := a) (by simp; omega)]
  congr 1
  have e1 : (bs.take b).length = b := by simp [Nat.min_eq_left h3]
  have e2 : (bs.take b ++ (bs.drop b).take (c - b)).drop b = (bs.drop b).take (c - b) := by
    conv => lhs; arg 1; rw [← e1]
    exact List.drop_left
  exact e2

section
variable {P : Program} {n : Nat} {m : Mp} {d : Option Tmp} {ty : TypeId} {pos : String} {af : Array Edge} {g : Option (Nat × Bool)} {x y c : Operand} {v u : Value}
variable {w0 : World} {M : List Nat} {K0 Kr : List Kb} {B : List Fact} {Nx : Mp → (World → Prop) → Prop} {t : Nat}

theorem append_tx {t tx e e' : Nat} (ht : P.underlying t = some (.slice e)) (htx : P.underlying tx = some (.slice e')) (A : Option Addr) (n c : Nat) (B : Option Addr) (n' c' : Nat) (w : World) : (Builtin.append_ #[t, tx] ty #[.slice A n c, .slice B n' c']).run P w = (Builtin.append_ #[t, t] ty #[.slice A n c, .slice B n' c']).run P w := by
  cases hi : P.info? e with
  | none => simp [Builtin.append_, run_underlying ht, run_underlying htx, sizeOf, typeInfo, hi]
  | some i => simp [Builtin.append_, run_underlying ht, run_underlying htx, sizeOf, typeInfo, hi]
theorem run_appendOpX {s x : Operand} {st tx : Nat} {v u r : Value} {w w' : World} {a : Act} (hs : a.eval s = v) (hx : a.eval x = u) (hr : (Builtin.append_ #[st, tx] ty #[v, u]).run P w = .ok r w') :
    (execOp a.eval ⟨d, .call ⟨.builtin .append, #[s, x], #[st, tx]⟩, ty, pos, af, g⟩).run P w = .ok (.value r) w' := by
  simp [execOp, resolve, invoke, builtin, hs, hx, hr]
/-- Bytes are appended to an owned row of bytes. -/
theorem l_appendBy {s : Operand} {st tx e e' k mm q cq : Nat} {xs : List Value} {A : Option Addr} {bs : List UInt8} (ht : t < n) (hs : ev m s = some v) (hx : ev m x = some (.slice A mm cq)) (hst : P.underlying st = some (.slice e)) (htx : P.underlying tx = some (.slice e')) (he : byteT P e)
    (hrow : RowS e 1 k xs v Kr) (hk : k ≤ 1000000) (hm0 : 0 < mm) (hm1 : mm ≤ 1000000) {Bx : List Fact} (hBx : ∀ w, St w0 M (K0 ++ Kr) B w → St w0 M (K0 ++ Kr) Bx w) (hb : Bx[q]? = some (Byt A mm cq bs))
    (h : ∀ v' Kr', RowS e 1 (k + mm) (xs ++ bv bs) v' Kr' → Nx ((t, v') :: m) (St w0 M (K0 ++ Kr') B)) :
    LF P n ⟨some t, .call ⟨.builtin .append, #[s, x], #[st, tx]⟩, ty, pos, af, g⟩ m (St w0 M (K0 ++ Kr) B) Nx := by
  refine l_run (fun a ha w hw => ?_) (by simpa using ht)
  have hown : w.ownsRow 0 e 1 v k xs := by
    rcases hrow with ⟨rfl, rfl, rfl, rfl⟩ | ⟨g, cap, r, rfl, rfl, h1, h2, h3, h4⟩
    · exact World.ownsRow_nil w 0 e 1
    · exact own_of_row (hw.ok _ (List.mem_append_right _ (List.mem_singleton.2 rfl))) h1 h2 h3 h4
  have hxt : ∀ w, (Builtin.append_ #[st, tx] ty #[v, .slice A mm cq]).run P w = (Builtin.append_ #[st, st] ty #[v, .slice A mm cq]).run P w := by
    intro w
    obtain ⟨A1, c1, hv⟩ := hrow.val
    rw [hv]
    exact append_tx hst htx _ _ _ _ _ _ w
  obtain ⟨i, hi, h1', h2', h3'⟩ := he
  obtain ⟨hbl, hbc, hcell⟩ := (hBx w hw).fact hb
  have hne : bs ≠ [] := by rintro rfl; simp at hbl; omega
  obtain ⟨ad, rfl, hlt, hcc⟩ := hcell hne
  obtain ⟨v', w', hr, hown', hg, hnil, hat⟩ := run_append_own_at (P := P) w 0 st ty e i (.int .u8 0) 1 1 hst hi h3' h1' h2' rfl (by decide) v k xs hown ad mm cq (bv bs) (by simp [bv, hbl])
    (fun j u hj => by
      have hjl : j < bs.length := by
        have := (List.getElem?_eq_some_iff.1 hj).1
        simpa [bv] using this
      rw [hcc j hjl]
      simp [bv, nb, List.getD_eq_getElem?_getD, List.getElem?_eq_getElem hjl] at hj ⊢
      exact hj)
    (fun u hu => by
      obtain ⟨b, _, rfl⟩ := List.mem_map.1 hu
      rfl) (by simp only [maxLen]; omega) (by omega) (Nat.zero_le _)
  have hne2 : v' ≠ .slice none 0 0 := fun he => by
    have := (hnil.1 he).2
    omega
  obtain ⟨gg, cap, r, rfl, hgok, hl1, hl2, hl3, hl4, _⟩ := row_of_own hown' hne2
  have hKlt : ∀ y ∈ K0, y.num < w.heap.size := fun y hy => (hw.ok y (List.mem_append_left _ hy)).lt
  have hrow' : RowS e 1 (k + mm) (xs ++ bv bs) (.slice (some ⟨gg, 0, none⟩) (k + mm) cap) [⟨gg, e, (xs ++ bv bs).map some ++ r, true⟩] := .inr ⟨gg, cap, r, rfl, rfl, hl1, hl2, hl3, hl4⟩
  refine ⟨.value (.slice (some ⟨gg, 0, none⟩) (k + mm) cap), w', run_appendOpX (ha.ev hs) (ha.ev hx) ((hxt w).trans hr), _, St w0 M (K0 ++ [⟨gg, e, (xs ++ bv bs).map some ++ r, true⟩]) B, rfl, ?_, St.closed _ _ _ _, h _ _ hrow'⟩
  have hnd : (K0.map Kb.num).Nodup := by
    have := hw.nd
    rw [List.map_append, List.nodup_append] at this
    exact this.1
  rcases hrow with ⟨rfl, rfl, rfl, rfl⟩ | ⟨g0, cap0, r0, rfl, rfl, _⟩
  · -- a new block
    have hp : Pres [] w w' := Pres.of_grown hg
    have hgg : gg = w.heap.size := by
      rcases hat with h | h
      · simp [Value.ownBlock] at h
      · simpa [Value.ownBlock] using h
    rw [List.append_nil] at hw
    have hw' := hw.pres_nil hp
    refine ⟨hw'.pres, fun y hy => ?_, ?_, fun y hy hr' => ?_, hw'.facts, fun φ hφ y hy hr' hf => ?_⟩
    · rcases List.mem_append.1 hy with hy | hy
      · exact hw'.ok y hy
      · rw [List.mem_singleton.1 hy]; exact hgok
    · rw [List.map_append, List.nodup_append]
      refine ⟨hnd, by simp, fun a ha b hb hab => ?_⟩
      obtain ⟨y, hy, rfl⟩ := List.mem_map.1 ha
      have := hKlt y hy
      simp at hb
      omega
    · rcases List.mem_append.1 hy with hy | hy
      · exact hw'.wr y hy hr'
      · rw [List.mem_singleton.1 hy]
        refine .inr ?_
        show w0.heap.size ≤ gg
        rw [hgg]
        exact hw.pres.size
    · rcases List.mem_append.1 hy with hy | hy
      · exact hw'.apart φ hφ y hy hr' hf
      · rw [List.mem_singleton.1 hy] at hf
        have := φ.inb w (hw.facts φ hφ) _ hf
        simp only at this
        omega
  · -- the old block, or a new one
    have hm0 : (⟨g0, e, xs.map some ++ r0, true⟩ : Kb) ∈ K0 ++ [⟨g0, e, xs.map some ++ r0, true⟩] := List.mem_append_right _ (List.mem_singleton.2 rfl)
    have hg0 : g0 < w.heap.size := (hw.ok _ hm0).lt
    have hp : Pres [g0] w w' := ⟨hg.os, hg.tape, hg.output, hg.size, fun i hi hn => hg.block i hi (by
      intro he
      simp [Value.ownBlock] at he
      exact hn (by simp [he]))⟩
    have hgg : gg = g0 ∨ gg = w.heap.size := by
      rcases hat with h | h
      · left; simpa [Value.ownBlock] using h
      · right; simpa [Value.ownBlock] using h
    have hoff : ∀ y ∈ K0, y.num ≠ g0 := by
      intro y hy he
      have := hw.nd
      rw [List.map_append, List.nodup_append] at this
      exact this.2.2 y.num (List.mem_map_of_mem hy) g0 (by simp) he
    have hwr0 := hw.wr _ hm0 rfl
    refine ⟨hw.pres.trans hp (by simpa using hwr0), fun y hy => ?_, ?_, fun y hy hr' => ?_, fun φ hφ => ?_, fun φ hφ y hy hr' hf => ?_⟩
    · rcases List.mem_append.1 hy with hy | hy
      · exact (hw.ok y (List.mem_append_left _ hy)).pres hp (by simpa using hoff y hy)
      · rw [List.mem_singleton.1 hy]; exact hgok
    · rw [List.map_append, List.nodup_append]
      refine ⟨hnd, by simp, fun a ha b hb hab => ?_⟩
      obtain ⟨y, hy, rfl⟩ := List.mem_map.1 ha
      have h1 := hKlt y hy
      have h2 := hoff y hy
      simp at hb
      rcases hgg with h | h <;> omega
    · rcases List.mem_append.1 hy with hy | hy
      · exact hw.wr y (List.mem_append_left _ hy) hr'
      · rw [List.mem_singleton.1 hy]
        show gg ∈ M ∨ w0.heap.size ≤ gg
        rcases hgg with h | h
        · rw [h]; exact hwr0
        · rw [h]; exact .inr hw.pres.size
    · exact φ.pres (hw.facts φ hφ) hp (by simpa using hw.apart φ hφ _ hm0 rfl)
    · rcases List.mem_append.1 hy with hy | hy
      · exact hw.apart φ hφ y (List.mem_append_left _ hy) hr' hf
      · rw [List.mem_singleton.1 hy] at hf
        simp only at hf
        rcases hgg with h | h
        · rw [h] at hf
          exact hw.apart φ hφ _ hm0 rfl hf
        · have := φ.inb w (hw.facts φ hφ) _ hf
          omega

end
theorem RowS.allrw {e sz n : Nat} {xs : List Value} {v : Value} {Kr : List Kb} (h : RowS e sz n xs v Kr) : (Kr.all fun k => k.rw) = true := by
  rcases h with ⟨_, _, _, rfl⟩ | ⟨_, _, _, _, rfl, _⟩ <;> rfl

/-- A row of bytes is done: from here on it is a fact. -/
theorem HT.rowByt {P : Program} {n : Nat} {m : Mp} {w0 : World} {M : List Nat} {K Kr : List Kb} {B : List Fact} {Q : Exit → Act → World → Prop} {c : Code} {e k : Nat} {bs : List UInt8} {v : Value} (hr : RowS e 1 k (bv bs) v Kr) (hM : ∀ i ∈ M, ∃ y ∈ K, y.num = i)
    (h : ∀ (A : Option Addr) (cp : Nat), v = .slice A k cp → k ≤ cp → (∀ i, (Byt A k cp bs).fp i → w0.heap.size ≤ i) → HT P c n m (St w0 M K (B ++ [Byt A k cp bs])) Q) : HT P c n m (St w0 M (K ++ Kr) B) Q := by
  intro a ha w hw
  obtain ⟨A, cp, hv, hs, hf⟩ := hw.rowFact hr hM
  have hC : (Cel A k cp 1 (bv bs)).ok w := hs.facts _ (List.mem_append_right _ (List.mem_singleton.2 rfl))
  have hne : bs ≠ [] → bv bs ≠ [] := by intro h1 h2; exact h1 (by simpa [bv] using h2)
  have hB : (Byt A k cp bs).ok w := by
    refine ⟨by have := hC.1; simp [bv] at this; omega, hC.2.1, fun h1 => ?_⟩
    obtain ⟨ad, hA, hlt, hcc⟩ := hC.2.2 (hne h1)
    refine ⟨ad, hA, hlt, fun i hi => hcc i _ ?_⟩
    simp [bv, nb, List.getD_eq_getElem?_getD, List.getElem?_eq_getElem hi]
  have hfp : ∀ i, (Byt A k cp bs).fp i → (Cel A k cp 1 (bv bs)).fp i := fun i hi => ⟨hne hi.1, hi.2⟩
  refine h A cp hv hC.2.1 (fun i hi => hf i (hfp i hi)) a ha w ⟨hs.pres, hs.ok, hs.nd, hs.wr, fun φ hφ => ?_, fun φ hφ y hy hrw hi => ?_⟩
  · rcases List.mem_append.1 hφ with hφ | hφ
    · exact hs.facts φ (List.mem_append_left _ hφ)
    · rw [List.mem_singleton.1 hφ]; exact hB
  · rcases List.mem_append.1 hφ with hφ | hφ
    · exact hs.apart φ (List.mem_append_left _ hφ) y hy hrw hi
    · rw [List.mem_singleton.1 hφ] at hi
      exact hs.apart _ (List.mem_append_right _ (List.mem_singleton.2 rfl)) y hy hrw (hfp _ hi)

theorem TSt.step0 {N0 : Nat} {dat : Nat → List Nat × List UInt8} {N i : Nat} {v v' : Value} {Kr Kr' : List Kb} {ps : List (NI × BI)} {b : BI}
    (h : TSt N0 dat N i v Kr ps) (hN : i + 1 ≤ N) (hrow : RowS 49 2 (i + 1) (psV ps ++ [.slice none 0 0, b.val]) v' Kr') (hb : ∀ x, b.fact.fp x → N0 ≤ x) (hd : ([], b.bs) = dat i) : TSt N0 dat N (i + 1) v' Kr' (ps ++ [(ni0, b)]) :=
  ⟨hN, by rw [psV_snoc]; exact hrow, h.told.succ _ hd (fun x hx => absurd rfl hx.1) hb⟩
theorem RowS.castB {e k k' : Nat} {bs' : List UInt8} {xs : List Value} {v : Value} {Kr : List Kb} (h : RowS e 1 k xs v Kr) (h1 : k = k') (h2 : xs = bv bs') : RowS e 1 k' (bv bs') v Kr := by rw [← h1, ← h2]; exact h
theorem bv_step {bs : List UInt8} {a b b' c c' : Nat} (h0 : b' = b) (hc : c = c') (h1 : a ≤ b) (h2 : b ≤ c) (h3 : b ≤ bs.length) : bv (sl bs a b) ++ bv (sl bs b' c) = bv (sl bs a c') := by
  subst h0; subst hc
  rw [bv_append, sl_append h1 h2 h3]
theorem slb {bs : List UInt8} {a b b' : Nat} (h : b = b') : bv (sl bs a b) = bv (sl bs a b') := by rw [h]
theorem St.nilTail {w0 : World} {M : List Nat} {X Kr : List Kb} {B : List Fact} {w : World} (h : St w0 M (X ++ Kr) B w) : St w0 M (X ++ (Kr ++ [])) B w := by rw [List.append_nil]; exact h
/-! ### Records with rows of their own -/

def updG {τ : Type} (f : Nat → τ) (i : Nat) (b : τ) : Nat → τ := fun j => if j = i then b else f j
theorem updG_self {τ : Type} (f : Nat → τ) (i : Nat) (b : τ) : updG f i b i = b := if_pos rfl
theorem updG_lt {τ : Type} (f : Nat → τ) {i j : Nat} (b : τ) (h : j < i) : updG f i b j = f j := if_neg (by omega)
def SF (al : Nat → Option Addr) (ga : Nat → Nat) (cnt : Nat → Nat) (src : Nat → List Value) (i : Nat) : Fact :=
  Fact.all ((List.range i).flatMap fun j => [Cel (al j) (cnt j) (ga j) 1 (src j)])
theorem SF.get {al : Nat → Option Addr} {ga cnt : Nat → Nat} {src : Nat → List Value} {i j : Nat} {w : World} (h : (SF al ga cnt src i).ok w) (hj : j < i) : (Cel (al j) (cnt j) (ga j) 1 (src j)).ok w :=
  h _ (List.mem_flatMap.2 ⟨j, List.mem_range.2 hj, List.mem_cons_self⟩)
theorem SF_succ (al : Nat → Option Addr) (ga cnt : Nat → Nat) (src : Nat → List Value) (i : Nat) (A : Option Addr) (c : Nat) :
    ((List.range (i + 1)).flatMap fun j => [Cel (updG al i A j) (cnt j) (updG ga i c j) 1 (src j)]) = ((List.range i).flatMap fun j => [Cel (al j) (cnt j) (ga j) 1 (src j)]) ++ [Cel A (cnt i) c 1 (src i)] := by
  rw [List.range_succ, List.flatMap_append, flatMap_congr_ (g := fun j => [Cel (al j) (cnt j) (ga j) 1 (src j)])]
  · simp [updG_self]
  · intro j hj
    rw [updG_lt al A (List.mem_range.1 hj), updG_lt ga c (List.mem_range.1 hj)]
theorem recs_succ (f : Nat → Option Addr → Nat → List Value) (al : Nat → Option Addr) (ga : Nat → Nat) (i : Nat) (A : Option Addr) (c : Nat) :
    rowX (fun j => f j (updG al i A j) (updG ga i c j)) (i + 1) = rowX (fun j => f j (al j) (ga j)) i ++ f i A c := by
  rw [rowX_succ]
  congr 1
  · exact flatMap_congr_ fun j hj => by rw [updG_lt al A (List.mem_range.1 hj), updG_lt ga c (List.mem_range.1 hj)]
  · simp [updG_self]
theorem St.sf {w0 : World} {M : List Nat} {K : List Kb} {B : List Fact} {w : World} {al : Nat → Option Addr} {ga cnt : Nat → Nat} {src : Nat → List Value} {i : Nat} {A : Option Addr} {c : Nat}
    (h : St w0 M K (B ++ [SF al ga cnt src i, Cel A (cnt i) c 1 (src i)]) w) : St w0 M K (B ++ [SF (updG al i A) (updG ga i c) cnt src (i + 1)]) w := by
  have hG : SF al ga cnt src i ∈ B ++ [SF al ga cnt src i, Cel A (cnt i) c 1 (src i)] := by simp
  have hC : Cel A (cnt i) c 1 (src i) ∈ B ++ [SF al ga cnt src i, Cel A (cnt i) c 1 (src i)] := by simp
  refine ⟨h.pres, h.ok, h.nd, h.wr, fun ψ hψ => ?_, fun ψ hψ q hq hr hf => ?_⟩
  · rcases List.mem_append.1 hψ with hψ | hψ
    · exact h.facts ψ (List.mem_append_left _ hψ)
    · rw [List.mem_singleton.1 hψ]
      intro χ hχ
      rw [SF_succ] at hχ
      rcases List.mem_append.1 hχ with hχ | hχ
      · exact h.facts _ hG χ hχ
      · rw [List.mem_singleton.1 hχ]; exact h.facts _ hC
  · rcases List.mem_append.1 hψ with hψ | hψ
    · exact h.apart ψ (List.mem_append_left _ hψ) q hq hr hf
    · rw [List.mem_singleton.1 hψ] at hf
      obtain ⟨χ, hχ, hi⟩ := hf
      rw [SF_succ] at hχ
      rcases List.mem_append.1 hχ with hχ | hχ
      · exact h.apart _ hG q hq hr ⟨χ, hχ, hi⟩
      · rw [List.mem_singleton.1 hχ] at hi
        exact h.apart _ hC q hq hr hi
/-- The records so far. -/
structure RSt (N0 e sz : Nat) (f : Nat → Option Addr → Nat → List Value) (cnt : Nat → Nat) (src : Nat → List Value) (N i : Nat) (v : Value) (Kr : List Kb) (al : Nat → Option Addr) (ga : Nat → Nat) : Prop where
  le : i ≤ N
  row : RowS e sz i (rowX (fun j => f j (al j) (ga j)) i) v Kr
  new : ∀ x, (SF al ga cnt src i).fp x → N0 ≤ x
theorem RSt.nil {N0 e sz : Nat} {f : Nat → Option Addr → Nat → List Value} {cnt : Nat → Nat} {src : Nat → List Value} {N : Nat} : RSt N0 e sz f cnt src N 0 (.slice none 0 0) [] (fun _ => none) (fun _ => 0) :=
  ⟨Nat.zero_le _, RowS.nil e sz, fun x h => by obtain ⟨_, hφ, _⟩ := h; cases hφ⟩
theorem RSt.step {N0 e sz : Nat} {f : Nat → Option Addr → Nat → List Value} {cnt : Nat → Nat} {src : Nat → List Value} {N i : Nat} {v v' : Value} {Kr Kr' : List Kb} {al : Nat → Option Addr} {ga : Nat → Nat} {A : Option Addr} {c : Nat}
    (h : RSt N0 e sz f cnt src N i v Kr al ga) (hN : i + 1 ≤ N) (hrow : RowS e sz (i + 1) (rowX (fun j => f j (al j) (ga j)) i ++ f i A c) v' Kr') (hA : ∀ x, (Cel A (cnt i) c 1 (src i)).fp x → N0 ≤ x) :
    RSt N0 e sz f cnt src N (i + 1) v' Kr' (updG al i A) (updG ga i c) := by
  refine ⟨hN, by rw [recs_succ]; exact hrow, fun x hx => ?_⟩
  obtain ⟨χ, hχ, hi⟩ := hx
  rw [SF_succ] at hχ
  rcases List.mem_append.1 hχ with hχ | hχ
  · exact h.new x ⟨χ, hχ, hi⟩
  · rw [List.mem_singleton.1 hχ] at hi; exact hA x hi
theorem SF_zero {w0 : World} {M : List Nat} {K : List Kb} {B : List Fact} {w : World} {al : Nat → Option Addr} {ga cnt : Nat → Nat} {src : Nat → List Value} (h : St w0 M K B w) : St w0 M K (B ++ [SF al ga cnt src 0]) w := h.none_

theorem rowX_lenN {f : Nat → List Value} {sz : Nat} (hf : ∀ q, (f q).length = sz) (k : Nat) : (rowX f k).length = k * sz := by
  induction k with
  | zero => simp [rowX_zero]
  | succ k ih => rw [rowX_succ, List.length_append, ih, hf, Nat.succ_mul]
theorem rowX_getN {f : Nat → List Value} {sz : Nat} (hf : ∀ q, (f q).length = sz) {i j : Nat} (hj : j < sz) : ∀ k, i < k → (rowX f k)[i * sz + j]? = (f i)[j]?
  | 0, h => absurd h (Nat.not_lt_zero i)
  | k + 1, h => by
    have hl := rowX_lenN hf k
    rw [rowX_succ]
    rcases Nat.lt_or_ge i k with h' | h'
    · have : i * sz + j < k * sz := by
        have := Nat.mul_le_mul_right sz (show i + 1 ≤ k from h')
        rw [Nat.succ_mul] at this
        omega
      rw [List.getElem?_append_left (by omega)]
      exact rowX_getN hf hj k h'
    · have : i = k := by omega
      subst this
      rw [List.getElem?_append_right (by omega), hl]
      congr 1
      omega
section
variable {P : Program} {n : Nat} {S : World → Prop} {m : Mp} {d : Option Tmp} {ty : TypeId} {pos : String} {af : Array Edge} {g : Option (Nat × Bool)} {x : Operand}
/-- Cells of a known row, as a struct. -/
theorem q_celAggN {t i len cp sz : Nat} {A : Option Addr} {vs us : List Value} (hx : ev m x = some (.pointer (A.map (·.add i)))) (ht : aggs P t = some us.length) (hS : ∀ w, S w → (Cel A len cp sz vs).ok w) (h0 : 0 < us.length) (h : ∀ j u, us[j]? = some u → vs[i + j]? = some u) :
    QF P n S ⟨d, .load t x, ty, pos, af, g⟩ m (.agg us.toArray) := by
  refine q_v (fun a => Instr.loadAt t (a.eval x)) (fun a => rfl) fun a ha w hw => ?_
  rw [ha.ev hx]
  obtain ⟨u0, hu0⟩ : ∃ u, us[0]? = some u := ⟨us[0], List.getElem?_eq_getElem h0⟩
  obtain ⟨ad, rfl, _⟩ := Cel.get (hS w hw) (h 0 u0 hu0)
  refine run_loadAgg (vs := us) ht fun j v hj => ?_
  obtain ⟨ad', he, hc⟩ := Cel.get (hS w hw) (h j v hj)
  obtain rfl := Option.some.inj he
  rw [add_add_]
  exact hc
end
end Go.Proofs.YtfkaafbeeegenaaGreat.Zed
