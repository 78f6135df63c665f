/- Program-free: rows of this call's own that grow by append. -/
import Derived.Test.YtfkaafbeeegenaaGreatCut
namespace Go.Proofs.YtfkaafbeeegenaaGreat.Zed
set_option linter.unusedVariables false
set_option linter.unusedSimpArgs false
open Go.RowKit

theorem St.ros {w0 : World} {M : List Nat} {K : List Kb} {B : List Fact} {w : World} (h : St w0 M K B w) (sp : List Nat) {Kc : List Kb} (hK : (selK K sp).map (fun k => (⟨k.num, k.ty, k.cs, false⟩ : Kb)) = Kc) (hnd : ndB sp = true) {bi : List Nat} {Bc : List Fact} (hB : selB B bi = Bc) : St w [] Kc Bc w := by
  have he := h.enter (sp := sp) (bi := bi) rfl hnd hB
  subst hK
  refine ⟨Pres.refl _ _, fun x hx => ?_, ?_, fun x hx hr => ?_, he.facts, fun φ hφ x hx hr => ?_⟩
  · obtain ⟨k, hk, rfl⟩ := List.mem_map.1 hx
    exact (he.ok k hk : k.ok w)
  · rw [List.map_map]
    exact he.nd
  · obtain ⟨k, hk, rfl⟩ := List.mem_map.1 hx; cases hr
  · obtain ⟨k, hk, rfl⟩ := List.mem_map.1 hx; cases hr

theorem RG.step3 {P : Program} {l : List Oper} {n : Nat} {S : World → Prop} {Q : Exit → Act → World → Prop} {m : Mp} {D : World → Prop} {f : Nat} {done : List Nat} (i j k : Nat) (hr : Region.ready .any l.toArray (listedOf l.length done) = [i, j, k])
    (h : OpL P l n S i m D (fun m' D' => RG P l n S Q f (done ++ [i]) m' D')) (h' : OpL P l n S j m D (fun m' D' => RG P l n S Q f (done ++ [j]) m' D')) (h'' : OpL P l n S k m D (fun m' D' => RG P l n S Q f (done ++ [k]) m' D')) : RG P l n S Q (f + 1) done m D :=
  RG.step [i, j, k] hr (by simp) (by
    intro x hx
    simp only [List.mem_cons, List.not_mem_nil, or_false] at hx
    rcases hx with rfl | rfl | rfl
    · exact h
    · exact h'
    · exact h'')

/-- A row that this call owns: n elements of sz cells, xs; the value v; the block, if there is one. -/
def RowS (e sz n : Nat) (xs : List Value) (v : Value) (Kr : List Kb) : Prop :=
  (v = .slice none 0 0 ∧ n = 0 ∧ xs = [] ∧ Kr = []) ∨
  ∃ (g cap : Nat) (r : List (Option Value)), v = .slice (some ⟨g, 0, none⟩) n cap ∧ Kr = [⟨g, e, xs.map some ++ r, true⟩] ∧ xs.length = n * sz ∧ xs.length + r.length = cap * sz ∧ n ≤ cap ∧ cap ≤ maxLen

theorem RowS.nil (e sz : Nat) : RowS e sz 0 [] (.slice none 0 0) [] := .inl ⟨rfl, rfl, rfl, rfl⟩
theorem RowS.len {e sz n : Nat} {xs : List Value} {v : Value} {Kr : List Kb} (h : RowS e sz n xs v Kr) : xs.length = n * sz := by
  rcases h with ⟨_, rfl, rfl, _⟩ | ⟨_, _, _, _, _, h, _⟩
  · simp
  · exact h
theorem RowS.one {e sz n : Nat} {xs : List Value} {v : Value} {Kr : List Kb} (h : RowS e sz n xs v Kr) : v.one1 = true := by
  rcases h with ⟨rfl, _⟩ | ⟨_, _, _, rfl, _⟩ <;> rfl

theorem fits_none : ∀ (l : List Value), fits (List.replicate l.length none) l
  | [] => trivial
  | _ :: l => fits_none l
theorem fits_app : ∀ {a : List (Option Value)} {c : List Value} {b : List (Option Value)} {d : List Value}, fits a c → fits b d → fits (a ++ b) (c ++ d)
  | [], [], _, _, _, h => h
  | none :: a, _ :: c, _, _, h, h' => fits_app (a := a) (c := c) h h'
  | some v :: a, u :: c, _, _, h, h' => ⟨h.1, fits_app (a := a) (c := c) h.2 h'⟩
  | [], _ :: _, _, _, h, _ => h.elim
  | none :: _, [], _, _, h, _ => h.elim
  | some _ :: _, [], _, _, h, _ => h.elim

theorem row_of_own {w : World} {base e sz n : Nat} {v : Value} {xs : List Value} (h : w.ownsRow base e sz v n xs) (hne : v ≠ .slice none 0 0) : ∃ (g cap : Nat) (r : List (Option Value)), v = .slice (some ⟨g, 0, none⟩) n cap ∧ (⟨g, e, xs.map some ++ r, true⟩ : Kb).ok w ∧ xs.length = n * sz ∧ xs.length + r.length = cap * sz ∧ n ≤ cap ∧ cap ≤ maxLen ∧ base ≤ g := by
  obtain ⟨hl, ⟨h1, _⟩ | ⟨g, cap, cur, hv, hb, hh, hnc, hcm, hcs, htk⟩⟩ := h
  · exact absurd h1 hne
  · have hle : n * sz ≤ cap * sz := Nat.mul_le_mul_right _ hnc
    refine ⟨g, cap, List.replicate (cur.toList.drop (n * sz)).length none, hv, ⟨cur.toList, by simpa using hh, ?_⟩, hl, ?_, hnc, hcm, hb⟩
    · have h1 := fits_app (fits_all xs) (fits_none (cur.toList.drop (n * sz)))
      have h2 : xs ++ cur.toList.drop (n * sz) = cur.toList := by rw [← htk]; exact List.take_append_drop _ _
      rw [h2] at h1
      exact h1
    · rw [List.length_replicate, List.length_drop, hl, Array.length_toList, hcs]
      omega

theorem own_of_row {w : World} {e sz g n cap : Nat} {xs : List Value} {r : List (Option Value)} (h : (⟨g, e, xs.map some ++ r, true⟩ : Kb).ok w) (hl : xs.length = n * sz) (hr : xs.length + r.length = cap * sz) (hn : n ≤ cap) (hc : cap ≤ maxLen) :
    w.ownsRow 0 e sz (.slice (some ⟨g, 0, none⟩) n cap) n xs := by
  obtain ⟨c, hcell, hf⟩ := h
  have hlen := fits_length hf
  rw [List.length_append, List.length_map] at hlen
  refine ⟨hl, .inr ⟨g, cap, c.toArray, rfl, Nat.zero_le _, hcell, hn, hc, ?_, ?_⟩⟩
  · rw [List.size_toArray]; omega
  · have : ∀ (xs : List Value) (r : List (Option Value)) (c : List Value), fits (xs.map some ++ r) c → c.take xs.length = xs := by
      intro xs
      induction xs with
      | nil => intros; rfl
      | cons x xs ih =>
        intro r c h
        cases c with
        | nil => exact h.elim
        | cons u c =>
          rw [List.length_cons, List.take_succ_cons, h.1, ih r c h.2]
    rw [← hl]
    exact this xs r c hf

section
variable {P : Program} {n : Nat} {m : Mp} {d : Option Tmp} {ty : TypeId} {pos : String} {af : Array Edge} {g : Option (Nat × Bool)} {x y c : Operand} {v u : Value}
variable {w0 : World} {M : List Nat} {K0 Kr : List Kb} {B : List Fact} {Nx : Mp → (World → Prop) → Prop} {t : Nat}

/-- One element is appended to an owned row. -/
theorem l_appendRow {s : Operand} {st e sz bytes k q jq cq : Nat} {xs news : List Value} {i : TypeInfo} {z : Value} (ht : t < n) (hs : ev m s = some v) (hx : ev m x = some (.slice (some ⟨q, 0, none⟩) 1 cq)) (hst : P.underlying st = some (.slice e))
    (hi : P.info? e = some i) (hz : i.zero = some z) (hsz : i.size = sz) (hby : i.bytes = bytes) (hzs : z.cells.size = sz) (hsz0 : 0 < sz) (hb64 : bytes ≤ 64)
    (hrow : RowS e sz k xs v Kr) (hk : k ≤ 1000000) (hq : K0[jq]? = some ⟨q, e, news.map some, true⟩) (hnl : news.length = sz) (h1 : ∀ u ∈ news, u.one1 = true)
    (h : ∀ v' Kr', RowS e sz (k + 1) (xs ++ news) v' Kr' → Nx ((t, v') :: m) (St w0 M (K0 ++ Kr') B)) :
    LF P n ⟨some t, .call ⟨.builtin .append, #[s, x], #[st, st]⟩, ty, pos, af, g⟩ m (St w0 M (K0 ++ Kr) B) Nx := by
  refine l_run (fun a ha w hw => ?_) (by simpa using ht)
  have hown : w.ownsRow 0 e sz v k xs := by
    rcases hrow with ⟨rfl, rfl, rfl, rfl⟩ | ⟨g, cap, r, rfl, rfl, h1, h2, h3, h4⟩
    · exact World.ownsRow_nil w 0 e sz
    · exact own_of_row (hw.ok _ (List.mem_append_right _ (List.mem_singleton.2 rfl))) h1 h2 h3 h4
  have hqok : (⟨q, e, news.map some, true⟩ : Kb).ok w := hw.ok _ (List.mem_append_left _ (List.mem_of_getElem? hq))
  obtain ⟨v', w', hr, hown', hg, hnil, hat⟩ := run_append_own_at (P := P) w 0 st ty e i z sz bytes hst hi hz hsz hby hzs hsz0 v k xs hown ⟨q, 0, none⟩ 1 cq news (by omega)
    (fun j u hj => by
      obtain ⟨cc, hcell, hf⟩ := hqok
      have := fits_some hf
      subst this
      rw [add_mk]
      unfold World.cell?
      simp [hcell, hj])
    (fun u hu => by
      have := h1 u hu
      cases u <;> first | rfl | cases this)
    (by simp only [maxLen]; omega) (by
      have : (k + 1) * bytes ≤ 1000001 * 64 := Nat.mul_le_mul (by omega) hb64
      omega) (Nat.zero_le _)
  have hne : v' ≠ .slice none 0 0 := fun he => by
    have := (hnil.1 he).2
    omega
  obtain ⟨gg, cap, r, rfl, hgok, hl1, hl2, hl3, hl4, _⟩ := row_of_own hown' hne
  have hKlt : ∀ y ∈ K0, y.num < w.heap.size := fun y hy => (hw.ok y (List.mem_append_left _ hy)).lt
  have hrow' : RowS e sz (k + 1) (xs ++ news) (.slice (some ⟨gg, 0, none⟩) (k + 1) cap) [⟨gg, e, (xs ++ news).map some ++ r, true⟩] := .inr ⟨gg, cap, r, rfl, rfl, hl1, hl2, hl3, hl4⟩
  refine ⟨.value (.slice (some ⟨gg, 0, none⟩) (k + 1) cap), w', run_appendOp (ha.ev hs) (ha.ev hx) hr, _, St w0 M (K0 ++ [⟨gg, e, (xs ++ news).map some ++ r, true⟩]) B, rfl, ?_, St.closed _ _ _ _, h _ _ hrow'⟩
  have hnd : (K0.map Kb.num).Nodup := by
    have := hw.nd
    rw [List.map_append, List.nodup_append] at this
    exact this.1
  rcases hrow with ⟨rfl, rfl, rfl, rfl⟩ | ⟨g0, cap0, r0, rfl, rfl, _⟩
  · -- a new block
    have hp : Pres [] w w' := Pres.of_grown hg
    have hgg : gg = w.heap.size := by
      rcases hat with h | h
      · simp [Value.ownBlock] at h
      · simpa [Value.ownBlock] using h
    rw [List.append_nil] at hw
    have hw' := hw.pres_nil hp
    refine ⟨hw'.pres, fun y hy => ?_, ?_, fun y hy hr' => ?_, hw'.facts, fun φ hφ y hy hr' hf => ?_⟩
    · rcases List.mem_append.1 hy with hy | hy
      · exact hw'.ok y hy
      · rw [List.mem_singleton.1 hy]; exact hgok
    · rw [List.map_append, List.nodup_append]
      refine ⟨hnd, by simp, fun a ha b hb hab => ?_⟩
      obtain ⟨y, hy, rfl⟩ := List.mem_map.1 ha
      have := hKlt y hy
      simp at hb
      omega
    · rcases List.mem_append.1 hy with hy | hy
      · exact hw'.wr y hy hr'
      · rw [List.mem_singleton.1 hy]
        refine .inr ?_
        show w0.heap.size ≤ gg
        rw [hgg]
        exact hw.pres.size
    · rcases List.mem_append.1 hy with hy | hy
      · exact hw'.apart φ hφ y hy hr' hf
      · rw [List.mem_singleton.1 hy] at hf
        have := φ.inb w (hw.facts φ hφ) _ hf
        simp only at this
        omega
  · -- the old block, or a new one
    have hm0 : (⟨g0, e, xs.map some ++ r0, true⟩ : Kb) ∈ K0 ++ [⟨g0, e, xs.map some ++ r0, true⟩] := List.mem_append_right _ (List.mem_singleton.2 rfl)
    have hg0 : g0 < w.heap.size := (hw.ok _ hm0).lt
    have hp : Pres [g0] w w' := ⟨hg.os, hg.tape, hg.output, hg.size, fun i hi hn => hg.block i hi (by
      intro he
      simp [Value.ownBlock] at he
      exact hn (by simp [he]))⟩
    have hgg : gg = g0 ∨ gg = w.heap.size := by
      rcases hat with h | h
      · left; simpa [Value.ownBlock] using h
      · right; simpa [Value.ownBlock] using h
    have hoff : ∀ y ∈ K0, y.num ≠ g0 := by
      intro y hy he
      have := hw.nd
      rw [List.map_append, List.nodup_append] at this
      exact this.2.2 y.num (List.mem_map_of_mem hy) g0 (by simp) he
    have hwr0 := hw.wr _ hm0 rfl
    refine ⟨hw.pres.trans hp (by simpa using hwr0), fun y hy => ?_, ?_, fun y hy hr' => ?_, fun φ hφ => ?_, fun φ hφ y hy hr' hf => ?_⟩
    · rcases List.mem_append.1 hy with hy | hy
      · exact (hw.ok y (List.mem_append_left _ hy)).pres hp (by simpa using hoff y hy)
      · rw [List.mem_singleton.1 hy]; exact hgok
    · rw [List.map_append, List.nodup_append]
      refine ⟨hnd, by simp, fun a ha b hb hab => ?_⟩
      obtain ⟨y, hy, rfl⟩ := List.mem_map.1 ha
      have h1 := hKlt y hy
      have h2 := hoff y hy
      simp at hb
      rcases hgg with h | h <;> omega
    · rcases List.mem_append.1 hy with hy | hy
      · exact hw.wr y (List.mem_append_left _ hy) hr'
      · rw [List.mem_singleton.1 hy]
        show gg ∈ M ∨ w0.heap.size ≤ gg
        rcases hgg with h | h
        · rw [h]; exact hwr0
        · rw [h]; exact .inr hw.pres.size
    · exact φ.pres (hw.facts φ hφ) hp (by simpa using hw.apart φ hφ _ hm0 rfl)
    · rcases List.mem_append.1 hy with hy | hy
      · exact hw.apart φ hφ y (List.mem_append_left _ hy) hr' hf
      · rw [List.mem_singleton.1 hy] at hf
        simp only at hf
        rcases hgg with h | h
        · rw [h] at hf
          exact hw.apart φ hφ _ hm0 rfl hf
        · have := φ.inb w (hw.facts φ hφ) _ hf
          omega

def rowT (P : Program) (e sz : Nat) : Prop := ∃ i z, P.info? e = some i ∧ i.zero = some z ∧ i.size = sz ∧ z.cells.size = sz ∧ i.bytes ≤ 64

theorem l_appendR {s : Operand} {st e sz k q jq cq : Nat} {xs news : List Value} (ht : t < n) (hs : ev m s = some v) (hx : ev m x = some (.slice (some ⟨q, 0, none⟩) 1 cq)) (hst : P.underlying st = some (.slice e))
    (hT : rowT P e sz) (hsz0 : 0 < sz) (hrow : RowS e sz k xs v Kr) (hk : k ≤ 1000000) (hq : K0[jq]? = some ⟨q, e, news.map some, true⟩) (hnl : news.length = sz) (h1 : ∀ u ∈ news, u.one1 = true)
    (h : ∀ v' Kr', RowS e sz (k + 1) (xs ++ news) v' Kr' → Nx ((t, v') :: m) (St w0 M (K0 ++ Kr') B)) :
    LF P n ⟨some t, .call ⟨.builtin .append, #[s, x], #[st, st]⟩, ty, pos, af, g⟩ m (St w0 M (K0 ++ Kr) B) Nx := by
  obtain ⟨i, z, h2, h3, h4, h5, h6⟩ := hT
  exact l_appendRow ht hs hx hst h2 h3 h4 rfl h5 hsz0 h6 hrow hk hq hnl h1 h

/-- One element, appended to nothing. -/
theorem l_appendNil1 {s : Operand} {st e sz q jq cq : Nat} {news : List Value} (ht : t < n) (hs : ev m s = some (.slice none 0 0)) (hx : ev m x = some (.slice (some ⟨q, 0, none⟩) 1 cq)) (hst : P.underlying st = some (.slice e))
    (hT : rowT P e sz) (hsz0 : 0 < sz) (hq : K0[jq]? = some ⟨q, e, news.map some, true⟩) (hnl : news.length = sz) (h1 : ∀ u ∈ news, u.one1 = true)
    (h : ∀ b cap r, 1 ≤ cap → Nx ((t, .slice (some ⟨b, 0, none⟩) 1 cap) :: m) (St w0 M (K0 ++ [⟨b, e, news.map some ++ r, true⟩]) B)) :
    LF P n ⟨some t, .call ⟨.builtin .append, #[s, x], #[st, st]⟩, ty, pos, af, g⟩ m (St w0 M K0 B) Nx := by
  have := l_appendR (n := n) (ty := ty) (pos := pos) (af := af) (g := g) (w0 := w0) (M := M) (K0 := K0) (B := B) (Nx := Nx) ht hs hx hst hT hsz0 (RowS.nil e sz) (by decide) hq hnl h1 (fun v' Kr' hr => by
    rcases hr with ⟨_, h0, _⟩ | ⟨b, cap, r, rfl, rfl, _, _, hc, _⟩
    · exact absurd h0 (by decide)
    · rw [List.nil_append]; exact h b cap r hc)
  rwa [List.append_nil] at this

/-! ### Short names of steps -/
section
variable {P : Program} {ops : Array Oper} {rest : List Oper} {n t : Nat} {Q : Exit → Act → World → Prop} {m : Mp} {w0 : World} {M : List Nat} {K : List Kb} {B : List Fact} {op : Op} {ty : TypeId} {pos : String} {af : Array Edge} {g : Option (Nat × Bool)} {v : Value} {x : Operand}
theorem sqS (hq : QF P n (St w0 M K B) ⟨some t, op, ty, pos, af, none⟩ m v) (hd : Nat.blt t n = true) (h : SL P ops n Q rest ((t, v) :: m) (St w0 M K B)) : SL P ops n Q (⟨some t, op, ty, pos, af, none⟩ :: rest) m (St w0 M K B) := sq (St.closed _ _ _ _) hq hd h
theorem sMv (hx : ev m x = some v) (hd : Nat.blt t n = true) (h : SL P ops n Q rest ((t, v) :: m) (St w0 M K B)) : SL P ops n Q (⟨some t, .move x, ty, pos, af, none⟩ :: rest) m (St w0 M K B) := sq (St.closed _ _ _ _) (q_move hx) hd h
theorem sAs (hx : ev m x = some v) (hd : Nat.blt t n = true) (h : SL P ops n Q rest ((t, v) :: m) (St w0 M K B)) : SL P ops n Q (⟨some t, .assign x, ty, pos, af, none⟩ :: rest) m (St w0 M K B) := sq (St.closed _ _ _ _) (q_assign hx) hd h
theorem sgqS (hb : wantedBy ops ⟨some t, op, ty, pos, af, g⟩ m = some true) (hq : QF P n (St w0 M K B) ⟨some t, op, ty, pos, af, g⟩ m v) (hd : Nat.blt t n = true) (h : SL P ops n Q rest ((t, v) :: m) (St w0 M K B)) : SL P ops n Q (⟨some t, op, ty, pos, af, g⟩ :: rest) m (St w0 M K B) := sgq (St.closed _ _ _ _) hb hq hd h
end
end
end Go.Proofs.YtfkaafbeeegenaaGreat.Zed
