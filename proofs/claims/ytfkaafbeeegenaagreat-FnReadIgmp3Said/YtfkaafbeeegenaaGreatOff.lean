/- Program-free: parts one behind the other, each telling how long it is; their states. -/
import Derived.Test.YtfkaafbeeegenaaGreatPart
namespace Go.Proofs.YtfkaafbeeegenaaGreat.Zed
set_option linter.unusedVariables false
set_option linter.unusedSimpArgs false
open Go.RowKit

/-- Where the i-th part begins, each telling how long it is. -/
def og (sz : Nat → Nat) (p : Nat) : Nat → Nat
  | 0 => p
  | i + 1 => og sz p i + sz (og sz p i)

/-- There is a first place where no part stands. -/
theorem og_end (sz : Nat → Nat) (p : Nat) (go : Nat → Prop) (e : Nat) (h : ∀ i, go i → og sz p i < og sz p (i + 1) ∧ og sz p (i + 1) ≤ e) : ∃ N, (∀ i, i < N → go i) ∧ ¬ go N := by
  refine Classical.byContradiction fun hc => ?_
  have all : ∀ N i, i < N → go i := by
    intro N
    induction N with
    | zero => intro i hi; exact absurd hi (Nat.not_lt_zero i)
    | succ N ih =>
      intro i hi
      rcases Nat.lt_or_ge i N with h' | h'
      · exact ih i h'
      · have : i = N := by omega
        subst this
        exact Classical.byContradiction fun hn => hc ⟨i, ih, hn⟩
  have ge : ∀ i, i ≤ og sz p i := by
    intro i
    induction i with
    | zero => exact Nat.zero_le _
    | succ i ih =>
      have := (h i (all (i + 1) i (Nat.lt_succ_self i))).1
      omega
  have h1 := h e (all (e + 1) e (Nat.lt_succ_self e))
  have h2 := ge e
  omega
theorem og_ge (sz : Nat → Nat) (p : Nat) : ∀ i, p ≤ og sz p i
  | 0 => Nat.le_refl _
  | i + 1 => Nat.le_trans (og_ge sz p i) (Nat.le_add_right _ _)
/-- Up to the N-th place the parts lie within e. -/
theorem og_le {sz : Nat → Nat} {p e N : Nat} (h0 : p ≤ e) (h : ∀ i, i < N → og sz p (i + 1) ≤ e) : ∀ i, i ≤ N → og sz p i ≤ e
  | 0, _ => h0
  | i + 1, hi => h i hi
theorem og_mod {sz : Nat → Nat} {p : Nat} (h0 : p % 4 = 0) (h : ∀ q, sz q % 4 = 0) : ∀ i, og sz p i % 4 = 0
  | 0 => h0
  | i + 1 => by
    have := og_mod h0 h i
    have := h (og sz p i)
    show (og sz p i + sz (og sz p i)) % 4 = 0
    omega
theorem og_many {sz : Nat → Nat} {p e N : Nat} (h : ∀ i, i < N → og sz p i + 4 ≤ og sz p (i + 1) ∧ og sz p (i + 1) ≤ e) : ∀ i, i ≤ N → p + 4 * i ≤ og sz p i
  | 0, _ => Nat.le_refl _
  | i + 1, hi => by
    have h1 := og_many h i (by omega)
    have h2 := h i hi
    omega

/-- The parts so far, and what is left of the bytes. -/
structure PSt (N0 : Nat) (R : Fact) (dat : Nat → List Nat × List UInt8) (off : Nat → Nat) (e : Nat) (bs : List UInt8) (N i : Nat) (Ai : Option Addr) (ci : Nat) (v : Value) (Kr : List Kb) (ps : List (NI × BI)) : Prop where
  le : i ≤ N
  row : RowS 49 2 i (psV ps) v Kr
  tol : Tol (fun x => N0 ≤ x ∨ R.fp x) dat i ps
  sub : ∀ x, (Byt Ai (e - off i) ci (sl bs (off i) e)).fp x → R.fp x
  cap : e - off i ≤ ci

theorem St.partStep {w0 w : World} {M : List Nat} {X Y : List Kb} {Kr : List Kb} {k : Kb} {B : List Fact} {ps : List (NI × BI)} {Ai : Option Addr} {ni ci : Nat} {bi : List UInt8} (h : St w0 M (X ++ (k :: Y) ++ Kr) (B ++ [Byt Ai ni ci bi, psF ps]) w)
    {cnt cap : Nat} {xs : List Nat} {r : List (Option Value)} (hcs : k.cs = (xs.map fun x => Value.int .u64 ((x : Nat) : Int)).map some ++ r) (hl : xs.length = cnt) (hc : cnt ≤ cap) {lo hi sz : Nat} (h1 : lo ≤ hi) (h2 : hi ≤ ni) (h3 : sz ≤ ni) :
    St w0 M (X ++ Kr) (B ++ [Byt (cutA Ai ci sz) (ni - sz) (ci - sz) (sl bi sz ni), psF (ps ++ [(⟨some ⟨k.num, 0, none⟩, cnt, cap, xs⟩, ⟨cutA Ai ci lo, hi - lo, ci - lo, sl bi lo hi⟩)])]) w := by
  have a1 : St w0 M (X ++ [k] ++ (Y ++ Kr)) (B ++ [Byt Ai ni ci bi, psF ps]) w := by
    have e : X ++ [k] ++ (Y ++ Kr) = X ++ (k :: Y) ++ Kr := by simp
    rw [e]; exact h
  have a2 := a1.blkFact (n := cnt) (cp := cap) (sz := 1) (vs := xs.map fun x => Value.int .u64 ((x : Nat) : Int)) hcs (by simpa using hl) hc
  have a3 : St w0 M (X ++ Kr) (B ++ [Byt Ai ni ci bi, psF ps] ++ [Cel (some ⟨k.num, 0, none⟩) cnt cap 1 (xs.map fun x => Value.int .u64 ((x : Nat) : Int))]) w := by
    have e : X ++ (Y ++ Kr) = X ++ Y ++ Kr := by simp
    rw [e] at a2
    exact a2.drop
  have a4 := a3.cut (j := B.length) (A := Ai) (n := ni) (c := ci) (bs := bi) (by simp) h1 h2
  have a5 := a4.cut (j := B.length) (A := Ai) (n := ni) (c := ci) (bs := bi) (by simp) h3 (Nat.le_refl ni)
  have a6 : St w0 M (X ++ Kr) ((B ++ [Byt (cutA Ai ci sz) (ni - sz) (ci - sz) (sl bi sz ni)]) ++ [psF ps] ++ [NI.fact ⟨some ⟨k.num, 0, none⟩, cnt, cap, xs⟩, BI.fact ⟨cutA Ai ci lo, hi - lo, ci - lo, sl bi lo hi⟩]) w := by
    refine a5.factsTo fun φ hφ => ?_
    simp only [List.mem_append, List.mem_cons, List.not_mem_nil, or_false] at hφ ⊢
    rcases hφ with ((h | h) | h) | h | h
    · exact .inl (.inl (.inl (.inl h)))
    · exact .inr h
    · exact .inl (.inl (.inl (.inr (.inr h))))
    · exact .inl (.inl (.inr h))
    · exact .inl (.inr h)
  have a7 := St.psF_snoc (p := (⟨some ⟨k.num, 0, none⟩, cnt, cap, xs⟩, ⟨cutA Ai ci lo, hi - lo, ci - lo, sl bi lo hi⟩)) a6
  rw [List.append_assoc] at a7
  exact a7

theorem PSt.step {w0 w : World} {R : Fact} {dat : Nat → List Nat × List UInt8} {off : Nat → Nat} {e : Nat} {bs : List UInt8} {N i : Nat} {Ai : Option Addr} {ci : Nat} {v v' : Value} {Kr Kr' : List Kb} {ps : List (NI × BI)}
    (h : PSt w0.heap.size R dat off e bs N i Ai ci v Kr ps) {X Y : List Kb} {k : Kb} {B : List Fact} (hst : St w0 [] (X ++ (k :: Y) ++ Kr') (B ++ [Byt Ai (e - off i) ci (sl bs (off i) e), psF ps]) w) (hN : i + 1 ≤ N)
    {cnt cap : Nat} {xs : List Nat} {r : List (Option Value)} {lo hi sz : Nat} (hcs : k.cs = (xs.map fun x => Value.int .u64 ((x : Nat) : Int)).map some ++ r) (hl : xs.length = cnt) (hc : cnt ≤ cap) (hrw : k.rw = true)
    (hrow : RowS 49 2 (i + 1) (psV ps ++ [.slice (some ⟨k.num, 0, none⟩) cnt cap, .slice (cutA Ai ci lo) (hi - lo) (ci - lo)]) v' Kr') (h1 : lo ≤ hi) (h2 : off i + hi ≤ e) (hoff : off (i + 1) = off i + sz) (h3 : off i + sz ≤ e) (hd : (xs, sl bs (off i + lo) (off i + hi)) = dat i) :
    PSt w0.heap.size R dat off e bs N (i + 1) (cutA Ai ci sz) (ci - sz) v' Kr' (ps ++ [(⟨some ⟨k.num, 0, none⟩, cnt, cap, xs⟩, ⟨cutA Ai ci lo, hi - lo, ci - lo, sl bs (off i + lo) (off i + hi)⟩)]) ∧
    St w0 [] (X ++ Kr') (B ++ [Byt (cutA Ai ci sz) (e - off (i + 1)) (ci - sz) (sl bs (off (i + 1)) e), psF (ps ++ [(⟨some ⟨k.num, 0, none⟩, cnt, cap, xs⟩, ⟨cutA Ai ci lo, hi - lo, ci - lo, sl bs (off i + lo) (off i + hi)⟩)])]) w := by
  have hs := hst.partStep hcs hl hc h1 (show hi ≤ e - off i by omega) (show sz ≤ e - off i by omega)
  have e1 : sl (sl bs (off i) e) lo hi = sl bs (off i + lo) (off i + hi) := sl_sl (by omega)
  have e2 : sl (sl bs (off i) e) sz (e - off i) = sl bs (off (i + 1)) e := by
    rw [sl_sl (by omega), hoff]
    congr 1
    omega
  have e3 : e - off i - sz = e - off (i + 1) := by omega
  rw [e1, e2, e3] at hs
  have hcap := h.cap
  refine ⟨⟨hN, ?_, ?_, ?_, by omega⟩, hs⟩
  · rw [psV_snoc]; exact hrow
  · refine h.tol.succ _ hd (fun x hx => ?_) (fun x hx => ?_)
    · obtain ⟨_, ad, ha, rfl⟩ := hx
      obtain rfl := Option.some.inj ha
      rcases hst.wr k (List.mem_append_left _ (List.mem_append_right _ List.mem_cons_self)) hrw with h' | h'
      · cases h'
      · exact .inl h'
    · have hx' : (Byt (cutA Ai ci lo) (hi - lo) (ci - lo) (sl (sl bs (off i) e) lo hi)).fp x := by rw [e1]; exact hx
      exact .inr (h.sub x (Byt.cut_fp hx'.1 hx'))
  · intro x hx
    have hx' : (Byt (cutA Ai ci sz) (e - off i - sz) (ci - sz) (sl (sl bs (off i) e) sz (e - off i))).fp x := by rw [e2, e3]; exact hx
    exact h.sub x (Byt.cut_fp hx'.1 hx')
theorem PSt.nil {N0 : Nat} {R : Fact} {dat : Nat → List Nat × List UInt8} {off : Nat → Nat} {e : Nat} {bs : List UInt8} {N : Nat} {A : Option Addr} {c : Nat} (h : ∀ x, (Byt A (e - off 0) c (sl bs (off 0) e)).fp x → R.fp x) (hc : e - off 0 ≤ c) : PSt N0 R dat off e bs N 0 A c (.slice none 0 0) [] [] :=
  ⟨Nat.zero_le _, RowS.nil 49 2, Tol.nil _ _, h, hc⟩

/-- The parts told so far. -/
structure TSt (N0 : Nat) (dat : Nat → List Nat × List UInt8) (N i : Nat) (v : Value) (Kr : List Kb) (ps : List (NI × BI)) : Prop where
  le : i ≤ N
  row : RowS 49 2 i (psV ps) v Kr
  told : Told N0 dat i ps
theorem TSt.nil {N0 : Nat} {dat : Nat → List Nat × List UInt8} {N : Nat} : TSt N0 dat N 0 (.slice none 0 0) [] [] := ⟨Nat.zero_le _, RowS.nil 49 2, Told.nil _ _⟩
theorem TSt.step {w0 w : World} {dat : Nat → List Nat × List UInt8} {N i : Nat} {v v' : Value} {Kr Kr' : List Kb} {ps : List (NI × BI)} {b : BI}
    (h : TSt w0.heap.size dat N i v Kr ps) {X Y : List Kb} {k : Kb} {B : List Fact} (hst : St w0 [] (X ++ (k :: Y) ++ Kr') (B ++ [psF ps, b.fact]) w) (hN : i + 1 ≤ N)
    {cnt cap : Nat} {xs : List Nat} {r : List (Option Value)} (hcs : k.cs = (xs.map fun x => Value.int .u64 ((x : Nat) : Int)).map some ++ r) (hl : xs.length = cnt) (hc : cnt ≤ cap) (hrw : k.rw = true)
    (hrow : RowS 49 2 (i + 1) (psV ps ++ [.slice (some ⟨k.num, 0, none⟩) cnt cap, b.val]) v' Kr') (hb : ∀ x, b.fact.fp x → w0.heap.size ≤ x) (hd : (xs, b.bs) = dat i) :
    TSt w0.heap.size dat N (i + 1) v' Kr' (ps ++ [(⟨some ⟨k.num, 0, none⟩, cnt, cap, xs⟩, b)]) ∧ St w0 [] (X ++ Kr') (B ++ [psF (ps ++ [(⟨some ⟨k.num, 0, none⟩, cnt, cap, xs⟩, b)])]) w := by
  refine ⟨⟨hN, ?_, ?_⟩, ?_⟩
  · rw [psV_snoc]; exact hrow
  · refine h.told.succ _ hd (fun x hx => ?_) hb
    obtain ⟨_, ad, ha, rfl⟩ := hx
    obtain rfl := Option.some.inj ha
    rcases hst.wr k (List.mem_append_left _ (List.mem_append_right _ List.mem_cons_self)) hrw with h' | h'
    · cases h'
    · exact h'
  · have a1 : St w0 [] (X ++ [k] ++ (Y ++ Kr')) (B ++ [psF ps, b.fact]) w := by
      have e : X ++ [k] ++ (Y ++ Kr') = X ++ (k :: Y) ++ Kr' := by simp
      rw [e]; exact hst
    have a2 := a1.blkFact (n := cnt) (cp := cap) (sz := 1) (vs := xs.map fun x => Value.int .u64 ((x : Nat) : Int)) hcs (by simpa using hl) hc
    have a3 : St w0 [] (X ++ Kr') (B ++ [psF ps, b.fact] ++ [Cel (some ⟨k.num, 0, none⟩) cnt cap 1 (xs.map fun x => Value.int .u64 ((x : Nat) : Int))]) w := by
      have e : X ++ (Y ++ Kr') = X ++ Y ++ Kr' := by simp
      rw [e] at a2
      exact a2.drop
    have a6 : St w0 [] (X ++ Kr') (B ++ [psF ps] ++ [NI.fact ⟨some ⟨k.num, 0, none⟩, cnt, cap, xs⟩, b.fact]) w := by
      refine a3.factsTo fun φ hφ => ?_
      simp only [List.mem_append, List.mem_cons, List.not_mem_nil, or_false] at hφ ⊢
      rcases hφ with (h | h) | h | h
      · exact .inl (.inl h)
      · exact .inl (.inr (.inl h))
      · exact .inr h
      · exact .inl (.inr (.inr h))
    exact St.psF_snoc (p := (⟨some ⟨k.num, 0, none⟩, cnt, cap, xs⟩, b)) a6
theorem slc {A : Option Addr} {n n' c : Nat} (h : n = n') : some (Value.slice A n c) = some (Value.slice A n' c) := by rw [h]
theorem inc {k : IntKind} {n n' : Nat} (h : n = n') : some (Value.int k ((n : Nat) : Int)) = some (Value.int k ((n' : Nat) : Int)) := by rw [h]
theorem boc {p q : Prop} [Decidable p] [Decidable q] (h : p ↔ q) : some (Value.bool (decide p)) = some (Value.bool (decide q)) := by simp [h]
theorem nbc {bs : List UInt8} {k : IntKind} {n n' : Nat} (h : n = n') : some (Value.int k ((nb bs n : Nat) : Int)) = some (Value.int k ((nb bs n' : Nat) : Int)) := by rw [h]
theorem pdt {bs : List UInt8} {xs xs' : List Nat} {lo hi lo' hi' : Nat} (h : xs = xs') (h1 : lo = lo') (h2 : hi = hi') : (xs, sl bs lo hi) = (xs', sl bs lo' hi') := by rw [h, h1, h2]
/-- A round's end, of one world. -/
theorem eround2 {n : Nat} {ι : Type} {mm : ι → Mp} {DD : ι → World → Prop} {μ : ι → Nat} {i : ι} {a : Act} {w : World} {Q : Exit → Act → World → Prop} (j : ι) (hμ : μ j < μ i) (ha : Fr n (mm j) a) (hw : DD j w) :
    Exit.then (fun a w => ∃ j, μ j < μ i ∧ Fr n (mm j) a ∧ DD j w) Q .normal a w := ⟨j, hμ, ha, hw⟩
theorem rowX_len2 (x y : Nat → Value) (k : Nat) : (rowX (fun j => [x j, y j]) k).length = k * 2 := by
  induction k with
  | zero => rfl
  | succ k ih =>
    rw [rowX_succ, List.length_append, ih]
    simp
    omega
theorem rowX_get2 (x y : Nat → Value) (i : Nat) : ∀ k : Nat, i < k → (rowX (fun j => [x j, y j]) k)[i * 2]? = some (x i) ∧ (rowX (fun j => [x j, y j]) k)[i * 2 + 1]? = some (y i)
  | 0, h => absurd h (Nat.not_lt_zero i)
  | k + 1, h => by
    have hl := rowX_len2 x y k
    rw [rowX_succ]
    rcases Nat.lt_or_ge i k with h' | h'
    · have ih := rowX_get2 x y i k h'
      exact ⟨by rw [List.getElem?_append_left (by omega)]; exact ih.1, by rw [List.getElem?_append_left (by omega)]; exact ih.2⟩
    · have : i = k := by omega
      subst this
      refine ⟨?_, ?_⟩
      · rw [List.getElem?_append_right (by omega), hl, Nat.sub_self]
        rfl
      · rw [List.getElem?_append_right (by omega), hl, show i * 2 + 1 - i * 2 = 1 by omega]
        rfl
/-! ### The places of the kinds -/

def tof (bs : List UInt8) (i : Nat) : Nat := og (fun p => 4 * nb bs p) 12 i
theorem tof_succ (bs : List UInt8) (i : Nat) : tof bs (i + 1) = tof bs i + 4 * nb bs (tof bs i) := rfl
theorem tof_ge (bs : List UInt8) (i : Nat) : 12 ≤ tof bs i := og_ge _ _ i
theorem tof_all {bs : List UInt8} {n N : Nat} (h0 : 12 ≤ n) (h : ∀ i, i < N → nb bs (tof bs i - 1) ≠ 0 ∧ tof bs i < n ∧ nb bs (tof bs i) ≠ 0 ∧ tof bs i + 4 * nb bs (tof bs i) ≤ n) : ∀ i, i ≤ N → 12 + 4 * i ≤ tof bs i ∧ tof bs i ≤ n
  | 0, _ => ⟨Nat.le_refl _, h0⟩
  | i + 1, hi => by
    have h1 := h i (by omega)
    have h2 := tof_all h0 h i (by omega)
    have h3 := tof_succ bs i
    omega
theorem tof_allE {bs : List UInt8} {n N : Nat} (h0 : 12 ≤ n) (h : ∀ i, i < N → tof bs i < n ∧ nb bs (tof bs i) ≠ 0 ∧ tof bs i + 4 * nb bs (tof bs i) ≤ n ∧ nb bs (tof bs (i + 1) - 1) ≠ 0) : ∀ i, i ≤ N → 12 + 4 * i ≤ tof bs i ∧ tof bs i ≤ n
  | 0, _ => ⟨Nat.le_refl _, h0⟩
  | i + 1, hi => by
    have h1 := h i (by omega)
    have h2 := tof_allE h0 h i (by omega)
    have h3 := tof_succ bs i
    omega
theorem bocn {bs : List UInt8} {n n' : Nat} (h : n = n') : some (Value.bool (decide (nb bs n ≠ 0))) = some (Value.bool (decide (nb bs n' ≠ 0))) := by rw [h]
def vof (bs : List UInt8) (i : Nat) : Nat := og (fun p => 4 + 4 * (nb bs (p + 3) % 16)) 8 i
theorem vof_succ (bs : List UInt8) (i : Nat) : vof bs (i + 1) = vof bs i + (4 + 4 * (nb bs (vof bs i + 3) % 16)) := rfl
theorem vof_ge (bs : List UInt8) (i : Nat) : 8 ≤ vof bs i := og_ge _ _ i
theorem vof_mod (bs : List UInt8) (i : Nat) : vof bs i % 4 = 0 := og_mod (by decide) (fun q => by omega) i
def rof (bs : List UInt8) (i : Nat) : Nat := og (fun p => 8 + 4 * bN bs (p + 2) 2) 8 i
theorem rof_succ (bs : List UInt8) (i : Nat) : rof bs (i + 1) = rof bs i + (8 + 4 * bN bs (rof bs i + 2) 2) := rfl
theorem rof_ge (bs : List UInt8) (i : Nat) : 8 ≤ rof bs i := og_ge _ _ i

section
variable {P : Program} {n : Nat} {m : Mp} {d : Option Tmp} {ty : TypeId} {pos : String} {af : Array Edge} {g : Option (Nat × Bool)} {x y c : Operand} {v u : Value}
variable {w0 : World} {M : List Nat} {K0 Kr : List Kb} {B : List Fact} {Nx : Mp → (World → Prop) → Prop} {t : Nat}

/-- One element is appended to an owned row. -/
theorem l_appendRow2 {s : Operand} {st e sz bytes k q jq cq : Nat} {xs news : List Value} {i : TypeInfo} {z : Value} (ht : t < n) (hs : ev m s = some v) (hx : ev m x = some (.slice (some ⟨q, 0, none⟩) 1 cq)) (hst : P.underlying st = some (.slice e))
    (hi : P.info? e = some i) (hz : i.zero = some z) (hsz : i.size = sz) (hby : i.bytes = bytes) (hzs : z.cells.size = sz) (hsz0 : 0 < sz) (hb64 : bytes ≤ 64)
    (hrow : RowS e sz k xs v Kr) (hk : k ≤ 2147483647) (hq : K0[jq]? = some ⟨q, e, news.map some, true⟩) (hnl : news.length = sz) (h1 : ∀ u ∈ news, u.one1 = true)
    (h : ∀ v' Kr', RowS e sz (k + 1) (xs ++ news) v' Kr' → Nx ((t, v') :: m) (St w0 M (K0 ++ Kr') B)) :
    LF P n ⟨some t, .call ⟨.builtin .append, #[s, x], #[st, st]⟩, ty, pos, af, g⟩ m (St w0 M (K0 ++ Kr) B) Nx := by
  refine l_run (fun a ha w hw => ?_) (by simpa using ht)
  have hown : w.ownsRow 0 e sz v k xs := by
    rcases hrow with ⟨rfl, rfl, rfl, rfl⟩ | ⟨g, cap, r, rfl, rfl, h1, h2, h3, h4⟩
    · exact World.ownsRow_nil w 0 e sz
    · exact own_of_row (hw.ok _ (List.mem_append_right _ (List.mem_singleton.2 rfl))) h1 h2 h3 h4
  have hqok : (⟨q, e, news.map some, true⟩ : Kb).ok w := hw.ok _ (List.mem_append_left _ (List.mem_of_getElem? hq))
  obtain ⟨v', w', hr, hown', hg, hnil, hat⟩ := run_append_own_at (P := P) w 0 st ty e i z sz bytes hst hi hz hsz hby hzs hsz0 v k xs hown ⟨q, 0, none⟩ 1 cq news (by omega)
    (fun j u hj => by
      obtain ⟨cc, hcell, hf⟩ := hqok
      have := fits_some hf
      subst this
      rw [add_mk]
      unfold World.cell?
      simp [hcell, hj])
    (fun u hu => by
      have := h1 u hu
      cases u <;> first | rfl | cases this)
    (by simp only [maxLen]; omega) (by
      have : (k + 1) * bytes ≤ 2147483648 * 64 := Nat.mul_le_mul (by omega) hb64
      omega) (Nat.zero_le _)
  have hne : v' ≠ .slice none 0 0 := fun he => by
    have := (hnil.1 he).2
    omega
  obtain ⟨gg, cap, r, rfl, hgok, hl1, hl2, hl3, hl4, _⟩ := row_of_own hown' hne
  have hKlt : ∀ y ∈ K0, y.num < w.heap.size := fun y hy => (hw.ok y (List.mem_append_left _ hy)).lt
  have hrow' : RowS e sz (k + 1) (xs ++ news) (.slice (some ⟨gg, 0, none⟩) (k + 1) cap) [⟨gg, e, (xs ++ news).map some ++ r, true⟩] := .inr ⟨gg, cap, r, rfl, rfl, hl1, hl2, hl3, hl4⟩
  refine ⟨.value (.slice (some ⟨gg, 0, none⟩) (k + 1) cap), w', run_appendOp (ha.ev hs) (ha.ev hx) hr, _, St w0 M (K0 ++ [⟨gg, e, (xs ++ news).map some ++ r, true⟩]) B, rfl, ?_, St.closed _ _ _ _, h _ _ hrow'⟩
  have hnd : (K0.map Kb.num).Nodup := by
    have := hw.nd
    rw [List.map_append, List.nodup_append] at this
    exact this.1
  rcases hrow with ⟨rfl, rfl, rfl, rfl⟩ | ⟨g0, cap0, r0, rfl, rfl, _⟩
  · -- a new block
    have hp : Pres [] w w' := Pres.of_grown hg
    have hgg : gg = w.heap.size := by
      rcases hat with h | h
      · simp [Value.ownBlock] at h
      · simpa [Value.ownBlock] using h
    rw [List.append_nil] at hw
    have hw' := hw.pres_nil hp
    refine ⟨hw'.pres, fun y hy => ?_, ?_, fun y hy hr' => ?_, hw'.facts, fun φ hφ y hy hr' hf => ?_⟩
    · rcases List.mem_append.1 hy with hy | hy
      · exact hw'.ok y hy
      · rw [List.mem_singleton.1 hy]; exact hgok
    · rw [List.map_append, List.nodup_append]
      refine ⟨hnd, by simp, fun a ha b hb hab => ?_⟩
      obtain ⟨y, hy, rfl⟩ := List.mem_map.1 ha
      have := hKlt y hy
      simp at hb
      omega
    · rcases List.mem_append.1 hy with hy | hy
      · exact hw'.wr y hy hr'
      · rw [List.mem_singleton.1 hy]
        refine .inr ?_
        show w0.heap.size ≤ gg
        rw [hgg]
        exact hw.pres.size
    · rcases List.mem_append.1 hy with hy | hy
      · exact hw'.apart φ hφ y hy hr' hf
      · rw [List.mem_singleton.1 hy] at hf
        have := φ.inb w (hw.facts φ hφ) _ hf
        simp only at this
        omega
  · -- the old block, or a new one
    have hm0 : (⟨g0, e, xs.map some ++ r0, true⟩ : Kb) ∈ K0 ++ [⟨g0, e, xs.map some ++ r0, true⟩] := List.mem_append_right _ (List.mem_singleton.2 rfl)
    have hg0 : g0 < w.heap.size := (hw.ok _ hm0).lt
    have hp : Pres [g0] w w' := ⟨hg.os, hg.tape, hg.output, hg.size, fun i hi hn => hg.block i hi (by
      intro he
      simp [Value.ownBlock] at he
      exact hn (by simp [he]))⟩
    have hgg : gg = g0 ∨ gg = w.heap.size := by
      rcases hat with h | h
      · left; simpa [Value.ownBlock] using h
      · right; simpa [Value.ownBlock] using h
    have hoff : ∀ y ∈ K0, y.num ≠ g0 := by
      intro y hy he
      have := hw.nd
      rw [List.map_append, List.nodup_append] at this
      exact this.2.2 y.num (List.mem_map_of_mem hy) g0 (by simp) he
    have hwr0 := hw.wr _ hm0 rfl
    refine ⟨hw.pres.trans hp (by simpa using hwr0), fun y hy => ?_, ?_, fun y hy hr' => ?_, fun φ hφ => ?_, fun φ hφ y hy hr' hf => ?_⟩
    · rcases List.mem_append.1 hy with hy | hy
      · exact (hw.ok y (List.mem_append_left _ hy)).pres hp (by simpa using hoff y hy)
      · rw [List.mem_singleton.1 hy]; exact hgok
    · rw [List.map_append, List.nodup_append]
      refine ⟨hnd, by simp, fun a ha b hb hab => ?_⟩
      obtain ⟨y, hy, rfl⟩ := List.mem_map.1 ha
      have h1 := hKlt y hy
      have h2 := hoff y hy
      simp at hb
      rcases hgg with h | h <;> omega
    · rcases List.mem_append.1 hy with hy | hy
      · exact hw.wr y (List.mem_append_left _ hy) hr'
      · rw [List.mem_singleton.1 hy]
        show gg ∈ M ∨ w0.heap.size ≤ gg
        rcases hgg with h | h
        · rw [h]; exact hwr0
        · rw [h]; exact .inr hw.pres.size
    · exact φ.pres (hw.facts φ hφ) hp (by simpa using hw.apart φ hφ _ hm0 rfl)
    · rcases List.mem_append.1 hy with hy | hy
      · exact hw.apart φ hφ y (List.mem_append_left _ hy) hr' hf
      · rw [List.mem_singleton.1 hy] at hf
        simp only at hf
        rcases hgg with h | h
        · rw [h] at hf
          exact hw.apart φ hφ _ hm0 rfl hf
        · have := φ.inb w (hw.facts φ hφ) _ hf
          omega

theorem l_appendR2 {s : Operand} {st e sz k q jq cq : Nat} {xs news : List Value} (ht : t < n) (hs : ev m s = some v) (hx : ev m x = some (.slice (some ⟨q, 0, none⟩) 1 cq)) (hst : P.underlying st = some (.slice e))
    (hT : rowT P e sz) (hsz0 : 0 < sz) (hrow : RowS e sz k xs v Kr) (hk : k ≤ 2147483647) (hq : K0[jq]? = some ⟨q, e, news.map some, true⟩) (hnl : news.length = sz) (h1 : ∀ u ∈ news, u.one1 = true)
    (h : ∀ v' Kr', RowS e sz (k + 1) (xs ++ news) v' Kr' → Nx ((t, v') :: m) (St w0 M (K0 ++ Kr') B)) :
    LF P n ⟨some t, .call ⟨.builtin .append, #[s, x], #[st, st]⟩, ty, pos, af, g⟩ m (St w0 M (K0 ++ Kr) B) Nx := by
  obtain ⟨i, z, h2, h3, h4, h5, h6⟩ := hT
  exact l_appendRow2 ht hs hx hst h2 h3 h4 rfl h5 hsz0 h6 hrow hk hq hnl h1 h

end
end Go.Proofs.YtfkaafbeeegenaaGreat.Zed
