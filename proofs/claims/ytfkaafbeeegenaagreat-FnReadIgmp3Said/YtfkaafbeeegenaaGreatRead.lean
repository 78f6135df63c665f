/- laws.read -/
import Derived.Test.YtfkaafbeeegenaaGreatSam
import Derived.Test.YtfkaafbeeegenaaGreatMplsb
import Derived.KernelRfl
namespace Go.Proofs.YtfkaafbeeegenaaGreat.Zed
set_option linter.unusedVariables false
set_option linter.unusedSimpArgs false
set_option maxRecDepth 100000
set_option maxHeartbeats 4000000
theorem ca_27 : callable Tryz.prog 27 = true := by kernel_rfl
theorem ca_26 : callable Tryz.prog 26 = true := by kernel_rfl
theorem ca_29 : callable Tryz.prog 29 = true := by kernel_rfl
theorem ca_28 : callable Tryz.prog 28 = true := by kernel_rfl

theorem numsOf {L : Lay} {D : LD} (hd : L.data = D) {w : World} (h : (LayF L).ok w) : L.nums.fact.ok w ∧ L.nums.xs = D.nums ∧ L.nums.n = D.nums.length := by
  have h1 := Lay.fact_of h (φ := L.nums.fact) (by simp [Lay.facts])
  have h2 : L.nums.xs = D.nums := congrArg LD.nums hd
  refine ⟨h1, h2, ?_⟩
  have := h1.1
  rw [← h2]
  simpa using this.symm
theorem partsOf {L : Lay} {D : LD} (hd : L.data = D) {w : World} (h : (LayF L).ok w) : L.pn = D.ps.length := by
  have h1 := Lay.fact_of h (φ := Cel L.pA L.pn L.pc 2 (L.ps.flatMap fun p => [p.1.val, p.2.val])) (by simp [Lay.facts])
  have h2 : L.ps.map (fun p => (p.1.xs, p.2.bs)) = D.ps := congrArg LD.ps hd
  have := h1.1
  rw [flat_len] at this
  rw [← h2, List.length_map]
  omega
theorem aliveByt {w0 w : World} {B : List Fact} {b : Nat} (h : St w0 [] [⟨b, 5, [some (.int .u8 ((0 : Nat) : Int)), some (.int .u8 ((1 : Nat) : Int)), some (.int .u8 ((1 : Nat) : Int)), some (.int .u8 ((64 : Nat) : Int))], true⟩] B w) : St w [] [] [Byt (some ⟨b, 0, none⟩) 4 4 [0, 1, 1, 64]] w :=
  St.start1 ((h.kb (j := 0) rfl).byt (bs := [0, 1, 1, 64]) rfl)

theorem aliveC (w : World)   (hst : St w [] [] [] w) : Calls Tryz.prog 29 #[] w (fun e w' => e = .returned (.bool true) ∧ Pres [] w w') := by
  refine enter (vs := []) Tryz.func29 rfl rfl rfl hst ?_
  refine HT.seq ?_
  refine HT.plain ?_
  refine sq (St.closed _ _ _ _) (q_assign rfl) rfl ?_
  refine send ?_
  refine eseq ?_
  refine HT.seq ?_
  refine HT.plain ?_
  refine sl_ (l_buildSlice (e := 5) (vs := [(0, (.int .u8 ((0 : Nat) : Int))), (1, (.int .u8 ((1 : Nat) : Int))), (2, (.int .u8 ((1 : Nat) : Int))), (3, (.int .u8 ((64 : Nat) : Int)))]) (cs := [(.int .u8 ((0 : Nat) : Int)), (.int .u8 ((1 : Nat) : Int)), (.int .u8 ((1 : Nat) : Int)), (.int .u8 ((64 : Nat) : Int))]) (by decide) rfl (fun _ => by kernel_rfl) fun b4 => ?_)
  refine sl_ (l_callLay0 (vs := [(.string ⟨#[109, 112, 108, 115]⟩), (.slice (some ⟨b4, 0, none⟩) 4 4)]) (tup := fun L => .tuple #[L.val, .bool true]) (D := ⟨[(bN ([0, 1, 1, 64]) 0 4) / 4096, ((bN ([0, 1, 1, 64]) 0 4) / 512) &&& 7, ((bN ([0, 1, 1, 64]) 0 4) / 256) &&& 1, (bN ([0, 1, 1, 64]) 0 4) &&& 255], [], [], sl ([0, 1, 1, 64]) 4 4⟩) (by decide) rfl ca_27 (fun w h => mpls_I1 w (some ⟨b4, 0, none⟩) 4 4 [0, 1, 1, 64] (by decide) (by decide) (aliveByt h)) fun L hdL hoL => ?_)
  obtain ⟨wL, hwL⟩ := hoL
  have hn4 : L.nums.n = 4 := (numsOf hdL hwL).2.2
  have hx4 : L.nums.xs = _ := (numsOf hdL hwL).2.1
  refine sq (St.closed _ _ _ _) (q_move rfl) rfl ?_
  refine sq (St.closed _ _ _ _) (q_extract (vs := [(.agg #[(.slice L.nums.A L.nums.n L.nums.c), (.slice L.dA L.dn L.dc), (.slice L.pA L.pn L.pc), (.slice L.pay.A L.pay.n L.pay.c)]), (.bool true)]) (i := 0) rfl rfl) rfl ?_
  refine sq (St.closed _ _ _ _) (q_extract (vs := [(.agg #[(.slice L.nums.A L.nums.n L.nums.c), (.slice L.dA L.dn L.dc), (.slice L.pA L.pn L.pc), (.slice L.pay.A L.pay.n L.pay.c)]), (.bool true)]) (i := 1) rfl rfl) rfl ?_
  refine sl_ (l_alloc (by decide) zero_29 fun b1 => ?_)
  refine sl_ (l_storeAgg (b := b1) (off := 0) (j := 0) (vs := [(.slice L.nums.A L.nums.n L.nums.c), (.slice L.dA L.dn L.dc), (.slice L.pA L.pn L.pc), (.slice L.pay.A L.pay.n L.pay.c)]) rfl rfl aggs_29 (by simp [Value.one1]) rfl rfl rfl (Nat.le_of_ble_eq_true rfl) ?_)
  refine sq (St.closed _ _ _ _) (q_assign rfl) rfl ?_
  refine send ?_
  refine eseq ?_
  refine HT.seq ?_
  refine HT.plain ?_
  refine sq (St.closed _ _ _ _) (q_move rfl) rfl ?_
  refine sq (St.closed _ _ _ _) (q_move rfl) rfl ?_
  refine sgq (St.closed _ _ _ _) rfl (q_field (b := b1) (off := 0) rfl fo_29_0) rfl ?_
  refine sgq (St.closed _ _ _ _) rfl (q_load (b := b1) (off := 0) (j := 0) rfl nagg_25 (fun _ h => h) rfl rfl rfl) rfl ?_
  refine sgq (St.closed _ _ _ _) rfl (q_len (len := L.nums.n) rfl Tryz.underlying25) rfl ?_
  refine sgq (St.closed _ _ _ _) rfl (q_T (q_eq (p := L.nums.n) (q := 4) rfl rfl) hn4) rfl ?_
  refine sq (St.closed _ _ _ _) (q_pick rfl (fun _ => rfl) (fun h => nomatch h)) rfl ?_
  refine sq (St.closed _ _ _ _) (q_move rfl) rfl ?_
  refine sgq (St.closed _ _ _ _) rfl (q_field (b := b1) (off := 0) rfl fo_29_0) rfl ?_
  refine sgq (St.closed _ _ _ _) rfl (q_load (b := b1) (off := 0) (j := 0) rfl nagg_25 (fun _ h => h) rfl rfl rfl) rfl ?_
  refine sgq (St.closed _ _ _ _) rfl (q_indexC (i := 0) (sz := 1) rfl rfl Tryz.underlying25 size_39 (fun _ h => (numsOf hdL (h.fact (j := 0) rfl)).1) (by decide) (by omega)) rfl ?_
  refine sgq (St.closed _ _ _ _) rfl (q_celLoad (i := 0 * 1) rfl nagg_39 (fun _ h => (numsOf hdL (h.fact (j := 0) rfl)).1) (v := (.int .u64 ((16 : Nat) : Int))) (by rw [hx4]; rfl)) rfl ?_
  refine sgq (St.closed _ _ _ _) rfl (q_T (q_eq (p := 16) (q := 16) rfl rfl) (by decide)) rfl ?_
  refine sq (St.closed _ _ _ _) (q_pick rfl (fun _ => rfl) (fun h => nomatch h)) rfl ?_
  refine sq (St.closed _ _ _ _) (q_assign rfl) rfl ?_
  refine send ?_
  refine eseq ?_
  refine HT.ret ?_
  exact fun a ha w' hw => fin_ ha (res1 ha Tryz.results29 rfl) ⟨rfl, hw.pres⟩

theorem readU (w : World) (A : Option Addr) (n : Nat) (c : Nat) (bs : List UInt8) (s : ByteArray) (hn : n ≤ 400) (hS : ∀ w : World, (Byt A n c bs).ok w → Calls Tryz.prog 26 #[.string s, .slice A n c] w (SP w (Byt A n c bs) none)) (hst : St w [] [] [Byt A n c bs] w) : Calls Tryz.prog 25 #[(.string s), (.slice A n c)] w (fun e w' => e = .returned (.bool true) ∧ Pres [] w w') := by
  have hnc00 : n ≤ c := (hst.fact (j := 0) rfl).2.1
  refine enter (vs := [(.string s), (.slice A n c)]) Tryz.func25 rfl rfl rfl hst ?_
  refine HT.seq ?_
  refine HT.plain ?_
  refine sq (St.closed _ _ _ _) (q_assign rfl) rfl ?_
  refine send ?_
  refine eseq ?_
  refine HT.seq ?_
  refine HT.plain ?_
  refine sq (St.closed _ _ _ _) (q_move rfl) rfl ?_
  refine sq (St.closed _ _ _ _) (q_move rfl) rfl ?_
  refine sl_ (l_callUn (vs := [(.string s), (.slice A n c)]) (by decide) rfl ca_26 (fun w h => hS w (h.fact (j := 0) rfl)) fun xa xb xc xd xok => ?_)
  refine sq (St.closed _ _ _ _) (q_move rfl) rfl ?_
  refine sq (St.closed _ _ _ _) (q_extract (vs := [(.agg #[(.slice xa.A xa.n xa.c), (.slice xb.A xb.n xb.c), (.slice xc.A xc.n xc.c), (.slice xd.A xd.n xd.c)]), (.bool xok), (.bool false)]) (i := 0) rfl rfl) rfl ?_
  refine sq (St.closed _ _ _ _) (q_extract (vs := [(.agg #[(.slice xa.A xa.n xa.c), (.slice xb.A xb.n xb.c), (.slice xc.A xc.n xc.c), (.slice xd.A xd.n xd.c)]), (.bool xok), (.bool false)]) (i := 1) rfl rfl) rfl ?_
  refine sq (St.closed _ _ _ _) (q_extract (vs := [(.agg #[(.slice xa.A xa.n xa.c), (.slice xb.A xb.n xb.c), (.slice xc.A xc.n xc.c), (.slice xd.A xd.n xd.c)]), (.bool xok), (.bool false)]) (i := 2) rfl rfl) rfl ?_
  refine sl_ (l_alloc (by decide) zero_29 fun b5 => ?_)
  refine sl_ (l_storeAgg (b := b5) (off := 0) (j := 0) (vs := [(.slice xa.A xa.n xa.c), (.slice xb.A xb.n xb.c), (.slice xc.A xc.n xc.c), (.slice xd.A xd.n xd.c)]) rfl rfl aggs_29 (by simp [Value.one1]) rfl rfl rfl (Nat.le_of_ble_eq_true rfl) ?_)
  refine sq (St.closed _ _ _ _) (q_assign rfl) rfl ?_
  refine sq (St.closed _ _ _ _) (q_assign rfl) rfl ?_
  refine send ?_
  refine eseq ?_
  refine HT.seq ?_
  refine HT.seq ?_
  refine HT.plain ?_
  refine sq (St.closed _ _ _ _) (q_move rfl) rfl ?_
  refine sq (St.closed _ _ _ _) (q_len (len := n) rfl Tryz.underlying22) rfl ?_
  refine sq (St.closed _ _ _ _) (q_F (q_gt (p := n) (q := 400) rfl rfl) (by omega)) rfl ?_
  refine sq (St.closed _ _ _ _) (q_move rfl) rfl ?_
  refine sgq (St.closed _ _ _ _) rfl (q_move rfl) rfl ?_
  refine sgq (St.closed _ _ _ _) rfl (q_not rfl) rfl ?_
  refine sq (St.closed _ _ _ _) (q_pick rfl (fun h => nomatch h) (fun _ => rfl)) rfl ?_
  refine sq (St.closed _ _ _ _) (q_move rfl) rfl ?_
  refine sskip rfl rfl ?_
  refine sskip rfl rfl ?_
  refine sskip rfl rfl ?_
  refine sskip rfl rfl ?_
  refine sq (St.closed _ _ _ _) (q_pick rfl (fun _ => rfl) (fun h => nomatch h)) rfl ?_
  refine send ?_
  refine eseq ?_
  refine HT.yes rfl ?_
  refine HT.seq ?_
  refine HT.plain ?_
  refine sq (St.closed _ _ _ _) (q_assign rfl) rfl ?_
  refine send ?_
  refine eseq ?_
  refine HT.ret ?_
  refine rt_then ?_
  exact fun a ha w' hw => fin_ ha (res1 ha Tryz.results25 rfl) ⟨rfl, hw.pres⟩

theorem readUb (w : World) (A : Option Addr) (n : Nat) (c : Nat) (bs : List UInt8) (s : ByteArray) (hn : 400 < n) (hS : ∀ w : World, (Byt A n c bs).ok w → Calls Tryz.prog 26 #[.string s, .slice A n c] w (SP w (Byt A n c bs) none)) (hst : St w [] [] [Byt A n c bs] w) : Calls Tryz.prog 25 #[(.string s), (.slice A n c)] w (fun e w' => e = .returned (.bool true) ∧ Pres [] w w') := by
  have hnc00 : n ≤ c := (hst.fact (j := 0) rfl).2.1
  refine enter (vs := [(.string s), (.slice A n c)]) Tryz.func25 rfl rfl rfl hst ?_
  refine HT.seq ?_
  refine HT.plain ?_
  refine sq (St.closed _ _ _ _) (q_assign rfl) rfl ?_
  refine send ?_
  refine eseq ?_
  refine HT.seq ?_
  refine HT.plain ?_
  refine sq (St.closed _ _ _ _) (q_move rfl) rfl ?_
  refine sq (St.closed _ _ _ _) (q_move rfl) rfl ?_
  refine sl_ (l_callUn (vs := [(.string s), (.slice A n c)]) (by decide) rfl ca_26 (fun w h => hS w (h.fact (j := 0) rfl)) fun xa xb xc xd xok => ?_)
  refine sq (St.closed _ _ _ _) (q_move rfl) rfl ?_
  refine sq (St.closed _ _ _ _) (q_extract (vs := [(.agg #[(.slice xa.A xa.n xa.c), (.slice xb.A xb.n xb.c), (.slice xc.A xc.n xc.c), (.slice xd.A xd.n xd.c)]), (.bool xok), (.bool false)]) (i := 0) rfl rfl) rfl ?_
  refine sq (St.closed _ _ _ _) (q_extract (vs := [(.agg #[(.slice xa.A xa.n xa.c), (.slice xb.A xb.n xb.c), (.slice xc.A xc.n xc.c), (.slice xd.A xd.n xd.c)]), (.bool xok), (.bool false)]) (i := 1) rfl rfl) rfl ?_
  refine sq (St.closed _ _ _ _) (q_extract (vs := [(.agg #[(.slice xa.A xa.n xa.c), (.slice xb.A xb.n xb.c), (.slice xc.A xc.n xc.c), (.slice xd.A xd.n xd.c)]), (.bool xok), (.bool false)]) (i := 2) rfl rfl) rfl ?_
  refine sl_ (l_alloc (by decide) zero_29 fun b5 => ?_)
  refine sl_ (l_storeAgg (b := b5) (off := 0) (j := 0) (vs := [(.slice xa.A xa.n xa.c), (.slice xb.A xb.n xb.c), (.slice xc.A xc.n xc.c), (.slice xd.A xd.n xd.c)]) rfl rfl aggs_29 (by simp [Value.one1]) rfl rfl rfl (Nat.le_of_ble_eq_true rfl) ?_)
  refine sq (St.closed _ _ _ _) (q_assign rfl) rfl ?_
  refine sq (St.closed _ _ _ _) (q_assign rfl) rfl ?_
  refine send ?_
  refine eseq ?_
  refine HT.seq ?_
  refine HT.seq ?_
  refine HT.plain ?_
  refine sq (St.closed _ _ _ _) (q_move rfl) rfl ?_
  refine sq (St.closed _ _ _ _) (q_len (len := n) rfl Tryz.underlying22) rfl ?_
  refine sq (St.closed _ _ _ _) (q_T (q_gt (p := n) (q := 400) rfl rfl) (by omega)) rfl ?_
  refine sq (St.closed _ _ _ _) (q_move rfl) rfl ?_
  refine sskip rfl rfl ?_
  refine sskip rfl rfl ?_
  refine sq (St.closed _ _ _ _) (q_pick rfl (fun _ => rfl) (fun h => nomatch h)) rfl ?_
  refine sq (St.closed _ _ _ _) (q_move rfl) rfl ?_
  refine sskip rfl rfl ?_
  refine sskip rfl rfl ?_
  refine sskip rfl rfl ?_
  refine sskip rfl rfl ?_
  refine sq (St.closed _ _ _ _) (q_pick rfl (fun _ => rfl) (fun h => nomatch h)) rfl ?_
  refine send ?_
  refine eseq ?_
  refine HT.yes rfl ?_
  refine HT.seq ?_
  refine HT.plain ?_
  refine sq (St.closed _ _ _ _) (q_assign rfl) rfl ?_
  refine send ?_
  refine eseq ?_
  refine HT.ret ?_
  refine rt_then ?_
  exact fun a ha w' hw => fin_ ha (res1 ha Tryz.results25 rfl) ⟨rfl, hw.pres⟩

theorem readN (w : World) (A : Option Addr) (n : Nat) (c : Nat) (bs : List UInt8) (s : ByteArray) (hn : n ≤ 400) (hS : ∀ w : World, (Byt A n c bs).ok w → Calls Tryz.prog 26 #[.string s, .slice A n c] w (SP w (Byt A n c bs) (some none))) (hI : ∀ w : World, (Byt A n c bs).ok w → Calls Tryz.prog 27 #[.string s, .slice A n c] w (IP w (Byt A n c bs) (some none))) (hst : St w [] [] [Byt A n c bs] w) : Calls Tryz.prog 25 #[(.string s), (.slice A n c)] w (fun e w' => e = .returned (.bool true) ∧ Pres [] w w') := by
  have hnc00 : n ≤ c := (hst.fact (j := 0) rfl).2.1
  refine enter (vs := [(.string s), (.slice A n c)]) Tryz.func25 rfl rfl rfl hst ?_
  refine HT.seq ?_
  refine HT.plain ?_
  refine sq (St.closed _ _ _ _) (q_assign rfl) rfl ?_
  refine send ?_
  refine eseq ?_
  refine HT.seq ?_
  refine HT.plain ?_
  refine sq (St.closed _ _ _ _) (q_move rfl) rfl ?_
  refine sq (St.closed _ _ _ _) (q_move rfl) rfl ?_
  refine sq (St.closed _ _ _ _) (q_call (vs := [(.string s), (.slice A n c)]) (v := (.tuple #[(.agg #[(.slice none 0 0), (.slice none 0 0), (.slice none 0 0), (.slice none 0 0)]), (.bool false), (.bool true)])) rfl ca_26 (fun w h => hS w (h.fact (j := 0) rfl))) rfl ?_
  refine sq (St.closed _ _ _ _) (q_move rfl) rfl ?_
  refine sq (St.closed _ _ _ _) (q_extract (vs := [(.agg #[(.slice none 0 0), (.slice none 0 0), (.slice none 0 0), (.slice none 0 0)]), (.bool false), (.bool true)]) (i := 0) rfl rfl) rfl ?_
  refine sq (St.closed _ _ _ _) (q_extract (vs := [(.agg #[(.slice none 0 0), (.slice none 0 0), (.slice none 0 0), (.slice none 0 0)]), (.bool false), (.bool true)]) (i := 1) rfl rfl) rfl ?_
  refine sq (St.closed _ _ _ _) (q_extract (vs := [(.agg #[(.slice none 0 0), (.slice none 0 0), (.slice none 0 0), (.slice none 0 0)]), (.bool false), (.bool true)]) (i := 2) rfl rfl) rfl ?_
  refine sl_ (l_alloc (by decide) zero_29 fun b5 => ?_)
  refine sl_ (l_storeAgg (b := b5) (off := 0) (j := 0) (vs := [(.slice none 0 0), (.slice none 0 0), (.slice none 0 0), (.slice none 0 0)]) rfl rfl aggs_29 (by simp [Value.one1]) rfl rfl rfl (Nat.le_of_ble_eq_true rfl) ?_)
  refine sq (St.closed _ _ _ _) (q_assign rfl) rfl ?_
  refine sq (St.closed _ _ _ _) (q_assign rfl) rfl ?_
  refine send ?_
  refine eseq ?_
  refine HT.seq ?_
  refine HT.seq ?_
  refine HT.plain ?_
  refine sq (St.closed _ _ _ _) (q_move rfl) rfl ?_
  refine sq (St.closed _ _ _ _) (q_len (len := n) rfl Tryz.underlying22) rfl ?_
  refine sq (St.closed _ _ _ _) (q_F (q_gt (p := n) (q := 400) rfl rfl) (by omega)) rfl ?_
  refine sq (St.closed _ _ _ _) (q_move rfl) rfl ?_
  refine sgq (St.closed _ _ _ _) rfl (q_move rfl) rfl ?_
  refine sgq (St.closed _ _ _ _) rfl (q_not rfl) rfl ?_
  refine sq (St.closed _ _ _ _) (q_pick rfl (fun h => nomatch h) (fun _ => rfl)) rfl ?_
  refine sq (St.closed _ _ _ _) (q_move rfl) rfl ?_
  refine sgq (St.closed _ _ _ _) rfl (q_field (b := b5) (off := 0) rfl fo_29_2) rfl ?_
  refine sgq (St.closed _ _ _ _) rfl (q_load (b := b5) (off := 2) (j := 0) rfl nagg_27 (fun _ h => h) rfl rfl rfl) rfl ?_
  refine sgq (St.closed _ _ _ _) rfl (q_len (len := 0) rfl Tryz.underlying27) rfl ?_
  refine sgq (St.closed _ _ _ _) rfl (q_F (q_gt (p := 0) (q := 50) rfl rfl) (by decide)) rfl ?_
  refine sq (St.closed _ _ _ _) (q_pick rfl (fun h => nomatch h) (fun _ => rfl)) rfl ?_
  refine send ?_
  refine eseq ?_
  refine HT.no rfl ?_
  refine HT.skip ?_
  refine eseq ?_
  refine HT.seq ?_
  refine HT.plain ?_
  refine sq (St.closed _ _ _ _) (q_move rfl) rfl ?_
  refine sq (St.closed _ _ _ _) (q_move rfl) rfl ?_
  refine sq (St.closed _ _ _ _) (q_call (vs := [(.string s), (.slice A n c)]) (v := (.tuple #[(.agg #[(.slice none 0 0), (.slice none 0 0), (.slice none 0 0), (.slice none 0 0)]), (.bool false)])) rfl ca_27 (fun w h => hI w (h.fact (j := 0) rfl))) rfl ?_
  refine sq (St.closed _ _ _ _) (q_move rfl) rfl ?_
  refine sq (St.closed _ _ _ _) (q_extract (vs := [(.agg #[(.slice none 0 0), (.slice none 0 0), (.slice none 0 0), (.slice none 0 0)]), (.bool false)]) (i := 0) rfl rfl) rfl ?_
  refine sq (St.closed _ _ _ _) (q_extract (vs := [(.agg #[(.slice none 0 0), (.slice none 0 0), (.slice none 0 0), (.slice none 0 0)]), (.bool false)]) (i := 1) rfl rfl) rfl ?_
  refine sl_ (l_alloc (by decide) zero_29 fun b8 => ?_)
  refine sl_ (l_storeAgg (b := b8) (off := 0) (j := 1) (vs := [(.slice none 0 0), (.slice none 0 0), (.slice none 0 0), (.slice none 0 0)]) rfl rfl aggs_29 (by simp [Value.one1]) rfl rfl rfl (Nat.le_of_ble_eq_true rfl) ?_)
  refine sq (St.closed _ _ _ _) (q_assign rfl) rfl ?_
  refine send ?_
  refine eseq ?_
  refine HT.seq ?_
  refine HT.plain ?_
  refine sq (St.closed _ _ _ _) (q_move rfl) rfl ?_
  refine sq (St.closed _ _ _ _) (q_move rfl) rfl ?_
  refine sq (St.closed _ _ _ _) (q_eqb rfl rfl Tryz.underlying4) rfl ?_
  refine sq (St.closed _ _ _ _) (q_move rfl) rfl ?_
  refine sgq (St.closed _ _ _ _) rfl (q_move rfl) rfl ?_
  refine sgq (St.closed _ _ _ _) rfl (q_not rfl) rfl ?_
  refine sgq (St.closed _ _ _ _) rfl (q_move rfl) rfl ?_
  refine sskip rfl rfl ?_
  refine sskip rfl rfl ?_
  refine sskip rfl rfl ?_
  refine sgq (St.closed _ _ _ _) rfl (q_pick rfl (fun _ => rfl) (fun h => nomatch h)) rfl ?_
  refine sq (St.closed _ _ _ _) (q_pick rfl (fun _ => rfl) (fun h => nomatch h)) rfl ?_
  refine sq (St.closed _ _ _ _) (q_move rfl) rfl ?_
  refine sgq (St.closed _ _ _ _) rfl (q_call (vs := []) (v := (.bool true)) rfl ca_29 (fun w h => aliveC w   (St.enter (sp := []) (Kc := []) (bi := []) h rfl rfl rfl))) rfl ?_
  refine sq (St.closed _ _ _ _) (q_pick rfl (fun _ => rfl) (fun h => nomatch h)) rfl ?_
  refine sq (St.closed _ _ _ _) (q_assign rfl) rfl ?_
  refine send ?_
  refine eseq ?_
  refine HT.ret ?_
  exact fun a ha w' hw => fin_ ha (res1 ha Tryz.results25 rfl) ⟨rfl, hw.pres⟩

theorem readNb (w : World) (A : Option Addr) (n : Nat) (c : Nat) (bs : List UInt8) (s : ByteArray) (hn : 400 < n) (hS : ∀ w : World, (Byt A n c bs).ok w → Calls Tryz.prog 26 #[.string s, .slice A n c] w (SP w (Byt A n c bs) (some none))) (hst : St w [] [] [Byt A n c bs] w) : Calls Tryz.prog 25 #[(.string s), (.slice A n c)] w (fun e w' => e = .returned (.bool true) ∧ Pres [] w w') := by
  have hnc00 : n ≤ c := (hst.fact (j := 0) rfl).2.1
  refine enter (vs := [(.string s), (.slice A n c)]) Tryz.func25 rfl rfl rfl hst ?_
  refine HT.seq ?_
  refine HT.plain ?_
  refine sq (St.closed _ _ _ _) (q_assign rfl) rfl ?_
  refine send ?_
  refine eseq ?_
  refine HT.seq ?_
  refine HT.plain ?_
  refine sq (St.closed _ _ _ _) (q_move rfl) rfl ?_
  refine sq (St.closed _ _ _ _) (q_move rfl) rfl ?_
  refine sq (St.closed _ _ _ _) (q_call (vs := [(.string s), (.slice A n c)]) (v := (.tuple #[(.agg #[(.slice none 0 0), (.slice none 0 0), (.slice none 0 0), (.slice none 0 0)]), (.bool false), (.bool true)])) rfl ca_26 (fun w h => hS w (h.fact (j := 0) rfl))) rfl ?_
  refine sq (St.closed _ _ _ _) (q_move rfl) rfl ?_
  refine sq (St.closed _ _ _ _) (q_extract (vs := [(.agg #[(.slice none 0 0), (.slice none 0 0), (.slice none 0 0), (.slice none 0 0)]), (.bool false), (.bool true)]) (i := 0) rfl rfl) rfl ?_
  refine sq (St.closed _ _ _ _) (q_extract (vs := [(.agg #[(.slice none 0 0), (.slice none 0 0), (.slice none 0 0), (.slice none 0 0)]), (.bool false), (.bool true)]) (i := 1) rfl rfl) rfl ?_
  refine sq (St.closed _ _ _ _) (q_extract (vs := [(.agg #[(.slice none 0 0), (.slice none 0 0), (.slice none 0 0), (.slice none 0 0)]), (.bool false), (.bool true)]) (i := 2) rfl rfl) rfl ?_
  refine sl_ (l_alloc (by decide) zero_29 fun b5 => ?_)
  refine sl_ (l_storeAgg (b := b5) (off := 0) (j := 0) (vs := [(.slice none 0 0), (.slice none 0 0), (.slice none 0 0), (.slice none 0 0)]) rfl rfl aggs_29 (by simp [Value.one1]) rfl rfl rfl (Nat.le_of_ble_eq_true rfl) ?_)
  refine sq (St.closed _ _ _ _) (q_assign rfl) rfl ?_
  refine sq (St.closed _ _ _ _) (q_assign rfl) rfl ?_
  refine send ?_
  refine eseq ?_
  refine HT.seq ?_
  refine HT.seq ?_
  refine HT.plain ?_
  refine sq (St.closed _ _ _ _) (q_move rfl) rfl ?_
  refine sq (St.closed _ _ _ _) (q_len (len := n) rfl Tryz.underlying22) rfl ?_
  refine sq (St.closed _ _ _ _) (q_T (q_gt (p := n) (q := 400) rfl rfl) (by omega)) rfl ?_
  refine sq (St.closed _ _ _ _) (q_move rfl) rfl ?_
  refine sskip rfl rfl ?_
  refine sskip rfl rfl ?_
  refine sq (St.closed _ _ _ _) (q_pick rfl (fun _ => rfl) (fun h => nomatch h)) rfl ?_
  refine sq (St.closed _ _ _ _) (q_move rfl) rfl ?_
  refine sskip rfl rfl ?_
  refine sskip rfl rfl ?_
  refine sskip rfl rfl ?_
  refine sskip rfl rfl ?_
  refine sq (St.closed _ _ _ _) (q_pick rfl (fun _ => rfl) (fun h => nomatch h)) rfl ?_
  refine send ?_
  refine eseq ?_
  refine HT.yes rfl ?_
  refine HT.seq ?_
  refine HT.plain ?_
  refine sq (St.closed _ _ _ _) (q_assign rfl) rfl ?_
  refine send ?_
  refine eseq ?_
  refine HT.ret ?_
  refine rt_then ?_
  exact fun a ha w' hw => fin_ ha (res1 ha Tryz.results25 rfl) ⟨rfl, hw.pres⟩

theorem readDb (w : World) (A : Option Addr) (n : Nat) (c : Nat) (bs : List UInt8) (s : ByteArray) (D : LD) (hn : 400 < n) (hS : ∀ w : World, (Byt A n c bs).ok w → Calls Tryz.prog 26 #[.string s, .slice A n c] w (SP w (Byt A n c bs) (some (some D)))) (hst : St w [] [] [Byt A n c bs] w) : Calls Tryz.prog 25 #[(.string s), (.slice A n c)] w (fun e w' => e = .returned (.bool true) ∧ Pres [] w w') := by
  have hnc00 : n ≤ c := (hst.fact (j := 0) rfl).2.1
  refine enter (vs := [(.string s), (.slice A n c)]) Tryz.func25 rfl rfl rfl hst ?_
  refine HT.seq ?_
  refine HT.plain ?_
  refine sq (St.closed _ _ _ _) (q_assign rfl) rfl ?_
  refine send ?_
  refine eseq ?_
  refine HT.seq ?_
  refine HT.plain ?_
  refine sq (St.closed _ _ _ _) (q_move rfl) rfl ?_
  refine sq (St.closed _ _ _ _) (q_move rfl) rfl ?_
  refine sl_ (l_callLay (vs := [(.string s), (.slice A n c)]) (tup := fun L => .tuple #[L.val, .bool true, .bool true]) 0 (by decide) rfl ca_26 rfl (fun w h => hS w (h.fact (j := 0) rfl)) fun L hfL hdL hoL => ?_)
  obtain ⟨wL, hwL⟩ := hoL
  have hpn : L.pn = D.ps.length := partsOf hdL hwL
  refine sq (St.closed _ _ _ _) (q_move rfl) rfl ?_
  refine sq (St.closed _ _ _ _) (q_extract (vs := [(.agg #[(.slice L.nums.A L.nums.n L.nums.c), (.slice L.dA L.dn L.dc), (.slice L.pA L.pn L.pc), (.slice L.pay.A L.pay.n L.pay.c)]), (.bool true), (.bool true)]) (i := 0) rfl rfl) rfl ?_
  refine sq (St.closed _ _ _ _) (q_extract (vs := [(.agg #[(.slice L.nums.A L.nums.n L.nums.c), (.slice L.dA L.dn L.dc), (.slice L.pA L.pn L.pc), (.slice L.pay.A L.pay.n L.pay.c)]), (.bool true), (.bool true)]) (i := 1) rfl rfl) rfl ?_
  refine sq (St.closed _ _ _ _) (q_extract (vs := [(.agg #[(.slice L.nums.A L.nums.n L.nums.c), (.slice L.dA L.dn L.dc), (.slice L.pA L.pn L.pc), (.slice L.pay.A L.pay.n L.pay.c)]), (.bool true), (.bool true)]) (i := 2) rfl rfl) rfl ?_
  refine sl_ (l_alloc (by decide) zero_29 fun b5 => ?_)
  refine sl_ (l_storeAgg (b := b5) (off := 0) (j := 0) (vs := [(.slice L.nums.A L.nums.n L.nums.c), (.slice L.dA L.dn L.dc), (.slice L.pA L.pn L.pc), (.slice L.pay.A L.pay.n L.pay.c)]) rfl rfl aggs_29 (by simp [Value.one1]) rfl rfl rfl (Nat.le_of_ble_eq_true rfl) ?_)
  refine sq (St.closed _ _ _ _) (q_assign rfl) rfl ?_
  refine sq (St.closed _ _ _ _) (q_assign rfl) rfl ?_
  refine send ?_
  refine eseq ?_
  refine HT.seq ?_
  refine HT.seq ?_
  refine HT.plain ?_
  refine sq (St.closed _ _ _ _) (q_move rfl) rfl ?_
  refine sq (St.closed _ _ _ _) (q_len (len := n) rfl Tryz.underlying22) rfl ?_
  refine sq (St.closed _ _ _ _) (q_T (q_gt (p := n) (q := 400) rfl rfl) (by omega)) rfl ?_
  refine sq (St.closed _ _ _ _) (q_move rfl) rfl ?_
  refine sskip rfl rfl ?_
  refine sskip rfl rfl ?_
  refine sq (St.closed _ _ _ _) (q_pick rfl (fun _ => rfl) (fun h => nomatch h)) rfl ?_
  refine sq (St.closed _ _ _ _) (q_move rfl) rfl ?_
  refine sskip rfl rfl ?_
  refine sskip rfl rfl ?_
  refine sskip rfl rfl ?_
  refine sskip rfl rfl ?_
  refine sq (St.closed _ _ _ _) (q_pick rfl (fun _ => rfl) (fun h => nomatch h)) rfl ?_
  refine send ?_
  refine eseq ?_
  refine HT.yes rfl ?_
  refine HT.seq ?_
  refine HT.plain ?_
  refine sq (St.closed _ _ _ _) (q_assign rfl) rfl ?_
  refine send ?_
  refine eseq ?_
  refine HT.ret ?_
  refine rt_then ?_
  exact fun a ha w' hw => fin_ ha (res1 ha Tryz.results25 rfl) ⟨rfl, hw.pres⟩

theorem readDp (w : World) (A : Option Addr) (n : Nat) (c : Nat) (bs : List UInt8) (s : ByteArray) (D : LD) (hn : n ≤ 400) (hS : ∀ w : World, (Byt A n c bs).ok w → Calls Tryz.prog 26 #[.string s, .slice A n c] w (SP w (Byt A n c bs) (some (some D)))) (hp : 50 < D.ps.length) (hst : St w [] [] [Byt A n c bs] w) : Calls Tryz.prog 25 #[(.string s), (.slice A n c)] w (fun e w' => e = .returned (.bool true) ∧ Pres [] w w') := by
  have hnc00 : n ≤ c := (hst.fact (j := 0) rfl).2.1
  refine enter (vs := [(.string s), (.slice A n c)]) Tryz.func25 rfl rfl rfl hst ?_
  refine HT.seq ?_
  refine HT.plain ?_
  refine sq (St.closed _ _ _ _) (q_assign rfl) rfl ?_
  refine send ?_
  refine eseq ?_
  refine HT.seq ?_
  refine HT.plain ?_
  refine sq (St.closed _ _ _ _) (q_move rfl) rfl ?_
  refine sq (St.closed _ _ _ _) (q_move rfl) rfl ?_
  refine sl_ (l_callLay (vs := [(.string s), (.slice A n c)]) (tup := fun L => .tuple #[L.val, .bool true, .bool true]) 0 (by decide) rfl ca_26 rfl (fun w h => hS w (h.fact (j := 0) rfl)) fun L hfL hdL hoL => ?_)
  obtain ⟨wL, hwL⟩ := hoL
  have hpn : L.pn = D.ps.length := partsOf hdL hwL
  refine sq (St.closed _ _ _ _) (q_move rfl) rfl ?_
  refine sq (St.closed _ _ _ _) (q_extract (vs := [(.agg #[(.slice L.nums.A L.nums.n L.nums.c), (.slice L.dA L.dn L.dc), (.slice L.pA L.pn L.pc), (.slice L.pay.A L.pay.n L.pay.c)]), (.bool true), (.bool true)]) (i := 0) rfl rfl) rfl ?_
  refine sq (St.closed _ _ _ _) (q_extract (vs := [(.agg #[(.slice L.nums.A L.nums.n L.nums.c), (.slice L.dA L.dn L.dc), (.slice L.pA L.pn L.pc), (.slice L.pay.A L.pay.n L.pay.c)]), (.bool true), (.bool true)]) (i := 1) rfl rfl) rfl ?_
  refine sq (St.closed _ _ _ _) (q_extract (vs := [(.agg #[(.slice L.nums.A L.nums.n L.nums.c), (.slice L.dA L.dn L.dc), (.slice L.pA L.pn L.pc), (.slice L.pay.A L.pay.n L.pay.c)]), (.bool true), (.bool true)]) (i := 2) rfl rfl) rfl ?_
  refine sl_ (l_alloc (by decide) zero_29 fun b5 => ?_)
  refine sl_ (l_storeAgg (b := b5) (off := 0) (j := 0) (vs := [(.slice L.nums.A L.nums.n L.nums.c), (.slice L.dA L.dn L.dc), (.slice L.pA L.pn L.pc), (.slice L.pay.A L.pay.n L.pay.c)]) rfl rfl aggs_29 (by simp [Value.one1]) rfl rfl rfl (Nat.le_of_ble_eq_true rfl) ?_)
  refine sq (St.closed _ _ _ _) (q_assign rfl) rfl ?_
  refine sq (St.closed _ _ _ _) (q_assign rfl) rfl ?_
  refine send ?_
  refine eseq ?_
  refine HT.seq ?_
  refine HT.seq ?_
  refine HT.plain ?_
  refine sq (St.closed _ _ _ _) (q_move rfl) rfl ?_
  refine sq (St.closed _ _ _ _) (q_len (len := n) rfl Tryz.underlying22) rfl ?_
  refine sq (St.closed _ _ _ _) (q_F (q_gt (p := n) (q := 400) rfl rfl) (by omega)) rfl ?_
  refine sq (St.closed _ _ _ _) (q_move rfl) rfl ?_
  refine sgq (St.closed _ _ _ _) rfl (q_move rfl) rfl ?_
  refine sgq (St.closed _ _ _ _) rfl (q_not rfl) rfl ?_
  refine sq (St.closed _ _ _ _) (q_pick rfl (fun h => nomatch h) (fun _ => rfl)) rfl ?_
  refine sq (St.closed _ _ _ _) (q_move rfl) rfl ?_
  refine sgq (St.closed _ _ _ _) rfl (q_field (b := b5) (off := 0) rfl fo_29_2) rfl ?_
  refine sgq (St.closed _ _ _ _) rfl (q_load (b := b5) (off := 2) (j := 0) rfl nagg_27 (fun _ h => h) rfl rfl rfl) rfl ?_
  refine sgq (St.closed _ _ _ _) rfl (q_len (len := L.pn) rfl Tryz.underlying27) rfl ?_
  refine sgq (St.closed _ _ _ _) rfl (q_T (q_gt (p := L.pn) (q := 50) rfl rfl) (by omega)) rfl ?_
  refine sq (St.closed _ _ _ _) (q_pick rfl (fun h => nomatch h) (fun _ => rfl)) rfl ?_
  refine send ?_
  refine eseq ?_
  refine HT.yes rfl ?_
  refine HT.seq ?_
  refine HT.plain ?_
  refine sq (St.closed _ _ _ _) (q_assign rfl) rfl ?_
  refine send ?_
  refine eseq ?_
  refine HT.ret ?_
  refine rt_then ?_
  exact fun a ha w' hw => fin_ ha (res1 ha Tryz.results25 rfl) ⟨rfl, hw.pres⟩

theorem readD (w : World) (A : Option Addr) (n : Nat) (c : Nat) (bs : List UInt8) (s : ByteArray) (D : LD) (hn : n ≤ 400) (hS : ∀ w : World, (Byt A n c bs).ok w → Calls Tryz.prog 26 #[.string s, .slice A n c] w (SP w (Byt A n c bs) (some (some D)))) (hI : ∀ w : World, (Byt A n c bs).ok w → Calls Tryz.prog 27 #[.string s, .slice A n c] w (IP w (Byt A n c bs) (some (some D)))) (hp : D.ps.length ≤ 50) (hsm : D.small) (hst : St w [] [] [Byt A n c bs] w) : Calls Tryz.prog 25 #[(.string s), (.slice A n c)] w (fun e w' => e = .returned (.bool true) ∧ Pres [] w w') := by
  have hnc00 : n ≤ c := (hst.fact (j := 0) rfl).2.1
  refine enter (vs := [(.string s), (.slice A n c)]) Tryz.func25 rfl rfl rfl hst ?_
  refine HT.seq ?_
  refine HT.plain ?_
  refine sq (St.closed _ _ _ _) (q_assign rfl) rfl ?_
  refine send ?_
  refine eseq ?_
  refine HT.seq ?_
  refine HT.plain ?_
  refine sq (St.closed _ _ _ _) (q_move rfl) rfl ?_
  refine sq (St.closed _ _ _ _) (q_move rfl) rfl ?_
  refine sl_ (l_callLay (vs := [(.string s), (.slice A n c)]) (tup := fun L => .tuple #[L.val, .bool true, .bool true]) 0 (by decide) rfl ca_26 rfl (fun w h => hS w (h.fact (j := 0) rfl)) fun L hfL hdL hoL => ?_)
  obtain ⟨wL, hwL⟩ := hoL
  have hpn : L.pn = D.ps.length := partsOf hdL hwL
  refine sq (St.closed _ _ _ _) (q_move rfl) rfl ?_
  refine sq (St.closed _ _ _ _) (q_extract (vs := [(.agg #[(.slice L.nums.A L.nums.n L.nums.c), (.slice L.dA L.dn L.dc), (.slice L.pA L.pn L.pc), (.slice L.pay.A L.pay.n L.pay.c)]), (.bool true), (.bool true)]) (i := 0) rfl rfl) rfl ?_
  refine sq (St.closed _ _ _ _) (q_extract (vs := [(.agg #[(.slice L.nums.A L.nums.n L.nums.c), (.slice L.dA L.dn L.dc), (.slice L.pA L.pn L.pc), (.slice L.pay.A L.pay.n L.pay.c)]), (.bool true), (.bool true)]) (i := 1) rfl rfl) rfl ?_
  refine sq (St.closed _ _ _ _) (q_extract (vs := [(.agg #[(.slice L.nums.A L.nums.n L.nums.c), (.slice L.dA L.dn L.dc), (.slice L.pA L.pn L.pc), (.slice L.pay.A L.pay.n L.pay.c)]), (.bool true), (.bool true)]) (i := 2) rfl rfl) rfl ?_
  refine sl_ (l_alloc (by decide) zero_29 fun b5 => ?_)
  refine sl_ (l_storeAgg (b := b5) (off := 0) (j := 0) (vs := [(.slice L.nums.A L.nums.n L.nums.c), (.slice L.dA L.dn L.dc), (.slice L.pA L.pn L.pc), (.slice L.pay.A L.pay.n L.pay.c)]) rfl rfl aggs_29 (by simp [Value.one1]) rfl rfl rfl (Nat.le_of_ble_eq_true rfl) ?_)
  refine sq (St.closed _ _ _ _) (q_assign rfl) rfl ?_
  refine sq (St.closed _ _ _ _) (q_assign rfl) rfl ?_
  refine send ?_
  refine eseq ?_
  refine HT.seq ?_
  refine HT.seq ?_
  refine HT.plain ?_
  refine sq (St.closed _ _ _ _) (q_move rfl) rfl ?_
  refine sq (St.closed _ _ _ _) (q_len (len := n) rfl Tryz.underlying22) rfl ?_
  refine sq (St.closed _ _ _ _) (q_F (q_gt (p := n) (q := 400) rfl rfl) (by omega)) rfl ?_
  refine sq (St.closed _ _ _ _) (q_move rfl) rfl ?_
  refine sgq (St.closed _ _ _ _) rfl (q_move rfl) rfl ?_
  refine sgq (St.closed _ _ _ _) rfl (q_not rfl) rfl ?_
  refine sq (St.closed _ _ _ _) (q_pick rfl (fun h => nomatch h) (fun _ => rfl)) rfl ?_
  refine sq (St.closed _ _ _ _) (q_move rfl) rfl ?_
  refine sgq (St.closed _ _ _ _) rfl (q_field (b := b5) (off := 0) rfl fo_29_2) rfl ?_
  refine sgq (St.closed _ _ _ _) rfl (q_load (b := b5) (off := 2) (j := 0) rfl nagg_27 (fun _ h => h) rfl rfl rfl) rfl ?_
  refine sgq (St.closed _ _ _ _) rfl (q_len (len := L.pn) rfl Tryz.underlying27) rfl ?_
  refine sgq (St.closed _ _ _ _) rfl (q_F (q_gt (p := L.pn) (q := 50) rfl rfl) (by omega)) rfl ?_
  refine sq (St.closed _ _ _ _) (q_pick rfl (fun h => nomatch h) (fun _ => rfl)) rfl ?_
  refine send ?_
  refine eseq ?_
  refine HT.no rfl ?_
  refine HT.skip ?_
  refine eseq ?_
  refine HT.seq ?_
  refine HT.plain ?_
  refine sq (St.closed _ _ _ _) (q_move rfl) rfl ?_
  refine sq (St.closed _ _ _ _) (q_move rfl) rfl ?_
  refine sl_ (l_callLay (vs := [(.string s), (.slice A n c)]) (tup := fun L => .tuple #[L.val, .bool true]) 0 (by decide) rfl ca_27 rfl (fun w h => hI w (h.fact (j := 0) rfl)) fun N hfN hdN hoN => ?_)
  refine sq (St.closed _ _ _ _) (q_move rfl) rfl ?_
  refine sq (St.closed _ _ _ _) (q_extract (vs := [(.agg #[(.slice N.nums.A N.nums.n N.nums.c), (.slice N.dA N.dn N.dc), (.slice N.pA N.pn N.pc), (.slice N.pay.A N.pay.n N.pay.c)]), (.bool true)]) (i := 0) rfl rfl) rfl ?_
  refine sq (St.closed _ _ _ _) (q_extract (vs := [(.agg #[(.slice N.nums.A N.nums.n N.nums.c), (.slice N.dA N.dn N.dc), (.slice N.pA N.pn N.pc), (.slice N.pay.A N.pay.n N.pay.c)]), (.bool true)]) (i := 1) rfl rfl) rfl ?_
  refine sl_ (l_alloc (by decide) zero_29 fun b8 => ?_)
  refine sl_ (l_storeAgg (b := b8) (off := 0) (j := 1) (vs := [(.slice N.nums.A N.nums.n N.nums.c), (.slice N.dA N.dn N.dc), (.slice N.pA N.pn N.pc), (.slice N.pay.A N.pay.n N.pay.c)]) rfl rfl aggs_29 (by simp [Value.one1]) rfl rfl rfl (Nat.le_of_ble_eq_true rfl) ?_)
  refine sq (St.closed _ _ _ _) (q_assign rfl) rfl ?_
  refine send ?_
  refine eseq ?_
  refine HT.seq ?_
  refine HT.plain ?_
  refine sq (St.closed _ _ _ _) (q_move rfl) rfl ?_
  refine sq (St.closed _ _ _ _) (q_move rfl) rfl ?_
  refine sq (St.closed _ _ _ _) (q_eqb rfl rfl Tryz.underlying4) rfl ?_
  refine sq (St.closed _ _ _ _) (q_move rfl) rfl ?_
  refine sgq (St.closed _ _ _ _) rfl (q_move rfl) rfl ?_
  refine sgq (St.closed _ _ _ _) rfl (q_not rfl) rfl ?_
  refine sgq (St.closed _ _ _ _) rfl (q_move rfl) rfl ?_
  refine sgq (St.closed _ _ _ _) rfl (q_loadAgg (b := b8) (off := 0) (j := 1) (vs := [(.slice N.nums.A N.nums.n N.nums.c), (.slice N.dA N.dn N.dc), (.slice N.pA N.pn N.pc), (.slice N.pay.A N.pay.n N.pay.c)]) rfl aggs_29 (fun _ h => h) rfl rfl rfl) rfl ?_
  refine sgq (St.closed _ _ _ _) rfl (q_loadAgg (b := b5) (off := 0) (j := 0) (vs := [(.slice L.nums.A L.nums.n L.nums.c), (.slice L.dA L.dn L.dc), (.slice L.pA L.pn L.pc), (.slice L.pay.A L.pay.n L.pay.c)]) rfl aggs_29 (fun _ h => h) rfl rfl rfl) rfl ?_
  refine sgq (St.closed _ _ _ _) rfl (q_call (vs := [(.agg #[(.slice N.nums.A N.nums.n N.nums.c), (.slice N.dA N.dn N.dc), (.slice N.pA N.pn N.pc), (.slice N.pay.A N.pay.n N.pay.c)]), (.agg #[(.slice L.nums.A L.nums.n L.nums.c), (.slice L.dA L.dn L.dc), (.slice L.pA L.pn L.pc), (.slice L.pay.A L.pay.n L.pay.c)])]) (v := (.bool true)) rfl ca_28 (fun w h => sameC w N L (hdN.trans hdL.symm) (hdN ▸ hsm) (St.enter (sp := []) (Kc := []) (bi := [2, 1]) h rfl rfl rfl))) rfl ?_
  refine sgq (St.closed _ _ _ _) rfl (q_pick rfl (fun h => nomatch h) (fun _ => rfl)) rfl ?_
  refine sq (St.closed _ _ _ _) (q_pick rfl (fun _ => rfl) (fun h => nomatch h)) rfl ?_
  refine sq (St.closed _ _ _ _) (q_move rfl) rfl ?_
  refine sgq (St.closed _ _ _ _) rfl (q_call (vs := []) (v := (.bool true)) rfl ca_29 (fun w h => aliveC w   (St.enter (sp := []) (Kc := []) (bi := []) h rfl rfl rfl))) rfl ?_
  refine sq (St.closed _ _ _ _) (q_pick rfl (fun _ => rfl) (fun h => nomatch h)) rfl ?_
  refine sq (St.closed _ _ _ _) (q_assign rfl) rfl ?_
  refine send ?_
  refine eseq ?_
  refine HT.ret ?_
  exact fun a ha w' hw => fin_ ha (res1 ha Tryz.results25 rfl) ⟨rfl, hw.pres⟩

/-- What is asked of a kind: the reference says r, the package says the same where it must. -/
theorem readC (w : World) (A : Option Addr) (n c : Nat) (bs : List UInt8) (s : ByteArray) (r : Option (Option LD)) (hsm : ∀ D, r = some (some D) → D.ps.length ≤ 50 → D.small)
    (hS : ∀ w : World, (Byt A n c bs).ok w → Calls Tryz.prog 26 #[.string s, .slice A n c] w (SP w (Byt A n c bs) r))
    (hI : n ≤ 400 → ∀ x, r = some x → ∀ w : World, (Byt A n c bs).ok w → Calls Tryz.prog 27 #[.string s, .slice A n c] w (IP w (Byt A n c bs) (some x))) (hst : St w [] [] [Byt A n c bs] w) :
    Calls Tryz.prog 25 #[.string s, .slice A n c] w (fun e w' => e = .returned (.bool true) ∧ Pres [] w w') := by
  rcases Nat.lt_or_ge 400 n with hn | hn
  · match r with
    | none => exact readUb w A n c bs s hn hS hst
    | some none => exact readNb w A n c bs s hn hS hst
    | some (some D) => exact readDb w A n c bs s D hn hS hst
  · match r with
    | none => exact readU w A n c bs s hn hS hst
    | some none => exact readN w A n c bs s hn hS (hI hn _ rfl) hst
    | some (some D) =>
      rcases Nat.lt_or_ge 50 D.ps.length with hp | hp
      · exact readDp w A n c bs s D hn hS hp hst
      · exact readD w A n c bs s D hn hS (hI hn _ rfl) hp (hsm D rfl hp) hst
end Go.Proofs.YtfkaafbeeegenaaGreat.Zed
