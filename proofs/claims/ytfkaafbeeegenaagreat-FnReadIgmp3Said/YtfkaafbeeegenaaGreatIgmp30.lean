/- igmp3: the reference -/
import Derived.Test.YtfkaafbeeegenaaGreatIgmp30x
import Derived.KernelRfl
namespace Go.Proofs.YtfkaafbeeegenaaGreat.Zed
set_option linter.unusedVariables false
set_option linter.unusedSimpArgs false
set_option maxRecDepth 100000
set_option maxHeartbeats 60000000


abbrev igmp3_s5_k0 (b22 : Nat) (bs : List UInt8) : Kb := ⟨b22, 39, [some (.int .u64 ((nb bs 0 : Nat) : Int)), some (.int .u64 ((0 : Nat) : Int)), some (.int .u64 ((bN bs 2 2 : Nat) : Int)), some (.int .u64 ((0 : Nat) : Int)), some (.int .u64 ((0 : Nat) : Int)), some (.int .u64 ((0 : Nat) : Int)), some (.int .u64 ((bN bs 6 2 : Nat) : Int)), some (.int .u64 ((0 : Nat) : Int)), some (.int .u64 ((3 : Nat) : Int))], true⟩
abbrev igmp3_s5_k1 (b168 : Nat) (bs : List UInt8) (i : Nat) : Kb := ⟨b168, 39, [some (.int .u64 ((nb bs (rof bs i) : Nat) : Int)), some (.int .u64 ((0 : Nat) : Int)), some (.int .u64 ((bN bs ((rof bs i) + 2) 2 : Nat) : Int)), some (.int .u64 ((0 : Nat) : Int))], true⟩
abbrev igmp3_s5_k2 (b2 : Nat) : Kb := ⟨b2, 29, [some (.slice none 0 0), some (.slice none 0 0), some (.slice none 0 0), some (.slice none 0 0)], true⟩
abbrev igmp3_s5_k3 (b5 : Nat) (b22 : Nat) (b24 : Nat) (v : Value) : Kb := ⟨b5, 29, [some (.slice (some ⟨b22, 0, none⟩) 9 9), some (.slice (some ⟨b24, 0, none⟩) 1 1), some v, some (.slice none 0 0)], true⟩
abbrev igmp3_s5_k4 (b175 : Nat) (b168 : Nat) (Ai : Option Addr) (ci : Nat) (bs : List UInt8) (i : Nat) : Kb := ⟨b175, 49, [some (.slice (some ⟨b168, 0, none⟩) 4 4), some (.slice (cutA Ai ci 4) ((8 + (4 * (bN bs ((rof bs i) + 2) 2))) - 4) (ci - 4))], true⟩
abbrev igmp3_s5_k5 (b5 : Nat) (b22 : Nat) (b24 : Nat) (v176 : Value) : Kb := ⟨b5, 29, [some (.slice (some ⟨b22, 0, none⟩) 9 9), some (.slice (some ⟨b24, 0, none⟩) 1 1), some v176, some (.slice none 0 0)], true⟩
abbrev igmp3_s5_k6 (b2 : Nat) (b22 : Nat) (b24 : Nat) (Av : Option Addr) (i : Nat) (cv : Nat) : Kb := ⟨b2, 29, [some (.slice (some ⟨b22, 0, none⟩) 9 9), some (.slice (some ⟨b24, 0, none⟩) 1 1), some (.slice Av i cv), some (.slice none 0 0)], true⟩
abbrev igmp3_s5_k7 (b5 : Nat) (b22 : Nat) (b24 : Nat) (Av : Option Addr) (i : Nat) (cv : Nat) : Kb := ⟨b5, 29, [some (.slice (some ⟨b22, 0, none⟩) 9 9), some (.slice (some ⟨b24, 0, none⟩) 1 1), some (.slice Av i cv), some (.slice none 0 0)], true⟩
abbrev igmp3_s5_k8 (b2 : Nat) (b22 : Nat) (b24 : Nat) (v : Value) : Kb := ⟨b2, 29, [some (.slice (some ⟨b22, 0, none⟩) 9 9), some (.slice (some ⟨b24, 0, none⟩) 1 1), some v, some (.slice none 0 0)], true⟩

theorem igmp3_s5 (w : World) (A : Option Addr) (n : Nat) (c : Nat) (bs : List UInt8) (N : Nat) (hn : n ≤ 2147483647) (ha : 8 ≤ n) (hb : nb bs 0 = 34) (hc : ∀ i, i < N → rof bs i + 8 ≤ n ∧ nb bs (rof bs i + 1) = 0 ∧ rof bs (i + 1) ≤ n) (hd : N < bN bs 6 2) (he : n < rof bs N + 8 ∨ nb bs (rof bs N + 1) ≠ 0 ∨ n < rof bs (N + 1)) (hst : St w [] [] [Byt A n c bs] w) : Calls Tryz.prog 44 #[(.slice A n c)] w (CP w [] [Byt A n c bs] (ι := BI × BI × BI × BI) (fun u => .tuple #[.agg #[u.1.val, u.2.1.val, u.2.2.1.val, u.2.2.2.val], .bool true, .bool false]) (fun _ => []) (fun _ => [])) := by
  have hnc00 : n ≤ c := (hst.fact (j := 0) rfl).2.1
  refine enter (vs := [(.slice A n c)]) Tryz.func44 rfl rfl rfl hst ?_
  refine HT.seq ?_
  refine HT.plain ?_
  refine sl_ (l_alloc (by decide) zero_29 fun b2 => ?_)
  refine sAs rfl rfl ?_
  refine sAs rfl rfl ?_
  refine send ?_
  refine eseq ?_
  refine HT.seq ?_
  refine HT.seq ?_
  refine HT.plain ?_
  refine sMv rfl rfl ?_
  refine sqS (q_len (len := n) rfl Tryz.underlying22) rfl ?_
  refine sqS (q_F (q_lt (p := n) (q := 8) rfl rfl) (by omega)) rfl ?_
  refine send ?_
  refine eseq ?_
  refine HT.no rfl ?_
  refine HT.skip ?_
  refine eseq ?_
  refine HT.seq ?_
  refine HT.drawnS mixed (St.closed _ _ _ _) ?_
  refine dtake (f := 4) [0, 1, 2, 3, 4, 5, 6] (by kernel_rfl) (St.closed _ _ _ _) (fun _ h => h) (by kernel_rfl) ?_
  refine dq rfl (q_move rfl) ?_
  refine dq rfl (q_index (i := 0) (j := 0) rfl rfl Tryz.underlying22 nagg_5 (fun _ h => h) rfl (by omega)) ?_
  refine dq rfl (q_byte (i := 0) (j := 0) rfl nagg_5 (fun _ h => h) rfl (by omega)) ?_
  refine dq rfl (q_convn (p := nb bs 0) rfl Tryz.underlying5 Tryz.underlying39 (show nb bs 0 < 18446744073709551616 by have := nb_lt bs 0; omega)) ?_
  refine dq rfl (q_move rfl) ?_
  refine dq rfl (q_slice (lo := 2) (hi := 4) rfl Tryz.underlying22 nagg_5 (.inr ⟨_, _, rfl, rfl⟩) (.inr ⟨_, _, rfl, rfl⟩) (by omega) (by omega)) ?_
  refine dq rfl (q_call (vs := [(.slice (cutA A c 2) (4 - 2) (c - 2))]) (v := (.int .u64 ((bN bs 2 2 : Nat) : Int))) rfl ca_34 (fun w h => NumberC w A n c bs (lo := 2) (hi := 4) (h.fact (j := 0) rfl) (k := 2) rfl (by decide) (by omega) (by omega))) ?_
  refine QL.nil ?_
  refine RG.step2 7 9 (by kernel_rfl) ?_ ?_
  · refine dop rfl (l_buildSlice (e := 39) (vs := [(0, (.int .u64 ((nb bs 0 : Nat) : Int))), (1, (.int .u64 ((0 : Nat) : Int))), (2, (.int .u64 ((bN bs 2 2 : Nat) : Int))), (3, (.int .u64 ((0 : Nat) : Int))), (4, (.int .u64 ((0 : Nat) : Int))), (5, (.int .u64 ((0 : Nat) : Int))), (6, (.int .u64 ((0 : Nat) : Int))), (7, (.int .u64 ((0 : Nat) : Int))), (8, (.int .u64 ((3 : Nat) : Int)))]) (cs := [(.int .u64 ((nb bs 0 : Nat) : Int)), (.int .u64 ((0 : Nat) : Int)), (.int .u64 ((bN bs 2 2 : Nat) : Int)), (.int .u64 ((0 : Nat) : Int)), (.int .u64 ((0 : Nat) : Int)), (.int .u64 ((0 : Nat) : Int)), (.int .u64 ((0 : Nat) : Int)), (.int .u64 ((0 : Nat) : Int)), (.int .u64 ((3 : Nat) : Int))]) (by decide) rfl (fun _ => by kernel_rfl) fun b22 => ⟨(fun _ h => (h.wk [(0, [])] rfl)), ?_⟩)
    refine dtake (f := 2) [8] (by kernel_rfl) (St.closed _ _ _ _) (fun _ h => (h.wk [(0, [])] rfl)) (by kernel_rfl) ?_
    refine dq rfl (q_call (vs := [(.slice none 0 0), (.slice (some ⟨b22, 0, none⟩) 9 9)]) (v := (.agg #[(.slice (some ⟨b22, 0, none⟩) 9 9), (.slice none 0 0), (.slice none 0 0), (.slice none 0 0)])) rfl ca_33 (fun w h => layerC w none 0 0 (some ⟨b22, 0, none⟩) 9 9  (St.enter (sp := []) (Kc := []) (bi := []) h rfl rfl rfl))) ?_
    refine QL.nil ?_
    refine RG.step1 9 (by kernel_rfl) ?_
    refine dop rfl (l_alloc (by decide) zero_29 fun b5 => ⟨(fun _ h => (h.wk [(0, [])] rfl)), ?_⟩)
    refine RG.step1 10 (by kernel_rfl) ?_
    refine dop rfl (l_storeAgg (b := b5) (off := 0) (j := 2) (vs := [(.slice (some ⟨b22, 0, none⟩) 9 9), (.slice none 0 0), (.slice none 0 0), (.slice none 0 0)]) rfl rfl aggs_29 (by simp [Value.one1]) rfl rfl rfl (Nat.le_of_ble_eq_true rfl) ⟨(fun _ h => (h.wk [(0, [])] rfl)), ?_⟩)
    refine dend (by kernel_rfl) ?_
    refine eseq ?_
    refine HT.seq ?_
    refine HT.plain ?_
    refine sl_ (l_buildSlice (e := 22) (vs := [(0, (.slice none 0 0))]) (cs := [(.slice none 0 0)]) (by decide) rfl (fun _ => by kernel_rfl) fun b24 => ?_)
    refine sqS (q_field (b := b5) (off := 0) rfl fo_29_1) rfl ?_
    refine sl_ (l_store (b := b5) (off := 1) (j := 2) rfl rfl nagg_26 rfl rfl rfl rfl (dlt rfl) ?_)
    refine send ?_
    refine eseq ?_
    refine HT.seq ?_
    refine HT.block ?_
    refine HT.seq ?_
    refine HT.plain ?_
    refine sMv rfl rfl ?_
    refine sqS (q_index (i := 0) (j := 0) rfl rfl Tryz.underlying22 nagg_5 (fun _ h => h) rfl (by omega)) rfl ?_
    refine sqS (q_byte (i := 0) (j := 0) rfl nagg_5 (fun _ h => h) rfl (by omega)) rfl ?_
    refine sqS (q_F (q_eq (p := nb bs 0) (q := 17) rfl rfl) (by have := nb_lt bs 0; omega)) rfl ?_
    refine sMv rfl rfl ?_
    refine sskip rfl rfl ?_
    refine sskip rfl rfl ?_
    refine sskip rfl rfl ?_
    refine sqS (q_pick rfl (fun h => nomatch h) (fun _ => rfl)) rfl ?_
    refine sAs rfl rfl ?_
    refine send ?_
    refine eseq ?_
    refine HT.no rfl ?_
    refine HT.seq ?_
    refine HT.plain ?_
    refine sMv rfl rfl ?_
    refine sqS (q_index (i := 0) (j := 0) rfl rfl Tryz.underlying22 nagg_5 (fun _ h => h) rfl (by omega)) rfl ?_
    refine sqS (q_byte (i := 0) (j := 0) rfl nagg_5 (fun _ h => h) rfl (by omega)) rfl ?_
    refine sqS (q_T (q_eq (p := nb bs 0) (q := 34) rfl rfl) (by have := nb_lt bs 0; omega)) rfl ?_
    refine sAs rfl rfl ?_
    refine send ?_
    refine eseq ?_
    refine HT.yes rfl ?_
    refine HT.seq ?_
    refine HT.drawnS mixed (St.closed _ _ _ _) ?_
    refine dtake (f := 0) [0, 1, 2, 3, 4, 5, 6, 7] (by kernel_rfl) (St.closed _ _ _ _) (fun _ h => h) (by kernel_rfl) ?_
    refine dq rfl (q_move rfl) ?_
    refine dq rfl (q_slice (lo := 6) (hi := 8) rfl Tryz.underlying22 nagg_5 (.inr ⟨_, _, rfl, rfl⟩) (.inr ⟨_, _, rfl, rfl⟩) (by omega) (by omega)) ?_
    refine dq rfl (q_call (vs := [(.slice (cutA A c 6) (8 - 6) (c - 6))]) (v := (.int .u64 ((bN bs 6 2 : Nat) : Int))) rfl ca_34 (fun w h => NumberC w A n c bs (lo := 6) (hi := 8) (h.fact (j := 0) rfl) (k := 2) rfl (by decide) (by omega) (by omega))) ?_
    refine dq rfl (q_convn (p := bN bs 6 2) rfl Tryz.underlying39 Tryz.underlying3 (show bN bs 6 2 < 9223372036854775808 by have := bN_lt bs 6 2 65536 rfl; omega)) ?_
    refine dq rfl (q_move rfl) ?_
    refine dq rfl (q_slice (lo := 8) (hi := n) rfl Tryz.underlying22 nagg_5 (.inr ⟨_, _, rfl, rfl⟩) (.inl ⟨rfl, rfl⟩) (by omega) (by omega)) ?_
    refine dq rfl (q_assign rfl) ?_
    refine dq rfl (q_assign rfl) ?_
    refine QL.nil ?_
    refine dend (by kernel_rfl) ?_
    refine eseq ?_
    refine HT.seq ?_
    refine HT.plain ?_
    refine sqS (q_field (b := b5) (off := 0) rfl fo_29_0) rfl ?_
    refine sqS (q_load (b := b5) (off := 0) (j := 2) rfl nagg_25 (fun _ h => h) rfl rfl rfl) rfl ?_
    refine sMv rfl rfl ?_
    refine sqS (q_convn (p := bN bs 6 2) rfl Tryz.underlying3 Tryz.underlying39 (show bN bs 6 2 < 18446744073709551616 by have := bN_lt bs 6 2 65536 rfl; omega)) rfl ?_
    refine sqS (q_indexK (b := b22) (i := 6) (sz := 1) rfl rfl Tryz.underlying25 size_39 (by decide)) rfl ?_
    refine sl_ (l_store (b := b22) (off := 6) (j := 1) rfl rfl nagg_39 rfl rfl rfl rfl (dlt rfl) ?_)
    refine send ?_
    refine eseq ?_
    refine HT.seq ?_
    refine HT.seq ?_
    refine HT.plain ?_
    refine sMv rfl rfl ?_
    refine sMv rfl rfl ?_
    refine send ?_
    refine eseq ?_
    refine HT.block ?_
    refine HT.loop (ι := {p : Nat × Option Addr × Nat × Value × List Kb × List (NI × BI) // PSt w.heap.size (Byt A n c bs) (fun j => ([nb bs (rof bs j), 0, bN bs (rof bs j + 2) 2, 0], sl bs (rof bs j + 4) (rof bs (j + 1)))) (fun j => rof bs j) n bs N p.1 p.2.1 p.2.2.1 p.2.2.2.1 p.2.2.2.2.1 p.2.2.2.2.2}) (fun p => [(2, (.pointer (some ⟨b2, 0, none⟩))), (5, (.pointer (some ⟨b5, 0, none⟩))), (136, (.int .i64 ((bN bs 6 2 : Nat) : Int))), (9, (.slice p.1.2.1 (n - (rof bs p.1.1)) p.1.2.2.1)), (137, (.int .i64 ((p.1.1 : Nat) : Int)))]) (fun p => St w [] ([(igmp3_s5_k2 b2), (igmp3_s5_k0 b22 bs), ⟨b5, 29, [some (.slice (some ⟨b22, 0, none⟩) 9 9), some (.slice (some ⟨b24, 0, none⟩) 1 1), some p.1.2.2.2.1, some (.slice none 0 0)], true⟩, ⟨b24, 22, [some (.slice none 0 0)], true⟩] ++ p.1.2.2.2.2.1) [Byt A n c bs, Byt p.1.2.1 (n - (rof bs p.1.1)) p.1.2.2.1 (sl bs (rof bs p.1.1) n), psF p.1.2.2.2.2.2]) (fun p => N - p.1.1) ⟨(0, cutA A c 8, c - 8, .slice none 0 0, [], []), PSt.nil (fun x hx => Byt.cut_fp (lo := 8) (hi := n) hx.1 hx) (show n - 8 ≤ c - 8 by omega)⟩ ⟨rfl, rfl, rfl, rfl, rfl, trivial⟩ (fun _ h => psF_nil (B := [Byt A n c bs, Byt (cutA A c 8) (n - 8) (c - 8) (sl bs 8 n)]) (h.cut (j := 0) (lo := 8) (hi := n) rfl (by omega) (by omega))) fun ⟨⟨i, Ai, ci, v, Kr, ps⟩, hp⟩ => ?_
    replace hp : PSt w.heap.size (Byt A n c bs) (fun j => ([nb bs (rof bs j), 0, bN bs (rof bs j + 2) 2, 0], sl bs (rof bs j + 4) (rof bs (j + 1)))) (fun j => rof bs j) n bs N i Ai ci v Kr ps := hp
    have hil : i ≤ N := hp.le
    have hr : RowS 49 2 i (psV ps) v Kr := hp.row
    have hcp : n - rof bs i ≤ ci := hp.cap
    have ho := rof_succ bs i
    have hge := rof_ge bs i
    have hal : rof bs i ≤ n := og_le (by omega) (fun j hj => (hc j hj).2.2) i (by omega)
    have hc := hc i
    have h65 := bN_lt bs (rof bs i + 2) 2 65536 rfl
    have h66 := bN_lt bs 6 2 65536 rfl
    have hz : i = N → (n < rof bs i + 8 ∨ nb bs (rof bs i + 1) ≠ 0 ∨ n < rof bs (i + 1)) := fun e => by rw [e]; exact he
    show HT _ _ _ [(2, (.pointer (some ⟨b2, 0, none⟩))), (5, (.pointer (some ⟨b5, 0, none⟩))), (136, (.int .i64 ((bN bs 6 2 : Nat) : Int))), (9, (.slice Ai (n - (rof bs i)) ci)), (137, (.int .i64 ((i : Nat) : Int)))] (St w [] ([(igmp3_s5_k2 b2), (igmp3_s5_k0 b22 bs), (igmp3_s5_k3 b5 b22 b24 v), ⟨b24, 22, [some (.slice none 0 0)], true⟩] ++ Kr) [Byt A n c bs, Byt Ai (n - (rof bs i)) ci (sl bs (rof bs i) n), psF ps]) _
    refine HT.seq ?_
    refine HT.plain ?_
    refine sqS (q_T (q_lt (p := i) (q := bN bs 6 2) rfl rfl) (by have := hil; have := bN_lt bs 6 2 65536 rfl; omega)) rfl ?_
    refine send ?_
    refine eseq ?_
    refine HT.seq ?_
    refine HT.yes rfl ?_
    refine HT.skip ?_
    refine eseq ?_
    refine HT.seq ?_
    refine HT.block ?_
    refine HT.seq ?_
    refine HT.seq ?_
    refine HT.plain ?_
    refine sMv rfl rfl ?_
    refine sqS (q_len (len := n - (rof bs i)) rfl Tryz.underlying22) rfl ?_
    by_cases h1 : n - (rof bs i) < 8
    · refine sqS (q_T (q_lt (p := n - (rof bs i)) (q := 8) rfl rfl) h1) rfl ?_
      refine send ?_
      refine eseq ?_
      refine HT.yes rfl ?_
      refine HT.seq ?_
      refine HT.plain ?_
      refine sqS (q_loadAgg (b := b5) (off := 0) (j := 2) (vs := [(.slice (some ⟨b22, 0, none⟩) 9 9), (.slice (some ⟨b24, 0, none⟩) 1 1), v, (.slice none 0 0)]) rfl aggs_29 (fun _ h => h) rfl rfl rfl) rfl ?_
      refine sl_ (l_storeAgg (b := b2) (off := 0) (j := 0) (vs := [(.slice (some ⟨b22, 0, none⟩) 9 9), (.slice (some ⟨b24, 0, none⟩) 1 1), v, (.slice none 0 0)]) rfl rfl aggs_29 (by intro x hx; simp only [List.mem_cons, List.not_mem_nil, or_false] at hx; rcases hx with rfl | rfl | rfl | rfl <;> first | rfl | exact hr.one) rfl rfl rfl (Nat.le_of_ble_eq_true rfl) ?_)
      refine sAs rfl rfl ?_
      refine sAs rfl rfl ?_
      refine send ?_
      refine eseq ?_
      refine HT.norm ([(igmp3_s5_k8 b2 b22 b24 v), (igmp3_s5_k0 b22 bs), (igmp3_s5_k3 b5 b22 b24 v), ⟨b24, 22, [some (.slice none 0 0)], true⟩] ++ Kr) [Byt A n c bs, Byt Ai (n - (rof bs i)) ci (sl bs (rof bs i) n), psF ps] rfl rfl ?_
      refine HT.ret ?_
      refine rt_then ?_
      refine rt_in ?_
      refine rt_then ?_
      refine rt_then ?_
      refine rt_in ?_
      refine rt_then ?_
      refine rt_in ?_
      refine rt_then ?_
      obtain ⟨Av, cv, hv⟩ := hr.val
      subst hv
      exact fun a ha w' hw => fin_ ha (resc3 ha Tryz.results44 rfl (ld_ aggs_29 hw (j := 0) rfl rfl (vs := [(.slice (some ⟨b22, 0, none⟩) 9 9), (.slice (some ⟨b24, 0, none⟩) 1 1), (.slice Av i cv), (.slice none 0 0)]) rfl) rfl rfl) ⟨(⟨(some ⟨b22, 0, none⟩), 9, 9, []⟩, ⟨(some ⟨b24, 0, none⟩), 1, 1, []⟩, ⟨Av, i, cv, []⟩, ⟨none, 0, 0, []⟩), rfl, (((St.untail (K := [(igmp3_s5_k6 b2 b22 b24 Av i cv), (igmp3_s5_k0 b22 bs), (igmp3_s5_k7 b5 b22 b24 Av i cv), ⟨b24, 22, [some (.slice none 0 0)], true⟩]) (Kr := Kr) hw).wk [] rfl).selF [0] rfl), fr0⟩
    · refine sqS (q_F (q_lt (p := n - (rof bs i)) (q := 8) rfl rfl) h1) rfl ?_
      refine send ?_
      refine eseq ?_
      refine HT.no rfl ?_
      refine HT.skip ?_
      refine eseq ?_
      refine HT.seq ?_
      refine HT.plain ?_
      refine sMv rfl rfl ?_
      refine sqS (q_slice (lo := 2) (hi := 4) rfl Tryz.underlying22 nagg_5 (.inr ⟨_, _, rfl, rfl⟩) (.inr ⟨_, _, rfl, rfl⟩) (by omega) (by omega)) rfl ?_
      refine sqS (q_N (q_call (vs := [(.slice (cutA Ai ci 2) (4 - 2) (ci - 2))]) (v := (.int .u64 ((bN (sl bs (rof bs i) n) 2 2 : Nat) : Int))) rfl ca_34 (fun w h => NumberC w Ai (n - (rof bs i)) ci (sl bs (rof bs i) n) (lo := 2) (hi := 4) (h.fact (j := 1) rfl) (k := 2) rfl (by decide) (by omega) (by omega))) (a := bN (sl bs (rof bs i) n) 2 2) (b := bN bs ((rof bs i) + 2) 2) (bN_sl 2 2 (by omega))) rfl ?_
      refine sqS (q_convn (p := bN bs ((rof bs i) + 2) 2) rfl Tryz.underlying39 Tryz.underlying3 (show bN bs ((rof bs i) + 2) 2 < 9223372036854775808 by have := bN_lt bs ((rof bs i) + 2) 2 65536 rfl; omega)) rfl ?_
      refine sAs rfl rfl ?_
      refine send ?_
      refine eseq ?_
      refine HT.seq ?_
      refine HT.seq ?_
      refine HT.plain ?_
      refine sMv rfl rfl ?_
      refine sqS (q_index (i := 1) (j := 1) rfl rfl Tryz.underlying22 nagg_5 (fun _ h => h) rfl (by omega)) rfl ?_
      refine sqS (q_N (q_byte (i := 1) (j := 1) rfl nagg_5 (fun _ h => h) rfl (by omega)) (a := nb (sl bs (rof bs i) n) 1) (b := nb bs ((rof bs i) + 1)) (nb_sl (by omega))) rfl ?_
      by_cases h2 : nb bs ((rof bs i) + 1) ≠ 0
      · refine sqS (q_T (q_ne (p := nb bs ((rof bs i) + 1)) (q := 0) rfl rfl) h2) rfl ?_
        refine sMv rfl rfl ?_
        refine sskip rfl rfl ?_
        refine sskip rfl rfl ?_
        refine sskip rfl rfl ?_
        refine sskip rfl rfl ?_
        refine sskip rfl rfl ?_
        refine sskip rfl rfl ?_
        refine sqS (q_pick rfl (fun _ => rfl) (fun h => nomatch h)) rfl ?_
        refine send ?_
        refine eseq ?_
        refine HT.yes rfl ?_
        refine HT.seq ?_
        refine HT.plain ?_
        refine sqS (q_loadAgg (b := b5) (off := 0) (j := 2) (vs := [(.slice (some ⟨b22, 0, none⟩) 9 9), (.slice (some ⟨b24, 0, none⟩) 1 1), v, (.slice none 0 0)]) rfl aggs_29 (fun _ h => h) rfl rfl rfl) rfl ?_
        refine sl_ (l_storeAgg (b := b2) (off := 0) (j := 0) (vs := [(.slice (some ⟨b22, 0, none⟩) 9 9), (.slice (some ⟨b24, 0, none⟩) 1 1), v, (.slice none 0 0)]) rfl rfl aggs_29 (by intro x hx; simp only [List.mem_cons, List.not_mem_nil, or_false] at hx; rcases hx with rfl | rfl | rfl | rfl <;> first | rfl | exact hr.one) rfl rfl rfl (Nat.le_of_ble_eq_true rfl) ?_)
        refine sAs rfl rfl ?_
        refine sAs rfl rfl ?_
        refine send ?_
        refine eseq ?_
        refine HT.norm ([(igmp3_s5_k8 b2 b22 b24 v), (igmp3_s5_k0 b22 bs), (igmp3_s5_k3 b5 b22 b24 v), ⟨b24, 22, [some (.slice none 0 0)], true⟩] ++ Kr) [Byt A n c bs, Byt Ai (n - (rof bs i)) ci (sl bs (rof bs i) n), psF ps] rfl rfl ?_
        refine HT.ret ?_
        refine rt_then ?_
        refine rt_in ?_
        refine rt_then ?_
        refine rt_then ?_
        refine rt_in ?_
        refine rt_then ?_
        refine rt_in ?_
        refine rt_then ?_
        obtain ⟨Av, cv, hv⟩ := hr.val
        subst hv
        exact fun a ha w' hw => fin_ ha (resc3 ha Tryz.results44 rfl (ld_ aggs_29 hw (j := 0) rfl rfl (vs := [(.slice (some ⟨b22, 0, none⟩) 9 9), (.slice (some ⟨b24, 0, none⟩) 1 1), (.slice Av i cv), (.slice none 0 0)]) rfl) rfl rfl) ⟨(⟨(some ⟨b22, 0, none⟩), 9, 9, []⟩, ⟨(some ⟨b24, 0, none⟩), 1, 1, []⟩, ⟨Av, i, cv, []⟩, ⟨none, 0, 0, []⟩), rfl, (((St.untail (K := [(igmp3_s5_k6 b2 b22 b24 Av i cv), (igmp3_s5_k0 b22 bs), (igmp3_s5_k7 b5 b22 b24 Av i cv), ⟨b24, 22, [some (.slice none 0 0)], true⟩]) (Kr := Kr) hw).wk [] rfl).selF [0] rfl), fr0⟩
      · refine sqS (q_F (q_ne (p := nb bs ((rof bs i) + 1)) (q := 0) rfl rfl) h2) rfl ?_
        refine sMv rfl rfl ?_
        refine sgqS rfl (q_move rfl) rfl ?_
        refine sgqS rfl (q_len (len := n - (rof bs i)) rfl Tryz.underlying22) rfl ?_
        refine sgqS rfl (q_move rfl) rfl ?_
        refine sgqS rfl (q_mul (p := 4) (q := bN bs ((rof bs i) + 2) 2) rfl rfl (show 4 * (bN bs ((rof bs i) + 2) 2) < 9223372036854775808 by have := bN_lt bs ((rof bs i) + 2) 2 65536 rfl; omega)) rfl ?_
        refine sgqS rfl (q_add (p := 8) (q := 4 * (bN bs ((rof bs i) + 2) 2)) rfl rfl (show 8 + (4 * (bN bs ((rof bs i) + 2) 2)) < 9223372036854775808 by have := bN_lt bs ((rof bs i) + 2) 2 65536 rfl; omega)) rfl ?_
        by_cases h3 : n - (rof bs i) < 8 + (4 * (bN bs ((rof bs i) + 2) 2))
        · refine sgqS rfl (q_T (q_lt (p := n - (rof bs i)) (q := 8 + (4 * (bN bs ((rof bs i) + 2) 2))) rfl rfl) h3) rfl ?_
          refine sqS (q_pick rfl (fun h => nomatch h) (fun _ => rfl)) rfl ?_
          refine send ?_
          refine eseq ?_
          refine HT.yes rfl ?_
          refine HT.seq ?_
          refine HT.plain ?_
          refine sqS (q_loadAgg (b := b5) (off := 0) (j := 2) (vs := [(.slice (some ⟨b22, 0, none⟩) 9 9), (.slice (some ⟨b24, 0, none⟩) 1 1), v, (.slice none 0 0)]) rfl aggs_29 (fun _ h => h) rfl rfl rfl) rfl ?_
          refine sl_ (l_storeAgg (b := b2) (off := 0) (j := 0) (vs := [(.slice (some ⟨b22, 0, none⟩) 9 9), (.slice (some ⟨b24, 0, none⟩) 1 1), v, (.slice none 0 0)]) rfl rfl aggs_29 (by intro x hx; simp only [List.mem_cons, List.not_mem_nil, or_false] at hx; rcases hx with rfl | rfl | rfl | rfl <;> first | rfl | exact hr.one) rfl rfl rfl (Nat.le_of_ble_eq_true rfl) ?_)
          refine sAs rfl rfl ?_
          refine sAs rfl rfl ?_
          refine send ?_
          refine eseq ?_
          refine HT.norm ([(igmp3_s5_k8 b2 b22 b24 v), (igmp3_s5_k0 b22 bs), (igmp3_s5_k3 b5 b22 b24 v), ⟨b24, 22, [some (.slice none 0 0)], true⟩] ++ Kr) [Byt A n c bs, Byt Ai (n - (rof bs i)) ci (sl bs (rof bs i) n), psF ps] rfl rfl ?_
          refine HT.ret ?_
          refine rt_then ?_
          refine rt_in ?_
          refine rt_then ?_
          refine rt_then ?_
          refine rt_in ?_
          refine rt_then ?_
          refine rt_in ?_
          refine rt_then ?_
          obtain ⟨Av, cv, hv⟩ := hr.val
          subst hv
          exact fun a ha w' hw => fin_ ha (resc3 ha Tryz.results44 rfl (ld_ aggs_29 hw (j := 0) rfl rfl (vs := [(.slice (some ⟨b22, 0, none⟩) 9 9), (.slice (some ⟨b24, 0, none⟩) 1 1), (.slice Av i cv), (.slice none 0 0)]) rfl) rfl rfl) ⟨(⟨(some ⟨b22, 0, none⟩), 9, 9, []⟩, ⟨(some ⟨b24, 0, none⟩), 1, 1, []⟩, ⟨Av, i, cv, []⟩, ⟨none, 0, 0, []⟩), rfl, (((St.untail (K := [(igmp3_s5_k6 b2 b22 b24 Av i cv), (igmp3_s5_k0 b22 bs), (igmp3_s5_k7 b5 b22 b24 Av i cv), ⟨b24, 22, [some (.slice none 0 0)], true⟩]) (Kr := Kr) hw).wk [] rfl).selF [0] rfl), fr0⟩
        · refine sgqS rfl (q_F (q_lt (p := n - (rof bs i)) (q := 8 + (4 * (bN bs ((rof bs i) + 2) 2))) rfl rfl) h3) rfl ?_
          refine sqS (q_pick rfl (fun h => nomatch h) (fun _ => rfl)) rfl ?_
          refine send ?_
          refine eseq ?_
          refine HT.no rfl ?_
          refine HT.skip ?_
          refine eseq ?_
          refine HT.seq ?_
          refine HT.drawn mixed (St.closed _ _ _ _) (St w [] [(igmp3_s5_k2 b2), (igmp3_s5_k0 b22 bs), ⟨b5, 29, [some (.slice (some ⟨b22, 0, none⟩) 9 9), some (.slice (some ⟨b24, 0, none⟩) 1 1), none, some (.slice none 0 0)], true⟩, ⟨b24, 22, [some (.slice none 0 0)], true⟩] [Byt A n c bs, Byt Ai (n - (rof bs i)) ci (sl bs (rof bs i) n), psF ps]) ?_
          refine dtake (f := 7) [0, 2, 3, 4, 5, 6, 7, 9, 10, 11, 12, 13] (by kernel_rfl) (St.closed _ _ _ _) (fun _ h => (St.wk (St.untail (K := [(igmp3_s5_k2 b2), (igmp3_s5_k0 b22 bs), (igmp3_s5_k3 b5 b22 b24 v), ⟨b24, 22, [some (.slice none 0 0)], true⟩]) (Kr := Kr) h) [(0, []), (1, []), (2, [2]), (3, [])] rfl)) (by kernel_rfl) ?_
          refine dq rfl (q_field (b := b5) (off := 0) rfl fo_29_2) ?_
          refine dq rfl (q_move rfl) ?_
          refine dq rfl (q_index (i := 0) (j := 1) rfl rfl Tryz.underlying22 nagg_5 (fun _ h => h) rfl (by omega)) ?_
          refine dq rfl (q_N (q_byte (i := 0) (j := 1) rfl nagg_5 (fun _ h => h) rfl (by omega)) (a := nb (sl bs (rof bs i) n) 0) (b := nb bs (rof bs i)) (nb_sl (by omega))) ?_
          refine dq rfl (q_convn (p := nb bs (rof bs i)) rfl Tryz.underlying5 Tryz.underlying39 (show nb bs (rof bs i) < 18446744073709551616 by have := nb_lt bs (rof bs i); omega)) ?_
          refine dq rfl (q_move rfl) ?_
          refine dq rfl (q_convn (p := bN bs ((rof bs i) + 2) 2) rfl Tryz.underlying3 Tryz.underlying39 (show bN bs ((rof bs i) + 2) 2 < 18446744073709551616 by have := bN_lt bs ((rof bs i) + 2) 2 65536 rfl; omega)) ?_
          refine dq rfl (q_move rfl) ?_
          refine dq rfl (q_move rfl) ?_
          refine dq rfl (q_mul (p := 4) (q := bN bs ((rof bs i) + 2) 2) rfl rfl (show 4 * (bN bs ((rof bs i) + 2) 2) < 9223372036854775808 by have := bN_lt bs ((rof bs i) + 2) 2 65536 rfl; omega)) ?_
          refine dq rfl (q_add (p := 8) (q := 4 * (bN bs ((rof bs i) + 2) 2)) rfl rfl (show 8 + (4 * (bN bs ((rof bs i) + 2) 2)) < 9223372036854775808 by have := bN_lt bs ((rof bs i) + 2) 2 65536 rfl; omega)) ?_
          refine dq rfl (q_slice (lo := 4) (hi := 8 + (4 * (bN bs ((rof bs i) + 2) 2))) rfl Tryz.underlying22 nagg_5 (.inr ⟨_, _, rfl, rfl⟩) (.inr ⟨_, _, rfl, rfl⟩) (by have := bN_lt bs ((rof bs i) + 2) 2 65536 rfl; omega) (by have := bN_lt bs ((rof bs i) + 2) 2 65536 rfl; omega)) ?_
          refine QL.nil ?_
          refine RG.step2 1 8 (by kernel_rfl) ?_ ?_
          · refine dop rfl (l_q _ (by simp) (St.closed _ _ _ _) (q_load (b := b5) (off := 2) (j := 2) rfl nagg_27 (fun _ h => h) rfl rfl rfl) ⟨(fun _ h => (St.wk (St.untail (K := [(igmp3_s5_k2 b2), (igmp3_s5_k0 b22 bs), (igmp3_s5_k3 b5 b22 b24 v), ⟨b24, 22, [some (.slice none 0 0)], true⟩]) (Kr := Kr) h) [(0, []), (1, []), (2, [2]), (3, [])] rfl)), ?_⟩)
            refine RG.step1 8 (by kernel_rfl) ?_
            refine dop rfl (l_buildSliceT (K := [(igmp3_s5_k2 b2), (igmp3_s5_k0 b22 bs), (igmp3_s5_k3 b5 b22 b24 v), ⟨b24, 22, [some (.slice none 0 0)], true⟩]) (Kr := Kr) (e := 39) (vs := [(0, (.int .u64 ((nb bs (rof bs i) : Nat) : Int))), (1, (.int .u64 ((0 : Nat) : Int))), (2, (.int .u64 ((bN bs ((rof bs i) + 2) 2 : Nat) : Int))), (3, (.int .u64 ((0 : Nat) : Int)))]) (cs := [(.int .u64 ((nb bs (rof bs i) : Nat) : Int)), (.int .u64 ((0 : Nat) : Int)), (.int .u64 ((bN bs ((rof bs i) + 2) 2 : Nat) : Int)), (.int .u64 ((0 : Nat) : Int))]) (by decide) rfl (fun _ => by kernel_rfl) fun b168 => ⟨(fun _ h => (St.wk (St.untail (K := [(igmp3_s5_k2 b2), (igmp3_s5_k0 b22 bs), (igmp3_s5_k3 b5 b22 b24 v), ⟨b24, 22, [some (.slice none 0 0)], true⟩, (igmp3_s5_k1 b168 bs i)]) (Kr := Kr) h) [(0, []), (1, []), (2, [2]), (3, [])] rfl)), ?_⟩)
            refine dtake (f := 4) [14] (by kernel_rfl) (St.closed _ _ _ _) (fun _ h => (St.wk (St.untail (K := [(igmp3_s5_k2 b2), (igmp3_s5_k0 b22 bs), (igmp3_s5_k3 b5 b22 b24 v), ⟨b24, 22, [some (.slice none 0 0)], true⟩, (igmp3_s5_k1 b168 bs i)]) (Kr := Kr) h) [(0, []), (1, []), (2, [2]), (3, [])] rfl)) (by kernel_rfl) ?_
            refine dq rfl (q_build (vs := [(0, (.slice (some ⟨b168, 0, none⟩) 4 4)), (1, (.slice (cutA Ai ci 4) ((8 + (4 * (bN bs ((rof bs i) + 2) 2))) - 4) (ci - 4)))]) (v := (.agg #[(.slice (some ⟨b168, 0, none⟩) 4 4), (.slice (cutA Ai ci 4) ((8 + (4 * (bN bs ((rof bs i) + 2) 2))) - 4) (ci - 4))])) rfl (fun _ => by kernel_rfl)) ?_
            refine QL.nil ?_
            refine RG.step1 15 (by kernel_rfl) ?_
            refine dop rfl (l_buildSliceT (K := [(igmp3_s5_k2 b2), (igmp3_s5_k0 b22 bs), (igmp3_s5_k3 b5 b22 b24 v), ⟨b24, 22, [some (.slice none 0 0)], true⟩, (igmp3_s5_k1 b168 bs i)]) (Kr := Kr) (e := 49) (vs := [(0, (.agg #[(.slice (some ⟨b168, 0, none⟩) 4 4), (.slice (cutA Ai ci 4) ((8 + (4 * (bN bs ((rof bs i) + 2) 2))) - 4) (ci - 4))]))]) (cs := [(.slice (some ⟨b168, 0, none⟩) 4 4), (.slice (cutA Ai ci 4) ((8 + (4 * (bN bs ((rof bs i) + 2) 2))) - 4) (ci - 4))]) (by decide) rfl (fun _ => by kernel_rfl) fun b175 => ⟨(fun _ h => (St.wk (St.untail (K := [(igmp3_s5_k2 b2), (igmp3_s5_k0 b22 bs), (igmp3_s5_k3 b5 b22 b24 v), ⟨b24, 22, [some (.slice none 0 0)], true⟩, (igmp3_s5_k1 b168 bs i), (igmp3_s5_k4 b175 b168 Ai ci bs i)]) (Kr := Kr) h) [(0, []), (1, []), (2, [2]), (3, [])] rfl)), ?_⟩)
            refine RG.step1 16 (by kernel_rfl) ?_
            refine dop rfl (l_appendR (K0 := [(igmp3_s5_k2 b2), (igmp3_s5_k0 b22 bs), (igmp3_s5_k3 b5 b22 b24 v), ⟨b24, 22, [some (.slice none 0 0)], true⟩, (igmp3_s5_k1 b168 bs i), (igmp3_s5_k4 b175 b168 Ai ci bs i)]) (Kr := Kr) (k := i) (xs := (psV ps)) (jq := 5) (news := [(.slice (some ⟨b168, 0, none⟩) 4 4), (.slice (cutA Ai ci 4) ((8 + (4 * (bN bs ((rof bs i) + 2) 2))) - 4) (ci - 4))]) (by decide) rfl rfl Tryz.underlying27 rowT_49 (by decide) hr (by have := hil; have := bN_lt bs 6 2 65536 rfl; omega) rfl rfl (by simp [Value.one1]) fun v176 Kr176 hr176 => ⟨(fun _ h => (St.wk (St.untail (K := [(igmp3_s5_k2 b2), (igmp3_s5_k0 b22 bs), (igmp3_s5_k3 b5 b22 b24 v), ⟨b24, 22, [some (.slice none 0 0)], true⟩, (igmp3_s5_k1 b168 bs i), (igmp3_s5_k4 b175 b168 Ai ci bs i)]) (Kr := Kr176) h) [(0, []), (1, []), (2, [2]), (3, [])] rfl)), ?_⟩)
            refine dtake (f := 1) [17] (by kernel_rfl) (St.closed _ _ _ _) (fun _ h => (St.wk (St.untail (K := [(igmp3_s5_k2 b2), (igmp3_s5_k0 b22 bs), (igmp3_s5_k3 b5 b22 b24 v), ⟨b24, 22, [some (.slice none 0 0)], true⟩, (igmp3_s5_k1 b168 bs i), (igmp3_s5_k4 b175 b168 Ai ci bs i)]) (Kr := Kr176) h) [(0, []), (1, []), (2, [2]), (3, [])] rfl)) (by kernel_rfl) ?_
            refine dq rfl (q_field (b := b5) (off := 0) rfl fo_29_2) ?_
            refine QL.nil ?_
            refine RG.step1 18 (by kernel_rfl) ?_
            refine dop rfl (l_store (b := b5) (off := 2) (j := 2) rfl rfl nagg_27 hr176.one rfl rfl rfl (dlt rfl) ⟨(fun _ h => (St.wk (St.untail (K := [(igmp3_s5_k2 b2), (igmp3_s5_k0 b22 bs), (igmp3_s5_k5 b5 b22 b24 v176), ⟨b24, 22, [some (.slice none 0 0)], true⟩, (igmp3_s5_k1 b168 bs i), (igmp3_s5_k4 b175 b168 Ai ci bs i)]) (Kr := Kr176) h) [(0, []), (1, []), (2, [2]), (3, [])] rfl)), ?_⟩)
            refine dend (by kernel_rfl) ?_
            refine eseq ?_
            refine HT.norm ([(igmp3_s5_k2 b2), (igmp3_s5_k0 b22 bs), (igmp3_s5_k5 b5 b22 b24 v176), ⟨b24, 22, [some (.slice none 0 0)], true⟩, (igmp3_s5_k1 b168 bs i), (igmp3_s5_k4 b175 b168 Ai ci bs i)] ++ Kr176) [Byt A n c bs, Byt Ai (n - (rof bs i)) ci (sl bs (rof bs i) n), psF ps] rfl rfl ?_
            refine HT.plain ?_
            refine sMv rfl rfl ?_
            refine sMv rfl rfl ?_
            refine sqS (q_mul (p := 4) (q := bN bs ((rof bs i) + 2) 2) rfl rfl (show 4 * (bN bs ((rof bs i) + 2) 2) < 9223372036854775808 by have := bN_lt bs ((rof bs i) + 2) 2 65536 rfl; omega)) rfl ?_
            refine sqS (q_add (p := 8) (q := 4 * (bN bs ((rof bs i) + 2) 2)) rfl rfl (show 8 + (4 * (bN bs ((rof bs i) + 2) 2)) < 9223372036854775808 by have := bN_lt bs ((rof bs i) + 2) 2 65536 rfl; omega)) rfl ?_
            refine sqS (q_slice (lo := 8 + (4 * (bN bs ((rof bs i) + 2) 2))) (hi := n - (rof bs i)) rfl Tryz.underlying22 nagg_5 (.inr ⟨_, _, rfl, rfl⟩) (.inl ⟨rfl, rfl⟩) (by have := bN_lt bs ((rof bs i) + 2) 2 65536 rfl; omega) (by omega)) rfl ?_
            refine sAs rfl rfl ?_
            refine send ?_
            refine ein ?_
            refine eseq ?_
            refine HT.plain ?_
            refine sqS (q_add (p := i) (q := 1) rfl rfl (show i + 1 < 9223372036854775808 by have := hil; omega)) rfl ?_
            refine sMv rfl rfl ?_
            refine send ?_
            exact fun a ha w' hw => by
              obtain ⟨hp2, hs2⟩ := PSt.step hp (X := [(igmp3_s5_k2 b2), (igmp3_s5_k0 b22 bs), (igmp3_s5_k5 b5 b22 b24 v176), ⟨b24, 22, [some (.slice none 0 0)], true⟩]) (Y := [(igmp3_s5_k4 b175 b168 Ai ci bs i)]) (k := (igmp3_s5_k1 b168 bs i)) (B := [Byt A n c bs]) (r := []) (cnt := 4) (cap := 4) (xs := [nb bs (rof bs i), 0, bN bs ((rof bs i) + 2) 2, 0]) (lo := 4) (hi := 8 + (4 * (bN bs ((rof bs i) + 2) 2))) (sz := 8 + (4 * (bN bs ((rof bs i) + 2) 2))) hw (by omega) rfl rfl (Nat.le_refl _) rfl hr176 (by omega) (by omega) (by omega) (by omega) (pdt (lc rfl (lc rfl (lc (show bN bs ((rof bs i) + 2) 2 = bN bs (rof bs i + 2) 2 from by omega) (lc rfl rfl)))) (by omega) (by omega))
              exact eround2 ⟨(i + 1, _, _, _, _, _), hp2⟩ (show N - (i + 1) < N - i by omega) (ha.sub ⟨rfl, rfl, rfl, slc (n' := n - rof bs (i + 1)) (by omega), rfl, trivial⟩) hs2
          · refine dop rfl (l_buildSliceT (K := [(igmp3_s5_k2 b2), (igmp3_s5_k0 b22 bs), (igmp3_s5_k3 b5 b22 b24 v), ⟨b24, 22, [some (.slice none 0 0)], true⟩]) (Kr := Kr) (e := 39) (vs := [(0, (.int .u64 ((nb bs (rof bs i) : Nat) : Int))), (1, (.int .u64 ((0 : Nat) : Int))), (2, (.int .u64 ((bN bs ((rof bs i) + 2) 2 : Nat) : Int))), (3, (.int .u64 ((0 : Nat) : Int)))]) (cs := [(.int .u64 ((nb bs (rof bs i) : Nat) : Int)), (.int .u64 ((0 : Nat) : Int)), (.int .u64 ((bN bs ((rof bs i) + 2) 2 : Nat) : Int)), (.int .u64 ((0 : Nat) : Int))]) (by decide) rfl (fun _ => by kernel_rfl) fun b168 => ⟨(fun _ h => (St.wk (St.untail (K := [(igmp3_s5_k2 b2), (igmp3_s5_k0 b22 bs), (igmp3_s5_k3 b5 b22 b24 v), ⟨b24, 22, [some (.slice none 0 0)], true⟩, (igmp3_s5_k1 b168 bs i)]) (Kr := Kr) h) [(0, []), (1, []), (2, [2]), (3, [])] rfl)), ?_⟩)
            refine dtake (f := 5) [14] (by kernel_rfl) (St.closed _ _ _ _) (fun _ h => (St.wk (St.untail (K := [(igmp3_s5_k2 b2), (igmp3_s5_k0 b22 bs), (igmp3_s5_k3 b5 b22 b24 v), ⟨b24, 22, [some (.slice none 0 0)], true⟩, (igmp3_s5_k1 b168 bs i)]) (Kr := Kr) h) [(0, []), (1, []), (2, [2]), (3, [])] rfl)) (by kernel_rfl) ?_
            refine dq rfl (q_build (vs := [(0, (.slice (some ⟨b168, 0, none⟩) 4 4)), (1, (.slice (cutA Ai ci 4) ((8 + (4 * (bN bs ((rof bs i) + 2) 2))) - 4) (ci - 4)))]) (v := (.agg #[(.slice (some ⟨b168, 0, none⟩) 4 4), (.slice (cutA Ai ci 4) ((8 + (4 * (bN bs ((rof bs i) + 2) 2))) - 4) (ci - 4))])) rfl (fun _ => by kernel_rfl)) ?_
            refine QL.nil ?_
            refine RG.step2 1 15 (by kernel_rfl) ?_ ?_
            · refine dop rfl (l_q _ (by simp) (St.closed _ _ _ _) (q_load (b := b5) (off := 2) (j := 2) rfl nagg_27 (fun _ h => h) rfl rfl rfl) ⟨(fun _ h => (St.wk (St.untail (K := [(igmp3_s5_k2 b2), (igmp3_s5_k0 b22 bs), (igmp3_s5_k3 b5 b22 b24 v), ⟨b24, 22, [some (.slice none 0 0)], true⟩, (igmp3_s5_k1 b168 bs i)]) (Kr := Kr) h) [(0, []), (1, []), (2, [2]), (3, [])] rfl)), ?_⟩)
              refine RG.step1 15 (by kernel_rfl) ?_
              refine dop rfl (l_buildSliceT (K := [(igmp3_s5_k2 b2), (igmp3_s5_k0 b22 bs), (igmp3_s5_k3 b5 b22 b24 v), ⟨b24, 22, [some (.slice none 0 0)], true⟩, (igmp3_s5_k1 b168 bs i)]) (Kr := Kr) (e := 49) (vs := [(0, (.agg #[(.slice (some ⟨b168, 0, none⟩) 4 4), (.slice (cutA Ai ci 4) ((8 + (4 * (bN bs ((rof bs i) + 2) 2))) - 4) (ci - 4))]))]) (cs := [(.slice (some ⟨b168, 0, none⟩) 4 4), (.slice (cutA Ai ci 4) ((8 + (4 * (bN bs ((rof bs i) + 2) 2))) - 4) (ci - 4))]) (by decide) rfl (fun _ => by kernel_rfl) fun b175 => ⟨(fun _ h => (St.wk (St.untail (K := [(igmp3_s5_k2 b2), (igmp3_s5_k0 b22 bs), (igmp3_s5_k3 b5 b22 b24 v), ⟨b24, 22, [some (.slice none 0 0)], true⟩, (igmp3_s5_k1 b168 bs i), (igmp3_s5_k4 b175 b168 Ai ci bs i)]) (Kr := Kr) h) [(0, []), (1, []), (2, [2]), (3, [])] rfl)), ?_⟩)
              refine RG.step1 16 (by kernel_rfl) ?_
              refine dop rfl (l_appendR (K0 := [(igmp3_s5_k2 b2), (igmp3_s5_k0 b22 bs), (igmp3_s5_k3 b5 b22 b24 v), ⟨b24, 22, [some (.slice none 0 0)], true⟩, (igmp3_s5_k1 b168 bs i), (igmp3_s5_k4 b175 b168 Ai ci bs i)]) (Kr := Kr) (k := i) (xs := (psV ps)) (jq := 5) (news := [(.slice (some ⟨b168, 0, none⟩) 4 4), (.slice (cutA Ai ci 4) ((8 + (4 * (bN bs ((rof bs i) + 2) 2))) - 4) (ci - 4))]) (by decide) rfl rfl Tryz.underlying27 rowT_49 (by decide) hr (by have := hil; have := bN_lt bs 6 2 65536 rfl; omega) rfl rfl (by simp [Value.one1]) fun v176 Kr176 hr176 => ⟨(fun _ h => (St.wk (St.untail (K := [(igmp3_s5_k2 b2), (igmp3_s5_k0 b22 bs), (igmp3_s5_k3 b5 b22 b24 v), ⟨b24, 22, [some (.slice none 0 0)], true⟩, (igmp3_s5_k1 b168 bs i), (igmp3_s5_k4 b175 b168 Ai ci bs i)]) (Kr := Kr176) h) [(0, []), (1, []), (2, [2]), (3, [])] rfl)), ?_⟩)
              refine dtake (f := 1) [17] (by kernel_rfl) (St.closed _ _ _ _) (fun _ h => (St.wk (St.untail (K := [(igmp3_s5_k2 b2), (igmp3_s5_k0 b22 bs), (igmp3_s5_k3 b5 b22 b24 v), ⟨b24, 22, [some (.slice none 0 0)], true⟩, (igmp3_s5_k1 b168 bs i), (igmp3_s5_k4 b175 b168 Ai ci bs i)]) (Kr := Kr176) h) [(0, []), (1, []), (2, [2]), (3, [])] rfl)) (by kernel_rfl) ?_
              refine dq rfl (q_field (b := b5) (off := 0) rfl fo_29_2) ?_
              refine QL.nil ?_
              refine RG.step1 18 (by kernel_rfl) ?_
              refine dop rfl (l_store (b := b5) (off := 2) (j := 2) rfl rfl nagg_27 hr176.one rfl rfl rfl (dlt rfl) ⟨(fun _ h => (St.wk (St.untail (K := [(igmp3_s5_k2 b2), (igmp3_s5_k0 b22 bs), (igmp3_s5_k5 b5 b22 b24 v176), ⟨b24, 22, [some (.slice none 0 0)], true⟩, (igmp3_s5_k1 b168 bs i), (igmp3_s5_k4 b175 b168 Ai ci bs i)]) (Kr := Kr176) h) [(0, []), (1, []), (2, [2]), (3, [])] rfl)), ?_⟩)
              refine dend (by kernel_rfl) ?_
              refine eseq ?_
              refine HT.norm ([(igmp3_s5_k2 b2), (igmp3_s5_k0 b22 bs), (igmp3_s5_k5 b5 b22 b24 v176), ⟨b24, 22, [some (.slice none 0 0)], true⟩, (igmp3_s5_k1 b168 bs i), (igmp3_s5_k4 b175 b168 Ai ci bs i)] ++ Kr176) [Byt A n c bs, Byt Ai (n - (rof bs i)) ci (sl bs (rof bs i) n), psF ps] rfl rfl ?_
              refine HT.plain ?_
              refine sMv rfl rfl ?_
              refine sMv rfl rfl ?_
              refine sqS (q_mul (p := 4) (q := bN bs ((rof bs i) + 2) 2) rfl rfl (show 4 * (bN bs ((rof bs i) + 2) 2) < 9223372036854775808 by have := bN_lt bs ((rof bs i) + 2) 2 65536 rfl; omega)) rfl ?_
              refine sqS (q_add (p := 8) (q := 4 * (bN bs ((rof bs i) + 2) 2)) rfl rfl (show 8 + (4 * (bN bs ((rof bs i) + 2) 2)) < 9223372036854775808 by have := bN_lt bs ((rof bs i) + 2) 2 65536 rfl; omega)) rfl ?_
              refine sqS (q_slice (lo := 8 + (4 * (bN bs ((rof bs i) + 2) 2))) (hi := n - (rof bs i)) rfl Tryz.underlying22 nagg_5 (.inr ⟨_, _, rfl, rfl⟩) (.inl ⟨rfl, rfl⟩) (by have := bN_lt bs ((rof bs i) + 2) 2 65536 rfl; omega) (by omega)) rfl ?_
              refine sAs rfl rfl ?_
              refine send ?_
              refine ein ?_
              refine eseq ?_
              refine HT.plain ?_
              refine sqS (q_add (p := i) (q := 1) rfl rfl (show i + 1 < 9223372036854775808 by have := hil; omega)) rfl ?_
              refine sMv rfl rfl ?_
              refine send ?_
              exact fun a ha w' hw => by
                obtain ⟨hp2, hs2⟩ := PSt.step hp (X := [(igmp3_s5_k2 b2), (igmp3_s5_k0 b22 bs), (igmp3_s5_k5 b5 b22 b24 v176), ⟨b24, 22, [some (.slice none 0 0)], true⟩]) (Y := [(igmp3_s5_k4 b175 b168 Ai ci bs i)]) (k := (igmp3_s5_k1 b168 bs i)) (B := [Byt A n c bs]) (r := []) (cnt := 4) (cap := 4) (xs := [nb bs (rof bs i), 0, bN bs ((rof bs i) + 2) 2, 0]) (lo := 4) (hi := 8 + (4 * (bN bs ((rof bs i) + 2) 2))) (sz := 8 + (4 * (bN bs ((rof bs i) + 2) 2))) hw (by omega) rfl rfl (Nat.le_refl _) rfl hr176 (by omega) (by omega) (by omega) (by omega) (pdt (lc rfl (lc rfl (lc (show bN bs ((rof bs i) + 2) 2 = bN bs (rof bs i + 2) 2 from by omega) (lc rfl rfl)))) (by omega) (by omega))
                exact eround2 ⟨(i + 1, _, _, _, _, _), hp2⟩ (show N - (i + 1) < N - i by omega) (ha.sub ⟨rfl, rfl, rfl, slc (n' := n - rof bs (i + 1)) (by omega), rfl, trivial⟩) hs2
            · refine dop rfl (l_buildSliceT (K := [(igmp3_s5_k2 b2), (igmp3_s5_k0 b22 bs), (igmp3_s5_k3 b5 b22 b24 v), ⟨b24, 22, [some (.slice none 0 0)], true⟩, (igmp3_s5_k1 b168 bs i)]) (Kr := Kr) (e := 49) (vs := [(0, (.agg #[(.slice (some ⟨b168, 0, none⟩) 4 4), (.slice (cutA Ai ci 4) ((8 + (4 * (bN bs ((rof bs i) + 2) 2))) - 4) (ci - 4))]))]) (cs := [(.slice (some ⟨b168, 0, none⟩) 4 4), (.slice (cutA Ai ci 4) ((8 + (4 * (bN bs ((rof bs i) + 2) 2))) - 4) (ci - 4))]) (by decide) rfl (fun _ => by kernel_rfl) fun b175 => ⟨(fun _ h => (St.wk (St.untail (K := [(igmp3_s5_k2 b2), (igmp3_s5_k0 b22 bs), (igmp3_s5_k3 b5 b22 b24 v), ⟨b24, 22, [some (.slice none 0 0)], true⟩, (igmp3_s5_k1 b168 bs i), (igmp3_s5_k4 b175 b168 Ai ci bs i)]) (Kr := Kr) h) [(0, []), (1, []), (2, [2]), (3, [])] rfl)), ?_⟩)
              refine RG.step1 1 (by kernel_rfl) ?_
              refine dop rfl (l_q _ (by simp) (St.closed _ _ _ _) (q_load (b := b5) (off := 2) (j := 2) rfl nagg_27 (fun _ h => h) rfl rfl rfl) ⟨(fun _ h => (St.wk (St.untail (K := [(igmp3_s5_k2 b2), (igmp3_s5_k0 b22 bs), (igmp3_s5_k3 b5 b22 b24 v), ⟨b24, 22, [some (.slice none 0 0)], true⟩, (igmp3_s5_k1 b168 bs i), (igmp3_s5_k4 b175 b168 Ai ci bs i)]) (Kr := Kr) h) [(0, []), (1, []), (2, [2]), (3, [])] rfl)), ?_⟩)
              refine RG.step1 16 (by kernel_rfl) ?_
              refine dop rfl (l_appendR (K0 := [(igmp3_s5_k2 b2), (igmp3_s5_k0 b22 bs), (igmp3_s5_k3 b5 b22 b24 v), ⟨b24, 22, [some (.slice none 0 0)], true⟩, (igmp3_s5_k1 b168 bs i), (igmp3_s5_k4 b175 b168 Ai ci bs i)]) (Kr := Kr) (k := i) (xs := (psV ps)) (jq := 5) (news := [(.slice (some ⟨b168, 0, none⟩) 4 4), (.slice (cutA Ai ci 4) ((8 + (4 * (bN bs ((rof bs i) + 2) 2))) - 4) (ci - 4))]) (by decide) rfl rfl Tryz.underlying27 rowT_49 (by decide) hr (by have := hil; have := bN_lt bs 6 2 65536 rfl; omega) rfl rfl (by simp [Value.one1]) fun v176 Kr176 hr176 => ⟨(fun _ h => (St.wk (St.untail (K := [(igmp3_s5_k2 b2), (igmp3_s5_k0 b22 bs), (igmp3_s5_k3 b5 b22 b24 v), ⟨b24, 22, [some (.slice none 0 0)], true⟩, (igmp3_s5_k1 b168 bs i), (igmp3_s5_k4 b175 b168 Ai ci bs i)]) (Kr := Kr176) h) [(0, []), (1, []), (2, [2]), (3, [])] rfl)), ?_⟩)
              refine dtake (f := 1) [17] (by kernel_rfl) (St.closed _ _ _ _) (fun _ h => (St.wk (St.untail (K := [(igmp3_s5_k2 b2), (igmp3_s5_k0 b22 bs), (igmp3_s5_k3 b5 b22 b24 v), ⟨b24, 22, [some (.slice none 0 0)], true⟩, (igmp3_s5_k1 b168 bs i), (igmp3_s5_k4 b175 b168 Ai ci bs i)]) (Kr := Kr176) h) [(0, []), (1, []), (2, [2]), (3, [])] rfl)) (by kernel_rfl) ?_
              refine dq rfl (q_field (b := b5) (off := 0) rfl fo_29_2) ?_
              refine QL.nil ?_
              refine RG.step1 18 (by kernel_rfl) ?_
              refine dop rfl (l_store (b := b5) (off := 2) (j := 2) rfl rfl nagg_27 hr176.one rfl rfl rfl (dlt rfl) ⟨(fun _ h => (St.wk (St.untail (K := [(igmp3_s5_k2 b2), (igmp3_s5_k0 b22 bs), (igmp3_s5_k5 b5 b22 b24 v176), ⟨b24, 22, [some (.slice none 0 0)], true⟩, (igmp3_s5_k1 b168 bs i), (igmp3_s5_k4 b175 b168 Ai ci bs i)]) (Kr := Kr176) h) [(0, []), (1, []), (2, [2]), (3, [])] rfl)), ?_⟩)
              refine dend (by kernel_rfl) ?_
              refine eseq ?_
              refine HT.norm ([(igmp3_s5_k2 b2), (igmp3_s5_k0 b22 bs), (igmp3_s5_k5 b5 b22 b24 v176), ⟨b24, 22, [some (.slice none 0 0)], true⟩, (igmp3_s5_k1 b168 bs i), (igmp3_s5_k4 b175 b168 Ai ci bs i)] ++ Kr176) [Byt A n c bs, Byt Ai (n - (rof bs i)) ci (sl bs (rof bs i) n), psF ps] rfl rfl ?_
              refine HT.plain ?_
              refine sMv rfl rfl ?_
              refine sMv rfl rfl ?_
              refine sqS (q_mul (p := 4) (q := bN bs ((rof bs i) + 2) 2) rfl rfl (show 4 * (bN bs ((rof bs i) + 2) 2) < 9223372036854775808 by have := bN_lt bs ((rof bs i) + 2) 2 65536 rfl; omega)) rfl ?_
              refine sqS (q_add (p := 8) (q := 4 * (bN bs ((rof bs i) + 2) 2)) rfl rfl (show 8 + (4 * (bN bs ((rof bs i) + 2) 2)) < 9223372036854775808 by have := bN_lt bs ((rof bs i) + 2) 2 65536 rfl; omega)) rfl ?_
              refine sqS (q_slice (lo := 8 + (4 * (bN bs ((rof bs i) + 2) 2))) (hi := n - (rof bs i)) rfl Tryz.underlying22 nagg_5 (.inr ⟨_, _, rfl, rfl⟩) (.inl ⟨rfl, rfl⟩) (by have := bN_lt bs ((rof bs i) + 2) 2 65536 rfl; omega) (by omega)) rfl ?_
              refine sAs rfl rfl ?_
              refine send ?_
              refine ein ?_
              refine eseq ?_
              refine HT.plain ?_
              refine sqS (q_add (p := i) (q := 1) rfl rfl (show i + 1 < 9223372036854775808 by have := hil; omega)) rfl ?_
              refine sMv rfl rfl ?_
              refine send ?_
              exact fun a ha w' hw => by
                obtain ⟨hp2, hs2⟩ := PSt.step hp (X := [(igmp3_s5_k2 b2), (igmp3_s5_k0 b22 bs), (igmp3_s5_k5 b5 b22 b24 v176), ⟨b24, 22, [some (.slice none 0 0)], true⟩]) (Y := [(igmp3_s5_k4 b175 b168 Ai ci bs i)]) (k := (igmp3_s5_k1 b168 bs i)) (B := [Byt A n c bs]) (r := []) (cnt := 4) (cap := 4) (xs := [nb bs (rof bs i), 0, bN bs ((rof bs i) + 2) 2, 0]) (lo := 4) (hi := 8 + (4 * (bN bs ((rof bs i) + 2) 2))) (sz := 8 + (4 * (bN bs ((rof bs i) + 2) 2))) hw (by omega) rfl rfl (Nat.le_refl _) rfl hr176 (by omega) (by omega) (by omega) (by omega) (pdt (lc rfl (lc rfl (lc (show bN bs ((rof bs i) + 2) 2 = bN bs (rof bs i + 2) 2 from by omega) (lc rfl rfl)))) (by omega) (by omega))
                exact eround2 ⟨(i + 1, _, _, _, _, _), hp2⟩ (show N - (i + 1) < N - i by omega) (ha.sub ⟨rfl, rfl, rfl, slc (n' := n - rof bs (i + 1)) (by omega), rfl, trivial⟩) hs2
  · refine dop rfl (l_alloc (by decide) zero_29 fun b5 => ⟨(fun _ h => (h.wk [(0, [])] rfl)), ?_⟩)
    refine RG.step1 7 (by kernel_rfl) ?_
    refine dop rfl (l_buildSlice (e := 39) (vs := [(0, (.int .u64 ((nb bs 0 : Nat) : Int))), (1, (.int .u64 ((0 : Nat) : Int))), (2, (.int .u64 ((bN bs 2 2 : Nat) : Int))), (3, (.int .u64 ((0 : Nat) : Int))), (4, (.int .u64 ((0 : Nat) : Int))), (5, (.int .u64 ((0 : Nat) : Int))), (6, (.int .u64 ((0 : Nat) : Int))), (7, (.int .u64 ((0 : Nat) : Int))), (8, (.int .u64 ((3 : Nat) : Int)))]) (cs := [(.int .u64 ((nb bs 0 : Nat) : Int)), (.int .u64 ((0 : Nat) : Int)), (.int .u64 ((bN bs 2 2 : Nat) : Int)), (.int .u64 ((0 : Nat) : Int)), (.int .u64 ((0 : Nat) : Int)), (.int .u64 ((0 : Nat) : Int)), (.int .u64 ((0 : Nat) : Int)), (.int .u64 ((0 : Nat) : Int)), (.int .u64 ((3 : Nat) : Int))]) (by decide) rfl (fun _ => by kernel_rfl) fun b22 => ⟨(fun _ h => (h.wk [(0, [])] rfl)), ?_⟩)
    refine dtake (f := 1) [8] (by kernel_rfl) (St.closed _ _ _ _) (fun _ h => (h.wk [(0, [])] rfl)) (by kernel_rfl) ?_
    refine dq rfl (q_call (vs := [(.slice none 0 0), (.slice (some ⟨b22, 0, none⟩) 9 9)]) (v := (.agg #[(.slice (some ⟨b22, 0, none⟩) 9 9), (.slice none 0 0), (.slice none 0 0), (.slice none 0 0)])) rfl ca_33 (fun w h => layerC w none 0 0 (some ⟨b22, 0, none⟩) 9 9  (St.enter (sp := []) (Kc := []) (bi := []) h rfl rfl rfl))) ?_
    refine QL.nil ?_
    refine RG.step1 10 (by kernel_rfl) ?_
    refine dop rfl (l_storeAgg (b := b5) (off := 0) (j := 1) (vs := [(.slice (some ⟨b22, 0, none⟩) 9 9), (.slice none 0 0), (.slice none 0 0), (.slice none 0 0)]) rfl rfl aggs_29 (by simp [Value.one1]) rfl rfl rfl (Nat.le_of_ble_eq_true rfl) ⟨(fun _ h => (h.wk [(0, [])] rfl)), ?_⟩)
    refine dend (by kernel_rfl) ?_
    refine eseq ?_
    refine HT.seq ?_
    refine HT.plain ?_
    refine sl_ (l_buildSlice (e := 22) (vs := [(0, (.slice none 0 0))]) (cs := [(.slice none 0 0)]) (by decide) rfl (fun _ => by kernel_rfl) fun b24 => ?_)
    refine sqS (q_field (b := b5) (off := 0) rfl fo_29_1) rfl ?_
    refine sl_ (l_store (b := b5) (off := 1) (j := 1) rfl rfl nagg_26 rfl rfl rfl rfl (dlt rfl) ?_)
    refine send ?_
    refine eseq ?_
    refine HT.seq ?_
    refine HT.block ?_
    refine HT.seq ?_
    refine HT.plain ?_
    refine sMv rfl rfl ?_
    refine sqS (q_index (i := 0) (j := 0) rfl rfl Tryz.underlying22 nagg_5 (fun _ h => h) rfl (by omega)) rfl ?_
    refine sqS (q_byte (i := 0) (j := 0) rfl nagg_5 (fun _ h => h) rfl (by omega)) rfl ?_
    refine sqS (q_F (q_eq (p := nb bs 0) (q := 17) rfl rfl) (by have := nb_lt bs 0; omega)) rfl ?_
    refine sMv rfl rfl ?_
    refine sskip rfl rfl ?_
    refine sskip rfl rfl ?_
    refine sskip rfl rfl ?_
    refine sqS (q_pick rfl (fun h => nomatch h) (fun _ => rfl)) rfl ?_
    refine sAs rfl rfl ?_
    refine send ?_
    refine eseq ?_
    refine HT.no rfl ?_
    refine HT.seq ?_
    refine HT.plain ?_
    refine sMv rfl rfl ?_
    refine sqS (q_index (i := 0) (j := 0) rfl rfl Tryz.underlying22 nagg_5 (fun _ h => h) rfl (by omega)) rfl ?_
    refine sqS (q_byte (i := 0) (j := 0) rfl nagg_5 (fun _ h => h) rfl (by omega)) rfl ?_
    refine sqS (q_T (q_eq (p := nb bs 0) (q := 34) rfl rfl) (by have := nb_lt bs 0; omega)) rfl ?_
    refine sAs rfl rfl ?_
    refine send ?_
    refine eseq ?_
    refine HT.yes rfl ?_
    refine HT.seq ?_
    refine HT.drawnS mixed (St.closed _ _ _ _) ?_
    refine dtake (f := 0) [0, 1, 2, 3, 4, 5, 6, 7] (by kernel_rfl) (St.closed _ _ _ _) (fun _ h => h) (by kernel_rfl) ?_
    refine dq rfl (q_move rfl) ?_
    refine dq rfl (q_slice (lo := 6) (hi := 8) rfl Tryz.underlying22 nagg_5 (.inr ⟨_, _, rfl, rfl⟩) (.inr ⟨_, _, rfl, rfl⟩) (by omega) (by omega)) ?_
    refine dq rfl (q_call (vs := [(.slice (cutA A c 6) (8 - 6) (c - 6))]) (v := (.int .u64 ((bN bs 6 2 : Nat) : Int))) rfl ca_34 (fun w h => NumberC w A n c bs (lo := 6) (hi := 8) (h.fact (j := 0) rfl) (k := 2) rfl (by decide) (by omega) (by omega))) ?_
    refine dq rfl (q_convn (p := bN bs 6 2) rfl Tryz.underlying39 Tryz.underlying3 (show bN bs 6 2 < 9223372036854775808 by have := bN_lt bs 6 2 65536 rfl; omega)) ?_
    refine dq rfl (q_move rfl) ?_
    refine dq rfl (q_slice (lo := 8) (hi := n) rfl Tryz.underlying22 nagg_5 (.inr ⟨_, _, rfl, rfl⟩) (.inl ⟨rfl, rfl⟩) (by omega) (by omega)) ?_
    refine dq rfl (q_assign rfl) ?_
    refine dq rfl (q_assign rfl) ?_
    refine QL.nil ?_
    refine dend (by kernel_rfl) ?_
    refine eseq ?_
    refine HT.seq ?_
    refine HT.plain ?_
    refine sqS (q_field (b := b5) (off := 0) rfl fo_29_0) rfl ?_
    refine sqS (q_load (b := b5) (off := 0) (j := 1) rfl nagg_25 (fun _ h => h) rfl rfl rfl) rfl ?_
    refine sMv rfl rfl ?_
    refine sqS (q_convn (p := bN bs 6 2) rfl Tryz.underlying3 Tryz.underlying39 (show bN bs 6 2 < 18446744073709551616 by have := bN_lt bs 6 2 65536 rfl; omega)) rfl ?_
    refine sqS (q_indexK (b := b22) (i := 6) (sz := 1) rfl rfl Tryz.underlying25 size_39 (by decide)) rfl ?_
    refine sl_ (l_store (b := b22) (off := 6) (j := 2) rfl rfl nagg_39 rfl rfl rfl rfl (dlt rfl) ?_)
    refine send ?_
    refine eseq ?_
    refine HT.seq ?_
    refine HT.seq ?_
    refine HT.plain ?_
    refine sMv rfl rfl ?_
    refine sMv rfl rfl ?_
    refine send ?_
    refine eseq ?_
    refine HT.block ?_
    refine HT.loop (ι := {p : Nat × Option Addr × Nat × Value × List Kb × List (NI × BI) // PSt w.heap.size (Byt A n c bs) (fun j => ([nb bs (rof bs j), 0, bN bs (rof bs j + 2) 2, 0], sl bs (rof bs j + 4) (rof bs (j + 1)))) (fun j => rof bs j) n bs N p.1 p.2.1 p.2.2.1 p.2.2.2.1 p.2.2.2.2.1 p.2.2.2.2.2}) (fun p => [(2, (.pointer (some ⟨b2, 0, none⟩))), (5, (.pointer (some ⟨b5, 0, none⟩))), (136, (.int .i64 ((bN bs 6 2 : Nat) : Int))), (9, (.slice p.1.2.1 (n - (rof bs p.1.1)) p.1.2.2.1)), (137, (.int .i64 ((p.1.1 : Nat) : Int)))]) (fun p => St w [] ([(igmp3_s5_k2 b2), ⟨b5, 29, [some (.slice (some ⟨b22, 0, none⟩) 9 9), some (.slice (some ⟨b24, 0, none⟩) 1 1), some p.1.2.2.2.1, some (.slice none 0 0)], true⟩, (igmp3_s5_k0 b22 bs), ⟨b24, 22, [some (.slice none 0 0)], true⟩] ++ p.1.2.2.2.2.1) [Byt A n c bs, Byt p.1.2.1 (n - (rof bs p.1.1)) p.1.2.2.1 (sl bs (rof bs p.1.1) n), psF p.1.2.2.2.2.2]) (fun p => N - p.1.1) ⟨(0, cutA A c 8, c - 8, .slice none 0 0, [], []), PSt.nil (fun x hx => Byt.cut_fp (lo := 8) (hi := n) hx.1 hx) (show n - 8 ≤ c - 8 by omega)⟩ ⟨rfl, rfl, rfl, rfl, rfl, trivial⟩ (fun _ h => psF_nil (B := [Byt A n c bs, Byt (cutA A c 8) (n - 8) (c - 8) (sl bs 8 n)]) (h.cut (j := 0) (lo := 8) (hi := n) rfl (by omega) (by omega))) fun ⟨⟨i, Ai, ci, v, Kr, ps⟩, hp⟩ => ?_
    replace hp : PSt w.heap.size (Byt A n c bs) (fun j => ([nb bs (rof bs j), 0, bN bs (rof bs j + 2) 2, 0], sl bs (rof bs j + 4) (rof bs (j + 1)))) (fun j => rof bs j) n bs N i Ai ci v Kr ps := hp
    have hil : i ≤ N := hp.le
    have hr : RowS 49 2 i (psV ps) v Kr := hp.row
    have hcp : n - rof bs i ≤ ci := hp.cap
    have ho := rof_succ bs i
    have hge := rof_ge bs i
    have hal : rof bs i ≤ n := og_le (by omega) (fun j hj => (hc j hj).2.2) i (by omega)
    have hc := hc i
    have h65 := bN_lt bs (rof bs i + 2) 2 65536 rfl
    have h66 := bN_lt bs 6 2 65536 rfl
    have hz : i = N → (n < rof bs i + 8 ∨ nb bs (rof bs i + 1) ≠ 0 ∨ n < rof bs (i + 1)) := fun e => by rw [e]; exact he
    show HT _ _ _ [(2, (.pointer (some ⟨b2, 0, none⟩))), (5, (.pointer (some ⟨b5, 0, none⟩))), (136, (.int .i64 ((bN bs 6 2 : Nat) : Int))), (9, (.slice Ai (n - (rof bs i)) ci)), (137, (.int .i64 ((i : Nat) : Int)))] (St w [] ([(igmp3_s5_k2 b2), (igmp3_s5_k3 b5 b22 b24 v), (igmp3_s5_k0 b22 bs), ⟨b24, 22, [some (.slice none 0 0)], true⟩] ++ Kr) [Byt A n c bs, Byt Ai (n - (rof bs i)) ci (sl bs (rof bs i) n), psF ps]) _
    refine HT.seq ?_
    refine HT.plain ?_
    refine sqS (q_T (q_lt (p := i) (q := bN bs 6 2) rfl rfl) (by have := hil; have := bN_lt bs 6 2 65536 rfl; omega)) rfl ?_
    refine send ?_
    refine eseq ?_
    refine HT.seq ?_
    refine HT.yes rfl ?_
    refine HT.skip ?_
    refine eseq ?_
    refine HT.seq ?_
    refine HT.block ?_
    refine HT.seq ?_
    refine HT.seq ?_
    refine HT.plain ?_
    refine sMv rfl rfl ?_
    refine sqS (q_len (len := n - (rof bs i)) rfl Tryz.underlying22) rfl ?_
    by_cases h4 : n - (rof bs i) < 8
    · refine sqS (q_T (q_lt (p := n - (rof bs i)) (q := 8) rfl rfl) h4) rfl ?_
      refine send ?_
      refine eseq ?_
      refine HT.yes rfl ?_
      refine HT.seq ?_
      refine HT.plain ?_
      refine sqS (q_loadAgg (b := b5) (off := 0) (j := 1) (vs := [(.slice (some ⟨b22, 0, none⟩) 9 9), (.slice (some ⟨b24, 0, none⟩) 1 1), v, (.slice none 0 0)]) rfl aggs_29 (fun _ h => h) rfl rfl rfl) rfl ?_
      refine sl_ (l_storeAgg (b := b2) (off := 0) (j := 0) (vs := [(.slice (some ⟨b22, 0, none⟩) 9 9), (.slice (some ⟨b24, 0, none⟩) 1 1), v, (.slice none 0 0)]) rfl rfl aggs_29 (by intro x hx; simp only [List.mem_cons, List.not_mem_nil, or_false] at hx; rcases hx with rfl | rfl | rfl | rfl <;> first | rfl | exact hr.one) rfl rfl rfl (Nat.le_of_ble_eq_true rfl) ?_)
      refine sAs rfl rfl ?_
      refine sAs rfl rfl ?_
      refine send ?_
      refine eseq ?_
      refine HT.norm ([(igmp3_s5_k8 b2 b22 b24 v), (igmp3_s5_k3 b5 b22 b24 v), (igmp3_s5_k0 b22 bs), ⟨b24, 22, [some (.slice none 0 0)], true⟩] ++ Kr) [Byt A n c bs, Byt Ai (n - (rof bs i)) ci (sl bs (rof bs i) n), psF ps] rfl rfl ?_
      refine HT.ret ?_
      refine rt_then ?_
      refine rt_in ?_
      refine rt_then ?_
      refine rt_then ?_
      refine rt_in ?_
      refine rt_then ?_
      refine rt_in ?_
      refine rt_then ?_
      obtain ⟨Av, cv, hv⟩ := hr.val
      subst hv
      exact fun a ha w' hw => fin_ ha (resc3 ha Tryz.results44 rfl (ld_ aggs_29 hw (j := 0) rfl rfl (vs := [(.slice (some ⟨b22, 0, none⟩) 9 9), (.slice (some ⟨b24, 0, none⟩) 1 1), (.slice Av i cv), (.slice none 0 0)]) rfl) rfl rfl) ⟨(⟨(some ⟨b22, 0, none⟩), 9, 9, []⟩, ⟨(some ⟨b24, 0, none⟩), 1, 1, []⟩, ⟨Av, i, cv, []⟩, ⟨none, 0, 0, []⟩), rfl, (((St.untail (K := [(igmp3_s5_k6 b2 b22 b24 Av i cv), (igmp3_s5_k7 b5 b22 b24 Av i cv), (igmp3_s5_k0 b22 bs), ⟨b24, 22, [some (.slice none 0 0)], true⟩]) (Kr := Kr) hw).wk [] rfl).selF [0] rfl), fr0⟩
    · refine sqS (q_F (q_lt (p := n - (rof bs i)) (q := 8) rfl rfl) h4) rfl ?_
      refine send ?_
      refine eseq ?_
      refine HT.no rfl ?_
      refine HT.skip ?_
      refine eseq ?_
      refine HT.seq ?_
      refine HT.plain ?_
      refine sMv rfl rfl ?_
      refine sqS (q_slice (lo := 2) (hi := 4) rfl Tryz.underlying22 nagg_5 (.inr ⟨_, _, rfl, rfl⟩) (.inr ⟨_, _, rfl, rfl⟩) (by omega) (by omega)) rfl ?_
      refine sqS (q_N (q_call (vs := [(.slice (cutA Ai ci 2) (4 - 2) (ci - 2))]) (v := (.int .u64 ((bN (sl bs (rof bs i) n) 2 2 : Nat) : Int))) rfl ca_34 (fun w h => NumberC w Ai (n - (rof bs i)) ci (sl bs (rof bs i) n) (lo := 2) (hi := 4) (h.fact (j := 1) rfl) (k := 2) rfl (by decide) (by omega) (by omega))) (a := bN (sl bs (rof bs i) n) 2 2) (b := bN bs ((rof bs i) + 2) 2) (bN_sl 2 2 (by omega))) rfl ?_
      refine sqS (q_convn (p := bN bs ((rof bs i) + 2) 2) rfl Tryz.underlying39 Tryz.underlying3 (show bN bs ((rof bs i) + 2) 2 < 9223372036854775808 by have := bN_lt bs ((rof bs i) + 2) 2 65536 rfl; omega)) rfl ?_
      refine sAs rfl rfl ?_
      refine send ?_
      refine eseq ?_
      refine HT.seq ?_
      refine HT.seq ?_
      refine HT.plain ?_
      refine sMv rfl rfl ?_
      refine sqS (q_index (i := 1) (j := 1) rfl rfl Tryz.underlying22 nagg_5 (fun _ h => h) rfl (by omega)) rfl ?_
      refine sqS (q_N (q_byte (i := 1) (j := 1) rfl nagg_5 (fun _ h => h) rfl (by omega)) (a := nb (sl bs (rof bs i) n) 1) (b := nb bs ((rof bs i) + 1)) (nb_sl (by omega))) rfl ?_
      by_cases h5 : nb bs ((rof bs i) + 1) ≠ 0
      · refine sqS (q_T (q_ne (p := nb bs ((rof bs i) + 1)) (q := 0) rfl rfl) h5) rfl ?_
        refine sMv rfl rfl ?_
        refine sskip rfl rfl ?_
        refine sskip rfl rfl ?_
        refine sskip rfl rfl ?_
        refine sskip rfl rfl ?_
        refine sskip rfl rfl ?_
        refine sskip rfl rfl ?_
        refine sqS (q_pick rfl (fun _ => rfl) (fun h => nomatch h)) rfl ?_
        refine send ?_
        refine eseq ?_
        refine HT.yes rfl ?_
        refine HT.seq ?_
        refine HT.plain ?_
        refine sqS (q_loadAgg (b := b5) (off := 0) (j := 1) (vs := [(.slice (some ⟨b22, 0, none⟩) 9 9), (.slice (some ⟨b24, 0, none⟩) 1 1), v, (.slice none 0 0)]) rfl aggs_29 (fun _ h => h) rfl rfl rfl) rfl ?_
        refine sl_ (l_storeAgg (b := b2) (off := 0) (j := 0) (vs := [(.slice (some ⟨b22, 0, none⟩) 9 9), (.slice (some ⟨b24, 0, none⟩) 1 1), v, (.slice none 0 0)]) rfl rfl aggs_29 (by intro x hx; simp only [List.mem_cons, List.not_mem_nil, or_false] at hx; rcases hx with rfl | rfl | rfl | rfl <;> first | rfl | exact hr.one) rfl rfl rfl (Nat.le_of_ble_eq_true rfl) ?_)
        refine sAs rfl rfl ?_
        refine sAs rfl rfl ?_
        refine send ?_
        refine eseq ?_
        refine HT.norm ([(igmp3_s5_k8 b2 b22 b24 v), (igmp3_s5_k3 b5 b22 b24 v), (igmp3_s5_k0 b22 bs), ⟨b24, 22, [some (.slice none 0 0)], true⟩] ++ Kr) [Byt A n c bs, Byt Ai (n - (rof bs i)) ci (sl bs (rof bs i) n), psF ps] rfl rfl ?_
        refine HT.ret ?_
        refine rt_then ?_
        refine rt_in ?_
        refine rt_then ?_
        refine rt_then ?_
        refine rt_in ?_
        refine rt_then ?_
        refine rt_in ?_
        refine rt_then ?_
        obtain ⟨Av, cv, hv⟩ := hr.val
        subst hv
        exact fun a ha w' hw => fin_ ha (resc3 ha Tryz.results44 rfl (ld_ aggs_29 hw (j := 0) rfl rfl (vs := [(.slice (some ⟨b22, 0, none⟩) 9 9), (.slice (some ⟨b24, 0, none⟩) 1 1), (.slice Av i cv), (.slice none 0 0)]) rfl) rfl rfl) ⟨(⟨(some ⟨b22, 0, none⟩), 9, 9, []⟩, ⟨(some ⟨b24, 0, none⟩), 1, 1, []⟩, ⟨Av, i, cv, []⟩, ⟨none, 0, 0, []⟩), rfl, (((St.untail (K := [(igmp3_s5_k6 b2 b22 b24 Av i cv), (igmp3_s5_k7 b5 b22 b24 Av i cv), (igmp3_s5_k0 b22 bs), ⟨b24, 22, [some (.slice none 0 0)], true⟩]) (Kr := Kr) hw).wk [] rfl).selF [0] rfl), fr0⟩
      · refine sqS (q_F (q_ne (p := nb bs ((rof bs i) + 1)) (q := 0) rfl rfl) h5) rfl ?_
        refine sMv rfl rfl ?_
        refine sgqS rfl (q_move rfl) rfl ?_
        refine sgqS rfl (q_len (len := n - (rof bs i)) rfl Tryz.underlying22) rfl ?_
        refine sgqS rfl (q_move rfl) rfl ?_
        refine sgqS rfl (q_mul (p := 4) (q := bN bs ((rof bs i) + 2) 2) rfl rfl (show 4 * (bN bs ((rof bs i) + 2) 2) < 9223372036854775808 by have := bN_lt bs ((rof bs i) + 2) 2 65536 rfl; omega)) rfl ?_
        refine sgqS rfl (q_add (p := 8) (q := 4 * (bN bs ((rof bs i) + 2) 2)) rfl rfl (show 8 + (4 * (bN bs ((rof bs i) + 2) 2)) < 9223372036854775808 by have := bN_lt bs ((rof bs i) + 2) 2 65536 rfl; omega)) rfl ?_
        by_cases h6 : n - (rof bs i) < 8 + (4 * (bN bs ((rof bs i) + 2) 2))
        · refine sgqS rfl (q_T (q_lt (p := n - (rof bs i)) (q := 8 + (4 * (bN bs ((rof bs i) + 2) 2))) rfl rfl) h6) rfl ?_
          refine sqS (q_pick rfl (fun h => nomatch h) (fun _ => rfl)) rfl ?_
          refine send ?_
          refine eseq ?_
          refine HT.yes rfl ?_
          refine HT.seq ?_
          refine HT.plain ?_
          refine sqS (q_loadAgg (b := b5) (off := 0) (j := 1) (vs := [(.slice (some ⟨b22, 0, none⟩) 9 9), (.slice (some ⟨b24, 0, none⟩) 1 1), v, (.slice none 0 0)]) rfl aggs_29 (fun _ h => h) rfl rfl rfl) rfl ?_
          refine sl_ (l_storeAgg (b := b2) (off := 0) (j := 0) (vs := [(.slice (some ⟨b22, 0, none⟩) 9 9), (.slice (some ⟨b24, 0, none⟩) 1 1), v, (.slice none 0 0)]) rfl rfl aggs_29 (by intro x hx; simp only [List.mem_cons, List.not_mem_nil, or_false] at hx; rcases hx with rfl | rfl | rfl | rfl <;> first | rfl | exact hr.one) rfl rfl rfl (Nat.le_of_ble_eq_true rfl) ?_)
          refine sAs rfl rfl ?_
          refine sAs rfl rfl ?_
          refine send ?_
          refine eseq ?_
          refine HT.norm ([(igmp3_s5_k8 b2 b22 b24 v), (igmp3_s5_k3 b5 b22 b24 v), (igmp3_s5_k0 b22 bs), ⟨b24, 22, [some (.slice none 0 0)], true⟩] ++ Kr) [Byt A n c bs, Byt Ai (n - (rof bs i)) ci (sl bs (rof bs i) n), psF ps] rfl rfl ?_
          refine HT.ret ?_
          refine rt_then ?_
          refine rt_in ?_
          refine rt_then ?_
          refine rt_then ?_
          refine rt_in ?_
          refine rt_then ?_
          refine rt_in ?_
          refine rt_then ?_
          obtain ⟨Av, cv, hv⟩ := hr.val
          subst hv
          exact fun a ha w' hw => fin_ ha (resc3 ha Tryz.results44 rfl (ld_ aggs_29 hw (j := 0) rfl rfl (vs := [(.slice (some ⟨b22, 0, none⟩) 9 9), (.slice (some ⟨b24, 0, none⟩) 1 1), (.slice Av i cv), (.slice none 0 0)]) rfl) rfl rfl) ⟨(⟨(some ⟨b22, 0, none⟩), 9, 9, []⟩, ⟨(some ⟨b24, 0, none⟩), 1, 1, []⟩, ⟨Av, i, cv, []⟩, ⟨none, 0, 0, []⟩), rfl, (((St.untail (K := [(igmp3_s5_k6 b2 b22 b24 Av i cv), (igmp3_s5_k7 b5 b22 b24 Av i cv), (igmp3_s5_k0 b22 bs), ⟨b24, 22, [some (.slice none 0 0)], true⟩]) (Kr := Kr) hw).wk [] rfl).selF [0] rfl), fr0⟩
        · refine sgqS rfl (q_F (q_lt (p := n - (rof bs i)) (q := 8 + (4 * (bN bs ((rof bs i) + 2) 2))) rfl rfl) h6) rfl ?_
          refine sqS (q_pick rfl (fun h => nomatch h) (fun _ => rfl)) rfl ?_
          refine send ?_
          refine eseq ?_
          refine HT.no rfl ?_
          refine HT.skip ?_
          refine eseq ?_
          refine HT.seq ?_
          refine HT.drawn mixed (St.closed _ _ _ _) (St w [] [(igmp3_s5_k2 b2), ⟨b5, 29, [some (.slice (some ⟨b22, 0, none⟩) 9 9), some (.slice (some ⟨b24, 0, none⟩) 1 1), none, some (.slice none 0 0)], true⟩, (igmp3_s5_k0 b22 bs), ⟨b24, 22, [some (.slice none 0 0)], true⟩] [Byt A n c bs, Byt Ai (n - (rof bs i)) ci (sl bs (rof bs i) n), psF ps]) ?_
          refine dtake (f := 7) [0, 2, 3, 4, 5, 6, 7, 9, 10, 11, 12, 13] (by kernel_rfl) (St.closed _ _ _ _) (fun _ h => (St.wk (St.untail (K := [(igmp3_s5_k2 b2), (igmp3_s5_k3 b5 b22 b24 v), (igmp3_s5_k0 b22 bs), ⟨b24, 22, [some (.slice none 0 0)], true⟩]) (Kr := Kr) h) [(0, []), (1, [2]), (2, []), (3, [])] rfl)) (by kernel_rfl) ?_
          refine dq rfl (q_field (b := b5) (off := 0) rfl fo_29_2) ?_
          refine dq rfl (q_move rfl) ?_
          refine dq rfl (q_index (i := 0) (j := 1) rfl rfl Tryz.underlying22 nagg_5 (fun _ h => h) rfl (by omega)) ?_
          refine dq rfl (q_N (q_byte (i := 0) (j := 1) rfl nagg_5 (fun _ h => h) rfl (by omega)) (a := nb (sl bs (rof bs i) n) 0) (b := nb bs (rof bs i)) (nb_sl (by omega))) ?_
          refine dq rfl (q_convn (p := nb bs (rof bs i)) rfl Tryz.underlying5 Tryz.underlying39 (show nb bs (rof bs i) < 18446744073709551616 by have := nb_lt bs (rof bs i); omega)) ?_
          refine dq rfl (q_move rfl) ?_
          refine dq rfl (q_convn (p := bN bs ((rof bs i) + 2) 2) rfl Tryz.underlying3 Tryz.underlying39 (show bN bs ((rof bs i) + 2) 2 < 18446744073709551616 by have := bN_lt bs ((rof bs i) + 2) 2 65536 rfl; omega)) ?_
          refine dq rfl (q_move rfl) ?_
          refine dq rfl (q_move rfl) ?_
          refine dq rfl (q_mul (p := 4) (q := bN bs ((rof bs i) + 2) 2) rfl rfl (show 4 * (bN bs ((rof bs i) + 2) 2) < 9223372036854775808 by have := bN_lt bs ((rof bs i) + 2) 2 65536 rfl; omega)) ?_
          refine dq rfl (q_add (p := 8) (q := 4 * (bN bs ((rof bs i) + 2) 2)) rfl rfl (show 8 + (4 * (bN bs ((rof bs i) + 2) 2)) < 9223372036854775808 by have := bN_lt bs ((rof bs i) + 2) 2 65536 rfl; omega)) ?_
          refine dq rfl (q_slice (lo := 4) (hi := 8 + (4 * (bN bs ((rof bs i) + 2) 2))) rfl Tryz.underlying22 nagg_5 (.inr ⟨_, _, rfl, rfl⟩) (.inr ⟨_, _, rfl, rfl⟩) (by have := bN_lt bs ((rof bs i) + 2) 2 65536 rfl; omega) (by have := bN_lt bs ((rof bs i) + 2) 2 65536 rfl; omega)) ?_
          refine QL.nil ?_
          refine RG.step2 1 8 (by kernel_rfl) ?_ ?_
          · refine dop rfl (l_q _ (by simp) (St.closed _ _ _ _) (q_load (b := b5) (off := 2) (j := 1) rfl nagg_27 (fun _ h => h) rfl rfl rfl) ⟨(fun _ h => (St.wk (St.untail (K := [(igmp3_s5_k2 b2), (igmp3_s5_k3 b5 b22 b24 v), (igmp3_s5_k0 b22 bs), ⟨b24, 22, [some (.slice none 0 0)], true⟩]) (Kr := Kr) h) [(0, []), (1, [2]), (2, []), (3, [])] rfl)), ?_⟩)
            refine RG.step1 8 (by kernel_rfl) ?_
            refine dop rfl (l_buildSliceT (K := [(igmp3_s5_k2 b2), (igmp3_s5_k3 b5 b22 b24 v), (igmp3_s5_k0 b22 bs), ⟨b24, 22, [some (.slice none 0 0)], true⟩]) (Kr := Kr) (e := 39) (vs := [(0, (.int .u64 ((nb bs (rof bs i) : Nat) : Int))), (1, (.int .u64 ((0 : Nat) : Int))), (2, (.int .u64 ((bN bs ((rof bs i) + 2) 2 : Nat) : Int))), (3, (.int .u64 ((0 : Nat) : Int)))]) (cs := [(.int .u64 ((nb bs (rof bs i) : Nat) : Int)), (.int .u64 ((0 : Nat) : Int)), (.int .u64 ((bN bs ((rof bs i) + 2) 2 : Nat) : Int)), (.int .u64 ((0 : Nat) : Int))]) (by decide) rfl (fun _ => by kernel_rfl) fun b168 => ⟨(fun _ h => (St.wk (St.untail (K := [(igmp3_s5_k2 b2), (igmp3_s5_k3 b5 b22 b24 v), (igmp3_s5_k0 b22 bs), ⟨b24, 22, [some (.slice none 0 0)], true⟩, (igmp3_s5_k1 b168 bs i)]) (Kr := Kr) h) [(0, []), (1, [2]), (2, []), (3, [])] rfl)), ?_⟩)
            refine dtake (f := 4) [14] (by kernel_rfl) (St.closed _ _ _ _) (fun _ h => (St.wk (St.untail (K := [(igmp3_s5_k2 b2), (igmp3_s5_k3 b5 b22 b24 v), (igmp3_s5_k0 b22 bs), ⟨b24, 22, [some (.slice none 0 0)], true⟩, (igmp3_s5_k1 b168 bs i)]) (Kr := Kr) h) [(0, []), (1, [2]), (2, []), (3, [])] rfl)) (by kernel_rfl) ?_
            refine dq rfl (q_build (vs := [(0, (.slice (some ⟨b168, 0, none⟩) 4 4)), (1, (.slice (cutA Ai ci 4) ((8 + (4 * (bN bs ((rof bs i) + 2) 2))) - 4) (ci - 4)))]) (v := (.agg #[(.slice (some ⟨b168, 0, none⟩) 4 4), (.slice (cutA Ai ci 4) ((8 + (4 * (bN bs ((rof bs i) + 2) 2))) - 4) (ci - 4))])) rfl (fun _ => by kernel_rfl)) ?_
            refine QL.nil ?_
            refine RG.step1 15 (by kernel_rfl) ?_
            refine dop rfl (l_buildSliceT (K := [(igmp3_s5_k2 b2), (igmp3_s5_k3 b5 b22 b24 v), (igmp3_s5_k0 b22 bs), ⟨b24, 22, [some (.slice none 0 0)], true⟩, (igmp3_s5_k1 b168 bs i)]) (Kr := Kr) (e := 49) (vs := [(0, (.agg #[(.slice (some ⟨b168, 0, none⟩) 4 4), (.slice (cutA Ai ci 4) ((8 + (4 * (bN bs ((rof bs i) + 2) 2))) - 4) (ci - 4))]))]) (cs := [(.slice (some ⟨b168, 0, none⟩) 4 4), (.slice (cutA Ai ci 4) ((8 + (4 * (bN bs ((rof bs i) + 2) 2))) - 4) (ci - 4))]) (by decide) rfl (fun _ => by kernel_rfl) fun b175 => ⟨(fun _ h => (St.wk (St.untail (K := [(igmp3_s5_k2 b2), (igmp3_s5_k3 b5 b22 b24 v), (igmp3_s5_k0 b22 bs), ⟨b24, 22, [some (.slice none 0 0)], true⟩, (igmp3_s5_k1 b168 bs i), (igmp3_s5_k4 b175 b168 Ai ci bs i)]) (Kr := Kr) h) [(0, []), (1, [2]), (2, []), (3, [])] rfl)), ?_⟩)
            refine RG.step1 16 (by kernel_rfl) ?_
            refine dop rfl (l_appendR (K0 := [(igmp3_s5_k2 b2), (igmp3_s5_k3 b5 b22 b24 v), (igmp3_s5_k0 b22 bs), ⟨b24, 22, [some (.slice none 0 0)], true⟩, (igmp3_s5_k1 b168 bs i), (igmp3_s5_k4 b175 b168 Ai ci bs i)]) (Kr := Kr) (k := i) (xs := (psV ps)) (jq := 5) (news := [(.slice (some ⟨b168, 0, none⟩) 4 4), (.slice (cutA Ai ci 4) ((8 + (4 * (bN bs ((rof bs i) + 2) 2))) - 4) (ci - 4))]) (by decide) rfl rfl Tryz.underlying27 rowT_49 (by decide) hr (by have := hil; have := bN_lt bs 6 2 65536 rfl; omega) rfl rfl (by simp [Value.one1]) fun v176 Kr176 hr176 => ⟨(fun _ h => (St.wk (St.untail (K := [(igmp3_s5_k2 b2), (igmp3_s5_k3 b5 b22 b24 v), (igmp3_s5_k0 b22 bs), ⟨b24, 22, [some (.slice none 0 0)], true⟩, (igmp3_s5_k1 b168 bs i), (igmp3_s5_k4 b175 b168 Ai ci bs i)]) (Kr := Kr176) h) [(0, []), (1, [2]), (2, []), (3, [])] rfl)), ?_⟩)
            refine dtake (f := 1) [17] (by kernel_rfl) (St.closed _ _ _ _) (fun _ h => (St.wk (St.untail (K := [(igmp3_s5_k2 b2), (igmp3_s5_k3 b5 b22 b24 v), (igmp3_s5_k0 b22 bs), ⟨b24, 22, [some (.slice none 0 0)], true⟩, (igmp3_s5_k1 b168 bs i), (igmp3_s5_k4 b175 b168 Ai ci bs i)]) (Kr := Kr176) h) [(0, []), (1, [2]), (2, []), (3, [])] rfl)) (by kernel_rfl) ?_
            refine dq rfl (q_field (b := b5) (off := 0) rfl fo_29_2) ?_
            refine QL.nil ?_
            refine RG.step1 18 (by kernel_rfl) ?_
            refine dop rfl (l_store (b := b5) (off := 2) (j := 1) rfl rfl nagg_27 hr176.one rfl rfl rfl (dlt rfl) ⟨(fun _ h => (St.wk (St.untail (K := [(igmp3_s5_k2 b2), (igmp3_s5_k5 b5 b22 b24 v176), (igmp3_s5_k0 b22 bs), ⟨b24, 22, [some (.slice none 0 0)], true⟩, (igmp3_s5_k1 b168 bs i), (igmp3_s5_k4 b175 b168 Ai ci bs i)]) (Kr := Kr176) h) [(0, []), (1, [2]), (2, []), (3, [])] rfl)), ?_⟩)
            refine dend (by kernel_rfl) ?_
            refine eseq ?_
            refine HT.norm ([(igmp3_s5_k2 b2), (igmp3_s5_k5 b5 b22 b24 v176), (igmp3_s5_k0 b22 bs), ⟨b24, 22, [some (.slice none 0 0)], true⟩, (igmp3_s5_k1 b168 bs i), (igmp3_s5_k4 b175 b168 Ai ci bs i)] ++ Kr176) [Byt A n c bs, Byt Ai (n - (rof bs i)) ci (sl bs (rof bs i) n), psF ps] rfl rfl ?_
            refine HT.plain ?_
            refine sMv rfl rfl ?_
            refine sMv rfl rfl ?_
            refine sqS (q_mul (p := 4) (q := bN bs ((rof bs i) + 2) 2) rfl rfl (show 4 * (bN bs ((rof bs i) + 2) 2) < 9223372036854775808 by have := bN_lt bs ((rof bs i) + 2) 2 65536 rfl; omega)) rfl ?_
            refine sqS (q_add (p := 8) (q := 4 * (bN bs ((rof bs i) + 2) 2)) rfl rfl (show 8 + (4 * (bN bs ((rof bs i) + 2) 2)) < 9223372036854775808 by have := bN_lt bs ((rof bs i) + 2) 2 65536 rfl; omega)) rfl ?_
            refine sqS (q_slice (lo := 8 + (4 * (bN bs ((rof bs i) + 2) 2))) (hi := n - (rof bs i)) rfl Tryz.underlying22 nagg_5 (.inr ⟨_, _, rfl, rfl⟩) (.inl ⟨rfl, rfl⟩) (by have := bN_lt bs ((rof bs i) + 2) 2 65536 rfl; omega) (by omega)) rfl ?_
            refine sAs rfl rfl ?_
            refine send ?_
            refine ein ?_
            refine eseq ?_
            refine HT.plain ?_
            refine sqS (q_add (p := i) (q := 1) rfl rfl (show i + 1 < 9223372036854775808 by have := hil; omega)) rfl ?_
            refine sMv rfl rfl ?_
            refine send ?_
            exact fun a ha w' hw => by
              obtain ⟨hp2, hs2⟩ := PSt.step hp (X := [(igmp3_s5_k2 b2), (igmp3_s5_k5 b5 b22 b24 v176), (igmp3_s5_k0 b22 bs), ⟨b24, 22, [some (.slice none 0 0)], true⟩]) (Y := [(igmp3_s5_k4 b175 b168 Ai ci bs i)]) (k := (igmp3_s5_k1 b168 bs i)) (B := [Byt A n c bs]) (r := []) (cnt := 4) (cap := 4) (xs := [nb bs (rof bs i), 0, bN bs ((rof bs i) + 2) 2, 0]) (lo := 4) (hi := 8 + (4 * (bN bs ((rof bs i) + 2) 2))) (sz := 8 + (4 * (bN bs ((rof bs i) + 2) 2))) hw (by omega) rfl rfl (Nat.le_refl _) rfl hr176 (by omega) (by omega) (by omega) (by omega) (pdt (lc rfl (lc rfl (lc (show bN bs ((rof bs i) + 2) 2 = bN bs (rof bs i + 2) 2 from by omega) (lc rfl rfl)))) (by omega) (by omega))
              exact eround2 ⟨(i + 1, _, _, _, _, _), hp2⟩ (show N - (i + 1) < N - i by omega) (ha.sub ⟨rfl, rfl, rfl, slc (n' := n - rof bs (i + 1)) (by omega), rfl, trivial⟩) hs2
          · refine dop rfl (l_buildSliceT (K := [(igmp3_s5_k2 b2), (igmp3_s5_k3 b5 b22 b24 v), (igmp3_s5_k0 b22 bs), ⟨b24, 22, [some (.slice none 0 0)], true⟩]) (Kr := Kr) (e := 39) (vs := [(0, (.int .u64 ((nb bs (rof bs i) : Nat) : Int))), (1, (.int .u64 ((0 : Nat) : Int))), (2, (.int .u64 ((bN bs ((rof bs i) + 2) 2 : Nat) : Int))), (3, (.int .u64 ((0 : Nat) : Int)))]) (cs := [(.int .u64 ((nb bs (rof bs i) : Nat) : Int)), (.int .u64 ((0 : Nat) : Int)), (.int .u64 ((bN bs ((rof bs i) + 2) 2 : Nat) : Int)), (.int .u64 ((0 : Nat) : Int))]) (by decide) rfl (fun _ => by kernel_rfl) fun b168 => ⟨(fun _ h => (St.wk (St.untail (K := [(igmp3_s5_k2 b2), (igmp3_s5_k3 b5 b22 b24 v), (igmp3_s5_k0 b22 bs), ⟨b24, 22, [some (.slice none 0 0)], true⟩, (igmp3_s5_k1 b168 bs i)]) (Kr := Kr) h) [(0, []), (1, [2]), (2, []), (3, [])] rfl)), ?_⟩)
            refine dtake (f := 5) [14] (by kernel_rfl) (St.closed _ _ _ _) (fun _ h => (St.wk (St.untail (K := [(igmp3_s5_k2 b2), (igmp3_s5_k3 b5 b22 b24 v), (igmp3_s5_k0 b22 bs), ⟨b24, 22, [some (.slice none 0 0)], true⟩, (igmp3_s5_k1 b168 bs i)]) (Kr := Kr) h) [(0, []), (1, [2]), (2, []), (3, [])] rfl)) (by kernel_rfl) ?_
            refine dq rfl (q_build (vs := [(0, (.slice (some ⟨b168, 0, none⟩) 4 4)), (1, (.slice (cutA Ai ci 4) ((8 + (4 * (bN bs ((rof bs i) + 2) 2))) - 4) (ci - 4)))]) (v := (.agg #[(.slice (some ⟨b168, 0, none⟩) 4 4), (.slice (cutA Ai ci 4) ((8 + (4 * (bN bs ((rof bs i) + 2) 2))) - 4) (ci - 4))])) rfl (fun _ => by kernel_rfl)) ?_
            refine QL.nil ?_
            refine RG.step2 1 15 (by kernel_rfl) ?_ ?_
            · refine dop rfl (l_q _ (by simp) (St.closed _ _ _ _) (q_load (b := b5) (off := 2) (j := 1) rfl nagg_27 (fun _ h => h) rfl rfl rfl) ⟨(fun _ h => (St.wk (St.untail (K := [(igmp3_s5_k2 b2), (igmp3_s5_k3 b5 b22 b24 v), (igmp3_s5_k0 b22 bs), ⟨b24, 22, [some (.slice none 0 0)], true⟩, (igmp3_s5_k1 b168 bs i)]) (Kr := Kr) h) [(0, []), (1, [2]), (2, []), (3, [])] rfl)), ?_⟩)
              refine RG.step1 15 (by kernel_rfl) ?_
              refine dop rfl (l_buildSliceT (K := [(igmp3_s5_k2 b2), (igmp3_s5_k3 b5 b22 b24 v), (igmp3_s5_k0 b22 bs), ⟨b24, 22, [some (.slice none 0 0)], true⟩, (igmp3_s5_k1 b168 bs i)]) (Kr := Kr) (e := 49) (vs := [(0, (.agg #[(.slice (some ⟨b168, 0, none⟩) 4 4), (.slice (cutA Ai ci 4) ((8 + (4 * (bN bs ((rof bs i) + 2) 2))) - 4) (ci - 4))]))]) (cs := [(.slice (some ⟨b168, 0, none⟩) 4 4), (.slice (cutA Ai ci 4) ((8 + (4 * (bN bs ((rof bs i) + 2) 2))) - 4) (ci - 4))]) (by decide) rfl (fun _ => by kernel_rfl) fun b175 => ⟨(fun _ h => (St.wk (St.untail (K := [(igmp3_s5_k2 b2), (igmp3_s5_k3 b5 b22 b24 v), (igmp3_s5_k0 b22 bs), ⟨b24, 22, [some (.slice none 0 0)], true⟩, (igmp3_s5_k1 b168 bs i), (igmp3_s5_k4 b175 b168 Ai ci bs i)]) (Kr := Kr) h) [(0, []), (1, [2]), (2, []), (3, [])] rfl)), ?_⟩)
              refine RG.step1 16 (by kernel_rfl) ?_
              refine dop rfl (l_appendR (K0 := [(igmp3_s5_k2 b2), (igmp3_s5_k3 b5 b22 b24 v), (igmp3_s5_k0 b22 bs), ⟨b24, 22, [some (.slice none 0 0)], true⟩, (igmp3_s5_k1 b168 bs i), (igmp3_s5_k4 b175 b168 Ai ci bs i)]) (Kr := Kr) (k := i) (xs := (psV ps)) (jq := 5) (news := [(.slice (some ⟨b168, 0, none⟩) 4 4), (.slice (cutA Ai ci 4) ((8 + (4 * (bN bs ((rof bs i) + 2) 2))) - 4) (ci - 4))]) (by decide) rfl rfl Tryz.underlying27 rowT_49 (by decide) hr (by have := hil; have := bN_lt bs 6 2 65536 rfl; omega) rfl rfl (by simp [Value.one1]) fun v176 Kr176 hr176 => ⟨(fun _ h => (St.wk (St.untail (K := [(igmp3_s5_k2 b2), (igmp3_s5_k3 b5 b22 b24 v), (igmp3_s5_k0 b22 bs), ⟨b24, 22, [some (.slice none 0 0)], true⟩, (igmp3_s5_k1 b168 bs i), (igmp3_s5_k4 b175 b168 Ai ci bs i)]) (Kr := Kr176) h) [(0, []), (1, [2]), (2, []), (3, [])] rfl)), ?_⟩)
              refine dtake (f := 1) [17] (by kernel_rfl) (St.closed _ _ _ _) (fun _ h => (St.wk (St.untail (K := [(igmp3_s5_k2 b2), (igmp3_s5_k3 b5 b22 b24 v), (igmp3_s5_k0 b22 bs), ⟨b24, 22, [some (.slice none 0 0)], true⟩, (igmp3_s5_k1 b168 bs i), (igmp3_s5_k4 b175 b168 Ai ci bs i)]) (Kr := Kr176) h) [(0, []), (1, [2]), (2, []), (3, [])] rfl)) (by kernel_rfl) ?_
              refine dq rfl (q_field (b := b5) (off := 0) rfl fo_29_2) ?_
              refine QL.nil ?_
              refine RG.step1 18 (by kernel_rfl) ?_
              refine dop rfl (l_store (b := b5) (off := 2) (j := 1) rfl rfl nagg_27 hr176.one rfl rfl rfl (dlt rfl) ⟨(fun _ h => (St.wk (St.untail (K := [(igmp3_s5_k2 b2), (igmp3_s5_k5 b5 b22 b24 v176), (igmp3_s5_k0 b22 bs), ⟨b24, 22, [some (.slice none 0 0)], true⟩, (igmp3_s5_k1 b168 bs i), (igmp3_s5_k4 b175 b168 Ai ci bs i)]) (Kr := Kr176) h) [(0, []), (1, [2]), (2, []), (3, [])] rfl)), ?_⟩)
              refine dend (by kernel_rfl) ?_
              refine eseq ?_
              refine HT.norm ([(igmp3_s5_k2 b2), (igmp3_s5_k5 b5 b22 b24 v176), (igmp3_s5_k0 b22 bs), ⟨b24, 22, [some (.slice none 0 0)], true⟩, (igmp3_s5_k1 b168 bs i), (igmp3_s5_k4 b175 b168 Ai ci bs i)] ++ Kr176) [Byt A n c bs, Byt Ai (n - (rof bs i)) ci (sl bs (rof bs i) n), psF ps] rfl rfl ?_
              refine HT.plain ?_
              refine sMv rfl rfl ?_
              refine sMv rfl rfl ?_
              refine sqS (q_mul (p := 4) (q := bN bs ((rof bs i) + 2) 2) rfl rfl (show 4 * (bN bs ((rof bs i) + 2) 2) < 9223372036854775808 by have := bN_lt bs ((rof bs i) + 2) 2 65536 rfl; omega)) rfl ?_
              refine sqS (q_add (p := 8) (q := 4 * (bN bs ((rof bs i) + 2) 2)) rfl rfl (show 8 + (4 * (bN bs ((rof bs i) + 2) 2)) < 9223372036854775808 by have := bN_lt bs ((rof bs i) + 2) 2 65536 rfl; omega)) rfl ?_
              refine sqS (q_slice (lo := 8 + (4 * (bN bs ((rof bs i) + 2) 2))) (hi := n - (rof bs i)) rfl Tryz.underlying22 nagg_5 (.inr ⟨_, _, rfl, rfl⟩) (.inl ⟨rfl, rfl⟩) (by have := bN_lt bs ((rof bs i) + 2) 2 65536 rfl; omega) (by omega)) rfl ?_
              refine sAs rfl rfl ?_
              refine send ?_
              refine ein ?_
              refine eseq ?_
              refine HT.plain ?_
              refine sqS (q_add (p := i) (q := 1) rfl rfl (show i + 1 < 9223372036854775808 by have := hil; omega)) rfl ?_
              refine sMv rfl rfl ?_
              refine send ?_
              exact fun a ha w' hw => by
                obtain ⟨hp2, hs2⟩ := PSt.step hp (X := [(igmp3_s5_k2 b2), (igmp3_s5_k5 b5 b22 b24 v176), (igmp3_s5_k0 b22 bs), ⟨b24, 22, [some (.slice none 0 0)], true⟩]) (Y := [(igmp3_s5_k4 b175 b168 Ai ci bs i)]) (k := (igmp3_s5_k1 b168 bs i)) (B := [Byt A n c bs]) (r := []) (cnt := 4) (cap := 4) (xs := [nb bs (rof bs i), 0, bN bs ((rof bs i) + 2) 2, 0]) (lo := 4) (hi := 8 + (4 * (bN bs ((rof bs i) + 2) 2))) (sz := 8 + (4 * (bN bs ((rof bs i) + 2) 2))) hw (by omega) rfl rfl (Nat.le_refl _) rfl hr176 (by omega) (by omega) (by omega) (by omega) (pdt (lc rfl (lc rfl (lc (show bN bs ((rof bs i) + 2) 2 = bN bs (rof bs i + 2) 2 from by omega) (lc rfl rfl)))) (by omega) (by omega))
                exact eround2 ⟨(i + 1, _, _, _, _, _), hp2⟩ (show N - (i + 1) < N - i by omega) (ha.sub ⟨rfl, rfl, rfl, slc (n' := n - rof bs (i + 1)) (by omega), rfl, trivial⟩) hs2
            · refine dop rfl (l_buildSliceT (K := [(igmp3_s5_k2 b2), (igmp3_s5_k3 b5 b22 b24 v), (igmp3_s5_k0 b22 bs), ⟨b24, 22, [some (.slice none 0 0)], true⟩, (igmp3_s5_k1 b168 bs i)]) (Kr := Kr) (e := 49) (vs := [(0, (.agg #[(.slice (some ⟨b168, 0, none⟩) 4 4), (.slice (cutA Ai ci 4) ((8 + (4 * (bN bs ((rof bs i) + 2) 2))) - 4) (ci - 4))]))]) (cs := [(.slice (some ⟨b168, 0, none⟩) 4 4), (.slice (cutA Ai ci 4) ((8 + (4 * (bN bs ((rof bs i) + 2) 2))) - 4) (ci - 4))]) (by decide) rfl (fun _ => by kernel_rfl) fun b175 => ⟨(fun _ h => (St.wk (St.untail (K := [(igmp3_s5_k2 b2), (igmp3_s5_k3 b5 b22 b24 v), (igmp3_s5_k0 b22 bs), ⟨b24, 22, [some (.slice none 0 0)], true⟩, (igmp3_s5_k1 b168 bs i), (igmp3_s5_k4 b175 b168 Ai ci bs i)]) (Kr := Kr) h) [(0, []), (1, [2]), (2, []), (3, [])] rfl)), ?_⟩)
              refine RG.step1 1 (by kernel_rfl) ?_
              refine dop rfl (l_q _ (by simp) (St.closed _ _ _ _) (q_load (b := b5) (off := 2) (j := 1) rfl nagg_27 (fun _ h => h) rfl rfl rfl) ⟨(fun _ h => (St.wk (St.untail (K := [(igmp3_s5_k2 b2), (igmp3_s5_k3 b5 b22 b24 v), (igmp3_s5_k0 b22 bs), ⟨b24, 22, [some (.slice none 0 0)], true⟩, (igmp3_s5_k1 b168 bs i), (igmp3_s5_k4 b175 b168 Ai ci bs i)]) (Kr := Kr) h) [(0, []), (1, [2]), (2, []), (3, [])] rfl)), ?_⟩)
              refine RG.step1 16 (by kernel_rfl) ?_
              refine dop rfl (l_appendR (K0 := [(igmp3_s5_k2 b2), (igmp3_s5_k3 b5 b22 b24 v), (igmp3_s5_k0 b22 bs), ⟨b24, 22, [some (.slice none 0 0)], true⟩, (igmp3_s5_k1 b168 bs i), (igmp3_s5_k4 b175 b168 Ai ci bs i)]) (Kr := Kr) (k := i) (xs := (psV ps)) (jq := 5) (news := [(.slice (some ⟨b168, 0, none⟩) 4 4), (.slice (cutA Ai ci 4) ((8 + (4 * (bN bs ((rof bs i) + 2) 2))) - 4) (ci - 4))]) (by decide) rfl rfl Tryz.underlying27 rowT_49 (by decide) hr (by have := hil; have := bN_lt bs 6 2 65536 rfl; omega) rfl rfl (by simp [Value.one1]) fun v176 Kr176 hr176 => ⟨(fun _ h => (St.wk (St.untail (K := [(igmp3_s5_k2 b2), (igmp3_s5_k3 b5 b22 b24 v), (igmp3_s5_k0 b22 bs), ⟨b24, 22, [some (.slice none 0 0)], true⟩, (igmp3_s5_k1 b168 bs i), (igmp3_s5_k4 b175 b168 Ai ci bs i)]) (Kr := Kr176) h) [(0, []), (1, [2]), (2, []), (3, [])] rfl)), ?_⟩)
              refine dtake (f := 1) [17] (by kernel_rfl) (St.closed _ _ _ _) (fun _ h => (St.wk (St.untail (K := [(igmp3_s5_k2 b2), (igmp3_s5_k3 b5 b22 b24 v), (igmp3_s5_k0 b22 bs), ⟨b24, 22, [some (.slice none 0 0)], true⟩, (igmp3_s5_k1 b168 bs i), (igmp3_s5_k4 b175 b168 Ai ci bs i)]) (Kr := Kr176) h) [(0, []), (1, [2]), (2, []), (3, [])] rfl)) (by kernel_rfl) ?_
              refine dq rfl (q_field (b := b5) (off := 0) rfl fo_29_2) ?_
              refine QL.nil ?_
              refine RG.step1 18 (by kernel_rfl) ?_
              refine dop rfl (l_store (b := b5) (off := 2) (j := 1) rfl rfl nagg_27 hr176.one rfl rfl rfl (dlt rfl) ⟨(fun _ h => (St.wk (St.untail (K := [(igmp3_s5_k2 b2), (igmp3_s5_k5 b5 b22 b24 v176), (igmp3_s5_k0 b22 bs), ⟨b24, 22, [some (.slice none 0 0)], true⟩, (igmp3_s5_k1 b168 bs i), (igmp3_s5_k4 b175 b168 Ai ci bs i)]) (Kr := Kr176) h) [(0, []), (1, [2]), (2, []), (3, [])] rfl)), ?_⟩)
              refine dend (by kernel_rfl) ?_
              refine eseq ?_
              refine HT.norm ([(igmp3_s5_k2 b2), (igmp3_s5_k5 b5 b22 b24 v176), (igmp3_s5_k0 b22 bs), ⟨b24, 22, [some (.slice none 0 0)], true⟩, (igmp3_s5_k1 b168 bs i), (igmp3_s5_k4 b175 b168 Ai ci bs i)] ++ Kr176) [Byt A n c bs, Byt Ai (n - (rof bs i)) ci (sl bs (rof bs i) n), psF ps] rfl rfl ?_
              refine HT.plain ?_
              refine sMv rfl rfl ?_
              refine sMv rfl rfl ?_
              refine sqS (q_mul (p := 4) (q := bN bs ((rof bs i) + 2) 2) rfl rfl (show 4 * (bN bs ((rof bs i) + 2) 2) < 9223372036854775808 by have := bN_lt bs ((rof bs i) + 2) 2 65536 rfl; omega)) rfl ?_
              refine sqS (q_add (p := 8) (q := 4 * (bN bs ((rof bs i) + 2) 2)) rfl rfl (show 8 + (4 * (bN bs ((rof bs i) + 2) 2)) < 9223372036854775808 by have := bN_lt bs ((rof bs i) + 2) 2 65536 rfl; omega)) rfl ?_
              refine sqS (q_slice (lo := 8 + (4 * (bN bs ((rof bs i) + 2) 2))) (hi := n - (rof bs i)) rfl Tryz.underlying22 nagg_5 (.inr ⟨_, _, rfl, rfl⟩) (.inl ⟨rfl, rfl⟩) (by have := bN_lt bs ((rof bs i) + 2) 2 65536 rfl; omega) (by omega)) rfl ?_
              refine sAs rfl rfl ?_
              refine send ?_
              refine ein ?_
              refine eseq ?_
              refine HT.plain ?_
              refine sqS (q_add (p := i) (q := 1) rfl rfl (show i + 1 < 9223372036854775808 by have := hil; omega)) rfl ?_
              refine sMv rfl rfl ?_
              refine send ?_
              exact fun a ha w' hw => by
                obtain ⟨hp2, hs2⟩ := PSt.step hp (X := [(igmp3_s5_k2 b2), (igmp3_s5_k5 b5 b22 b24 v176), (igmp3_s5_k0 b22 bs), ⟨b24, 22, [some (.slice none 0 0)], true⟩]) (Y := [(igmp3_s5_k4 b175 b168 Ai ci bs i)]) (k := (igmp3_s5_k1 b168 bs i)) (B := [Byt A n c bs]) (r := []) (cnt := 4) (cap := 4) (xs := [nb bs (rof bs i), 0, bN bs ((rof bs i) + 2) 2, 0]) (lo := 4) (hi := 8 + (4 * (bN bs ((rof bs i) + 2) 2))) (sz := 8 + (4 * (bN bs ((rof bs i) + 2) 2))) hw (by omega) rfl rfl (Nat.le_refl _) rfl hr176 (by omega) (by omega) (by omega) (by omega) (pdt (lc rfl (lc rfl (lc (show bN bs ((rof bs i) + 2) 2 = bN bs (rof bs i + 2) 2 from by omega) (lc rfl rfl)))) (by omega) (by omega))
                exact eround2 ⟨(i + 1, _, _, _, _, _), hp2⟩ (show N - (i + 1) < N - i by omega) (ha.sub ⟨rfl, rfl, rfl, slc (n' := n - rof bs (i + 1)) (by omega), rfl, trivial⟩) hs2

theorem igmp3_S5 (w : World) (A : Option Addr) (n : Nat) (c : Nat) (bs : List UInt8) (N : Nat) (hn : n ≤ 2147483647) (ha : 8 ≤ n) (hb : nb bs 0 = 34) (hc : ∀ i, i < N → rof bs i + 8 ≤ n ∧ nb bs (rof bs i + 1) = 0 ∧ rof bs (i + 1) ≤ n) (hd : N < bN bs 6 2) (he : n < rof bs N + 8 ∨ nb bs (rof bs N + 1) ≠ 0 ∨ n < rof bs (N + 1)) (hst : St w [] [] [Byt A n c bs] w) : Calls Tryz.prog 26 #[(.string ⟨#[105, 103, 109, 112, 51]⟩), (.slice A n c)] w (SP w (Byt A n c bs) none) := by
  have hnc00 : n ≤ c := (hst.fact (j := 0) rfl).2.1
  refine enter (vs := [(.string ⟨#[105, 103, 109, 112, 51]⟩), (.slice A n c)]) Tryz.func26 rfl rfl rfl hst ?_
  refine HT.seq ?_
  refine HT.plain ?_
  refine sl_ (l_alloc (by decide) zero_29 fun b4 => ?_)
  refine sAs rfl rfl ?_
  refine sAs rfl rfl ?_
  refine send ?_
  refine eseq ?_
  refine HT.seq ?_
  refine HT.plain ?_
  refine sl_ (l_makeMap (by decide) fun b13 => ?_)
  refine sl_ (l_insert (es := es0) (ck := 0) rfl rfl rfl Tryz.underlying36 Tryz.underlying9 fi0 ?_)
  refine sl_ (l_insert (es := es1) (ck := 1) rfl rfl rfl Tryz.underlying36 Tryz.underlying9 fi1 ?_)
  refine sl_ (l_insert (es := es2) (ck := 2) rfl rfl rfl Tryz.underlying36 Tryz.underlying9 fi2 ?_)
  refine sl_ (l_insert (es := es3) (ck := 3) rfl rfl rfl Tryz.underlying36 Tryz.underlying9 fi3 ?_)
  refine sl_ (l_insert (es := es4) (ck := 4) rfl rfl rfl Tryz.underlying36 Tryz.underlying9 fi4 ?_)
  refine sl_ (l_insert (es := es5) (ck := 5) rfl rfl rfl Tryz.underlying36 Tryz.underlying9 fi5 ?_)
  refine sl_ (l_insert (es := es6) (ck := 6) rfl rfl rfl Tryz.underlying36 Tryz.underlying9 fi6 ?_)
  refine sl_ (l_insert (es := es7) (ck := 7) rfl rfl rfl Tryz.underlying36 Tryz.underlying9 fi7 ?_)
  refine sl_ (l_insert (es := es8) (ck := 8) rfl rfl rfl Tryz.underlying36 Tryz.underlying9 fi8 ?_)
  refine sl_ (l_insert (es := es9) (ck := 9) rfl rfl rfl Tryz.underlying36 Tryz.underlying9 fi9 ?_)
  refine sl_ (l_insert (es := es10) (ck := 10) rfl rfl rfl Tryz.underlying36 Tryz.underlying9 fi10 ?_)
  refine sl_ (l_insert (es := es11) (ck := 11) rfl rfl rfl Tryz.underlying36 Tryz.underlying9 fi11 ?_)
  refine sl_ (l_insert (es := es12) (ck := 12) rfl rfl rfl Tryz.underlying36 Tryz.underlying9 fi12 ?_)
  refine sl_ (l_insert (es := es13) (ck := 13) rfl rfl rfl Tryz.underlying36 Tryz.underlying9 fi13 ?_)
  refine sl_ (l_insert (es := es14) (ck := 14) rfl rfl rfl Tryz.underlying36 Tryz.underlying9 fi14 ?_)
  refine sl_ (l_insert (es := es15) (ck := 15) rfl rfl rfl Tryz.underlying36 Tryz.underlying9 fi15 ?_)
  refine sl_ (l_insert (es := es16) (ck := 16) rfl rfl rfl Tryz.underlying36 Tryz.underlying9 fi16 ?_)
  refine sl_ (l_insert (es := es17) (ck := 17) rfl rfl rfl Tryz.underlying36 Tryz.underlying9 fi17 ?_)
  refine sl_ (l_insert (es := es18) (ck := 18) rfl rfl rfl Tryz.underlying36 Tryz.underlying9 fi18 ?_)
  refine sl_ (l_insert (es := es19) (ck := 19) rfl rfl rfl Tryz.underlying36 Tryz.underlying9 fi19 ?_)
  refine sl_ (l_insert (es := es20) (ck := 20) rfl rfl rfl Tryz.underlying36 Tryz.underlying9 fi20 ?_)
  refine sq (SM.closed) (q_move rfl) rfl ?_
  refine sq (SM.closed) (q_move rfl) rfl ?_
  refine sq (SM.closed) (q_lookup0 (es := es21) (v := (.int .i64 ((0 : Nat) : Int))) (fun _ h => h) rfl rfl Tryz.underlying36 Tryz.underlying9 zero_3 (by kernel_rfl)) rfl ?_
  refine sq (SM.closed) (q_assign rfl) rfl ?_
  refine send ?_
  refine eseq ?_
  refine HT.unmap ?_
  refine HT.seq ?_
  refine HT.seq ?_
  refine HT.plain ?_
  refine sMv rfl rfl ?_
  refine sqS (q_len (len := n) rfl Tryz.underlying22) rfl ?_
  refine sMv rfl rfl ?_
  refine sqS (q_F (q_lt (p := n) (q := 0) rfl rfl) (by omega)) rfl ?_
  refine send ?_
  refine eseq ?_
  refine HT.no rfl ?_
  refine HT.skip ?_
  refine eseq ?_
  refine HT.seq ?_
  refine HT.seq ?_
  refine HT.plain ?_
  refine sMv rfl rfl ?_
  refine send ?_
  refine eseq ?_
  refine HT.block ?_
  refine HT.seq ?_
  refine HT.plain ?_
  refine sqS (q_eqs rfl rfl (r := false) (by kernel_rfl)) rfl ?_
  refine sAs rfl rfl ?_
  refine send ?_
  refine eseq ?_
  refine HT.no rfl ?_
  refine HT.seq ?_
  refine HT.plain ?_
  refine sqS (q_eqs rfl rfl (r := false) (by kernel_rfl)) rfl ?_
  refine sAs rfl rfl ?_
  refine send ?_
  refine eseq ?_
  refine HT.no rfl ?_
  refine HT.seq ?_
  refine HT.plain ?_
  refine sqS (q_eqs rfl rfl (r := false) (by kernel_rfl)) rfl ?_
  refine sAs rfl rfl ?_
  refine send ?_
  refine eseq ?_
  refine HT.no rfl ?_
  refine HT.seq ?_
  refine HT.plain ?_
  refine sqS (q_eqs rfl rfl (r := false) (by kernel_rfl)) rfl ?_
  refine sAs rfl rfl ?_
  refine send ?_
  refine eseq ?_
  refine HT.no rfl ?_
  refine HT.seq ?_
  refine HT.plain ?_
  refine sqS (q_eqs rfl rfl (r := false) (by kernel_rfl)) rfl ?_
  refine sAs rfl rfl ?_
  refine send ?_
  refine eseq ?_
  refine HT.no rfl ?_
  refine HT.seq ?_
  refine HT.plain ?_
  refine sqS (q_eqs rfl rfl (r := false) (by kernel_rfl)) rfl ?_
  refine sAs rfl rfl ?_
  refine send ?_
  refine eseq ?_
  refine HT.no rfl ?_
  refine HT.seq ?_
  refine HT.plain ?_
  refine sqS (q_eqs rfl rfl (r := false) (by kernel_rfl)) rfl ?_
  refine sAs rfl rfl ?_
  refine send ?_
  refine eseq ?_
  refine HT.no rfl ?_
  refine HT.seq ?_
  refine HT.plain ?_
  refine sqS (q_eqs rfl rfl (r := false) (by kernel_rfl)) rfl ?_
  refine sAs rfl rfl ?_
  refine send ?_
  refine eseq ?_
  refine HT.no rfl ?_
  refine HT.seq ?_
  refine HT.plain ?_
  refine sqS (q_eqs rfl rfl (r := false) (by kernel_rfl)) rfl ?_
  refine sAs rfl rfl ?_
  refine send ?_
  refine eseq ?_
  refine HT.no rfl ?_
  refine HT.seq ?_
  refine HT.plain ?_
  refine sqS (q_eqs rfl rfl (r := false) (by kernel_rfl)) rfl ?_
  refine sAs rfl rfl ?_
  refine send ?_
  refine eseq ?_
  refine HT.no rfl ?_
  refine HT.seq ?_
  refine HT.plain ?_
  refine sqS (q_eqs rfl rfl (r := false) (by kernel_rfl)) rfl ?_
  refine sAs rfl rfl ?_
  refine send ?_
  refine eseq ?_
  refine HT.no rfl ?_
  refine HT.seq ?_
  refine HT.plain ?_
  refine sqS (q_eqs rfl rfl (r := false) (by kernel_rfl)) rfl ?_
  refine sAs rfl rfl ?_
  refine send ?_
  refine eseq ?_
  refine HT.no rfl ?_
  refine HT.seq ?_
  refine HT.plain ?_
  refine sqS (q_eqs rfl rfl (r := false) (by kernel_rfl)) rfl ?_
  refine sAs rfl rfl ?_
  refine send ?_
  refine eseq ?_
  refine HT.no rfl ?_
  refine HT.seq ?_
  refine HT.plain ?_
  refine sqS (q_eqs rfl rfl (r := false) (by kernel_rfl)) rfl ?_
  refine sAs rfl rfl ?_
  refine send ?_
  refine eseq ?_
  refine HT.no rfl ?_
  refine HT.seq ?_
  refine HT.plain ?_
  refine sqS (q_eqs rfl rfl (r := false) (by kernel_rfl)) rfl ?_
  refine sAs rfl rfl ?_
  refine send ?_
  refine eseq ?_
  refine HT.no rfl ?_
  refine HT.seq ?_
  refine HT.plain ?_
  refine sqS (q_eqs rfl rfl (r := false) (by kernel_rfl)) rfl ?_
  refine sAs rfl rfl ?_
  refine send ?_
  refine eseq ?_
  refine HT.no rfl ?_
  refine HT.seq ?_
  refine HT.plain ?_
  refine sqS (q_eqs rfl rfl (r := false) (by kernel_rfl)) rfl ?_
  refine sAs rfl rfl ?_
  refine send ?_
  refine eseq ?_
  refine HT.no rfl ?_
  refine HT.seq ?_
  refine HT.plain ?_
  refine sqS (q_eqs rfl rfl (r := false) (by kernel_rfl)) rfl ?_
  refine sAs rfl rfl ?_
  refine send ?_
  refine eseq ?_
  refine HT.no rfl ?_
  refine HT.seq ?_
  refine HT.plain ?_
  refine sqS (q_eqs rfl rfl (r := false) (by kernel_rfl)) rfl ?_
  refine sAs rfl rfl ?_
  refine send ?_
  refine eseq ?_
  refine HT.no rfl ?_
  refine HT.seq ?_
  refine HT.plain ?_
  refine sqS (q_eqs rfl rfl (r := true) (by kernel_rfl)) rfl ?_
  refine sAs rfl rfl ?_
  refine send ?_
  refine eseq ?_
  refine HT.yes rfl ?_
  refine HT.seq ?_
  refine HT.plain ?_
  refine sMv rfl rfl ?_
  refine sl_ (l_callX (ι := BI × BI × BI × BI) (vs := [(.slice A n c)]) (Kc := []) (Bc := [Byt A n c bs]) (K' := fun _ => [⟨b4, 29, [some (.slice none 0 0), some (.slice none 0 0), some (.slice none 0 0), some (.slice none 0 0)], true⟩]) [] [0] (by decide) rfl ca_44 rfl (fun _ h => h) rfl rfl rfl (fun w h => igmp3_s5 w A n c bs N (by omega) (by omega) (by omega) hc (by omega) (by omega) h) (fun _ => rfl) (fun _ => rfl) (fun _ => rfl) fun u _ _ => ?_)
  refine sqS (q_extract (vs := [(.agg #[(.slice u.1.A u.1.n u.1.c), (.slice u.2.1.A u.2.1.n u.2.1.c), (.slice u.2.2.1.A u.2.2.1.n u.2.2.1.c), (.slice u.2.2.2.A u.2.2.2.n u.2.2.2.c)]), (.bool true), (.bool false)]) (i := 0) rfl rfl) rfl ?_
  refine sqS (q_extract (vs := [(.agg #[(.slice u.1.A u.1.n u.1.c), (.slice u.2.1.A u.2.1.n u.2.1.c), (.slice u.2.2.1.A u.2.2.1.n u.2.2.1.c), (.slice u.2.2.2.A u.2.2.2.n u.2.2.2.c)]), (.bool true), (.bool false)]) (i := 1) rfl rfl) rfl ?_
  refine sqS (q_extract (vs := [(.agg #[(.slice u.1.A u.1.n u.1.c), (.slice u.2.1.A u.2.1.n u.2.1.c), (.slice u.2.2.1.A u.2.2.1.n u.2.2.1.c), (.slice u.2.2.2.A u.2.2.2.n u.2.2.2.c)]), (.bool true), (.bool false)]) (i := 2) rfl rfl) rfl ?_
  refine sl_ (l_storeAgg (b := b4) (off := 0) (j := 0) (vs := [(.slice u.1.A u.1.n u.1.c), (.slice u.2.1.A u.2.1.n u.2.1.c), (.slice u.2.2.1.A u.2.2.1.n u.2.2.1.c), (.slice u.2.2.2.A u.2.2.2.n u.2.2.2.c)]) rfl rfl aggs_29 (by simp [Value.one1]) rfl rfl rfl (Nat.le_of_ble_eq_true rfl) ?_)
  refine sAs rfl rfl ?_
  refine sAs rfl rfl ?_
  refine send ?_
  refine eseq ?_
  refine HT.ret ?_
  refine rt_in ?_
  refine rt_then ?_
  exact fun a ha w' hw => fin_ ha (resc3 ha Tryz.results26 rfl (ld_ aggs_29 hw (j := 0) rfl rfl (vs := [(.slice u.1.A u.1.n u.1.c), (.slice u.2.1.A u.2.1.n u.2.1.c), (.slice u.2.2.1.A u.2.2.1.n u.2.2.1.c), (.slice u.2.2.2.A u.2.2.2.n u.2.2.2.c)]) rfl) rfl rfl) ⟨⟨u.1.A, u.1.n, u.1.c, []⟩, ⟨u.2.1.A, u.2.1.n, u.2.1.c, []⟩, ⟨u.2.2.1.A, u.2.2.1.n, u.2.2.1.c, []⟩, ⟨u.2.2.2.A, u.2.2.2.n, u.2.2.2.c, []⟩, true, rfl, hw.pres⟩

theorem igmp3_s6 (w : World) (A : Option Addr) (n : Nat) (c : Nat) (bs : List UInt8) (hn : n ≤ 2147483647) (ha : 8 ≤ n) (hb : nb bs 0 ≠ 17) (hc : nb bs 0 ≠ 34) (hst : St w [] [] [Byt A n c bs] w) : Calls Tryz.prog 44 #[(.slice A n c)] w (CP2 w [] [Byt A n c bs] (fun b22 b24 => (.tuple #[(.agg #[(.slice (some ⟨b22, 0, none⟩) 9 9), (.slice (some ⟨b24, 0, none⟩) 1 1), (.slice none 0 0), (.slice none 0 0)]), (.bool true), (.bool false)])) (fun b22 b24 => [⟨b22, 39, [some (.int .u64 ((nb bs 0 : Nat) : Int)), some (.int .u64 ((0 : Nat) : Int)), some (.int .u64 ((bN bs 2 2 : Nat) : Int)), some (.int .u64 ((0 : Nat) : Int)), some (.int .u64 ((0 : Nat) : Int)), some (.int .u64 ((0 : Nat) : Int)), some (.int .u64 ((0 : Nat) : Int)), some (.int .u64 ((0 : Nat) : Int)), some (.int .u64 ((3 : Nat) : Int))], true⟩, ⟨b24, 22, [some (.slice none 0 0)], true⟩]) (fun b22 b24 => [])) := by
  have hnc00 : n ≤ c := (hst.fact (j := 0) rfl).2.1
  refine enter (vs := [(.slice A n c)]) Tryz.func44 rfl rfl rfl hst ?_
  refine HT.seq ?_
  refine HT.plain ?_
  refine sl_ (l_alloc (by decide) zero_29 fun b2 => ?_)
  refine sAs rfl rfl ?_
  refine sAs rfl rfl ?_
  refine send ?_
  refine eseq ?_
  refine HT.seq ?_
  refine HT.seq ?_
  refine HT.plain ?_
  refine sMv rfl rfl ?_
  refine sqS (q_len (len := n) rfl Tryz.underlying22) rfl ?_
  refine sqS (q_F (q_lt (p := n) (q := 8) rfl rfl) (by omega)) rfl ?_
  refine send ?_
  refine eseq ?_
  refine HT.no rfl ?_
  refine HT.skip ?_
  refine eseq ?_
  refine HT.seq ?_
  refine HT.drawnS mixed (St.closed _ _ _ _) ?_
  refine dtake (f := 4) [0, 1, 2, 3, 4, 5, 6] (by kernel_rfl) (St.closed _ _ _ _) (fun _ h => h) (by kernel_rfl) ?_
  refine dq rfl (q_move rfl) ?_
  refine dq rfl (q_index (i := 0) (j := 0) rfl rfl Tryz.underlying22 nagg_5 (fun _ h => h) rfl (by omega)) ?_
  refine dq rfl (q_byte (i := 0) (j := 0) rfl nagg_5 (fun _ h => h) rfl (by omega)) ?_
  refine dq rfl (q_convn (p := nb bs 0) rfl Tryz.underlying5 Tryz.underlying39 (show nb bs 0 < 18446744073709551616 by have := nb_lt bs 0; omega)) ?_
  refine dq rfl (q_move rfl) ?_
  refine dq rfl (q_slice (lo := 2) (hi := 4) rfl Tryz.underlying22 nagg_5 (.inr ⟨_, _, rfl, rfl⟩) (.inr ⟨_, _, rfl, rfl⟩) (by omega) (by omega)) ?_
  refine dq rfl (q_call (vs := [(.slice (cutA A c 2) (4 - 2) (c - 2))]) (v := (.int .u64 ((bN bs 2 2 : Nat) : Int))) rfl ca_34 (fun w h => NumberC w A n c bs (lo := 2) (hi := 4) (h.fact (j := 0) rfl) (k := 2) rfl (by decide) (by omega) (by omega))) ?_
  refine QL.nil ?_
  refine RG.step2 7 9 (by kernel_rfl) ?_ ?_
  · refine dop rfl (l_buildSlice (e := 39) (vs := [(0, (.int .u64 ((nb bs 0 : Nat) : Int))), (1, (.int .u64 ((0 : Nat) : Int))), (2, (.int .u64 ((bN bs 2 2 : Nat) : Int))), (3, (.int .u64 ((0 : Nat) : Int))), (4, (.int .u64 ((0 : Nat) : Int))), (5, (.int .u64 ((0 : Nat) : Int))), (6, (.int .u64 ((0 : Nat) : Int))), (7, (.int .u64 ((0 : Nat) : Int))), (8, (.int .u64 ((3 : Nat) : Int)))]) (cs := [(.int .u64 ((nb bs 0 : Nat) : Int)), (.int .u64 ((0 : Nat) : Int)), (.int .u64 ((bN bs 2 2 : Nat) : Int)), (.int .u64 ((0 : Nat) : Int)), (.int .u64 ((0 : Nat) : Int)), (.int .u64 ((0 : Nat) : Int)), (.int .u64 ((0 : Nat) : Int)), (.int .u64 ((0 : Nat) : Int)), (.int .u64 ((3 : Nat) : Int))]) (by decide) rfl (fun _ => by kernel_rfl) fun b22 => ⟨(fun _ h => (h.wk [(0, [])] rfl)), ?_⟩)
    refine dtake (f := 2) [8] (by kernel_rfl) (St.closed _ _ _ _) (fun _ h => (h.wk [(0, [])] rfl)) (by kernel_rfl) ?_
    refine dq rfl (q_call (vs := [(.slice none 0 0), (.slice (some ⟨b22, 0, none⟩) 9 9)]) (v := (.agg #[(.slice (some ⟨b22, 0, none⟩) 9 9), (.slice none 0 0), (.slice none 0 0), (.slice none 0 0)])) rfl ca_33 (fun w h => layerC w none 0 0 (some ⟨b22, 0, none⟩) 9 9  (St.enter (sp := []) (Kc := []) (bi := []) h rfl rfl rfl))) ?_
    refine QL.nil ?_
    refine RG.step1 9 (by kernel_rfl) ?_
    refine dop rfl (l_alloc (by decide) zero_29 fun b5 => ⟨(fun _ h => (h.wk [(0, [])] rfl)), ?_⟩)
    refine RG.step1 10 (by kernel_rfl) ?_
    refine dop rfl (l_storeAgg (b := b5) (off := 0) (j := 2) (vs := [(.slice (some ⟨b22, 0, none⟩) 9 9), (.slice none 0 0), (.slice none 0 0), (.slice none 0 0)]) rfl rfl aggs_29 (by simp [Value.one1]) rfl rfl rfl (Nat.le_of_ble_eq_true rfl) ⟨(fun _ h => (h.wk [(0, [])] rfl)), ?_⟩)
    refine dend (by kernel_rfl) ?_
    refine eseq ?_
    refine HT.seq ?_
    refine HT.plain ?_
    refine sl_ (l_buildSlice (e := 22) (vs := [(0, (.slice none 0 0))]) (cs := [(.slice none 0 0)]) (by decide) rfl (fun _ => by kernel_rfl) fun b24 => ?_)
    refine sqS (q_field (b := b5) (off := 0) rfl fo_29_1) rfl ?_
    refine sl_ (l_store (b := b5) (off := 1) (j := 2) rfl rfl nagg_26 rfl rfl rfl rfl (dlt rfl) ?_)
    refine send ?_
    refine eseq ?_
    refine HT.seq ?_
    refine HT.block ?_
    refine HT.seq ?_
    refine HT.plain ?_
    refine sMv rfl rfl ?_
    refine sqS (q_index (i := 0) (j := 0) rfl rfl Tryz.underlying22 nagg_5 (fun _ h => h) rfl (by omega)) rfl ?_
    refine sqS (q_byte (i := 0) (j := 0) rfl nagg_5 (fun _ h => h) rfl (by omega)) rfl ?_
    refine sqS (q_F (q_eq (p := nb bs 0) (q := 17) rfl rfl) (by have := nb_lt bs 0; omega)) rfl ?_
    refine sMv rfl rfl ?_
    refine sskip rfl rfl ?_
    refine sskip rfl rfl ?_
    refine sskip rfl rfl ?_
    refine sqS (q_pick rfl (fun h => nomatch h) (fun _ => rfl)) rfl ?_
    refine sAs rfl rfl ?_
    refine send ?_
    refine eseq ?_
    refine HT.no rfl ?_
    refine HT.seq ?_
    refine HT.plain ?_
    refine sMv rfl rfl ?_
    refine sqS (q_index (i := 0) (j := 0) rfl rfl Tryz.underlying22 nagg_5 (fun _ h => h) rfl (by omega)) rfl ?_
    refine sqS (q_byte (i := 0) (j := 0) rfl nagg_5 (fun _ h => h) rfl (by omega)) rfl ?_
    refine sqS (q_F (q_eq (p := nb bs 0) (q := 34) rfl rfl) (by have := nb_lt bs 0; omega)) rfl ?_
    refine sAs rfl rfl ?_
    refine send ?_
    refine eseq ?_
    refine HT.no rfl ?_
    refine HT.skip ?_
    refine ein ?_
    refine eseq ?_
    refine HT.seq ?_
    refine HT.plain ?_
    refine sqS (q_loadAgg (b := b5) (off := 0) (j := 2) (vs := [(.slice (some ⟨b22, 0, none⟩) 9 9), (.slice (some ⟨b24, 0, none⟩) 1 1), (.slice none 0 0), (.slice none 0 0)]) rfl aggs_29 (fun _ h => h) rfl rfl rfl) rfl ?_
    refine sl_ (l_storeAgg (b := b2) (off := 0) (j := 0) (vs := [(.slice (some ⟨b22, 0, none⟩) 9 9), (.slice (some ⟨b24, 0, none⟩) 1 1), (.slice none 0 0), (.slice none 0 0)]) rfl rfl aggs_29 (by simp [Value.one1]) rfl rfl rfl (Nat.le_of_ble_eq_true rfl) ?_)
    refine sAs rfl rfl ?_
    refine sAs rfl rfl ?_
    refine send ?_
    refine eseq ?_
    refine HT.ret ?_
    exact fun a ha w' hw => fin_ ha (resc3 ha Tryz.results44 rfl (ld_ aggs_29 hw (j := 0) rfl rfl (vs := [(.slice (some ⟨b22, 0, none⟩) 9 9), (.slice (some ⟨b24, 0, none⟩) 1 1), (.slice none 0 0), (.slice none 0 0)]) rfl) rfl rfl) ⟨b22, b24, rfl, (hw.wk [(1, []), (3, [])] rfl), fr0⟩
  · refine dop rfl (l_alloc (by decide) zero_29 fun b5 => ⟨(fun _ h => (h.wk [(0, [])] rfl)), ?_⟩)
    refine RG.step1 7 (by kernel_rfl) ?_
    refine dop rfl (l_buildSlice (e := 39) (vs := [(0, (.int .u64 ((nb bs 0 : Nat) : Int))), (1, (.int .u64 ((0 : Nat) : Int))), (2, (.int .u64 ((bN bs 2 2 : Nat) : Int))), (3, (.int .u64 ((0 : Nat) : Int))), (4, (.int .u64 ((0 : Nat) : Int))), (5, (.int .u64 ((0 : Nat) : Int))), (6, (.int .u64 ((0 : Nat) : Int))), (7, (.int .u64 ((0 : Nat) : Int))), (8, (.int .u64 ((3 : Nat) : Int)))]) (cs := [(.int .u64 ((nb bs 0 : Nat) : Int)), (.int .u64 ((0 : Nat) : Int)), (.int .u64 ((bN bs 2 2 : Nat) : Int)), (.int .u64 ((0 : Nat) : Int)), (.int .u64 ((0 : Nat) : Int)), (.int .u64 ((0 : Nat) : Int)), (.int .u64 ((0 : Nat) : Int)), (.int .u64 ((0 : Nat) : Int)), (.int .u64 ((3 : Nat) : Int))]) (by decide) rfl (fun _ => by kernel_rfl) fun b22 => ⟨(fun _ h => (h.wk [(0, [])] rfl)), ?_⟩)
    refine dtake (f := 1) [8] (by kernel_rfl) (St.closed _ _ _ _) (fun _ h => (h.wk [(0, [])] rfl)) (by kernel_rfl) ?_
    refine dq rfl (q_call (vs := [(.slice none 0 0), (.slice (some ⟨b22, 0, none⟩) 9 9)]) (v := (.agg #[(.slice (some ⟨b22, 0, none⟩) 9 9), (.slice none 0 0), (.slice none 0 0), (.slice none 0 0)])) rfl ca_33 (fun w h => layerC w none 0 0 (some ⟨b22, 0, none⟩) 9 9  (St.enter (sp := []) (Kc := []) (bi := []) h rfl rfl rfl))) ?_
    refine QL.nil ?_
    refine RG.step1 10 (by kernel_rfl) ?_
    refine dop rfl (l_storeAgg (b := b5) (off := 0) (j := 1) (vs := [(.slice (some ⟨b22, 0, none⟩) 9 9), (.slice none 0 0), (.slice none 0 0), (.slice none 0 0)]) rfl rfl aggs_29 (by simp [Value.one1]) rfl rfl rfl (Nat.le_of_ble_eq_true rfl) ⟨(fun _ h => (h.wk [(0, [])] rfl)), ?_⟩)
    refine dend (by kernel_rfl) ?_
    refine eseq ?_
    refine HT.seq ?_
    refine HT.plain ?_
    refine sl_ (l_buildSlice (e := 22) (vs := [(0, (.slice none 0 0))]) (cs := [(.slice none 0 0)]) (by decide) rfl (fun _ => by kernel_rfl) fun b24 => ?_)
    refine sqS (q_field (b := b5) (off := 0) rfl fo_29_1) rfl ?_
    refine sl_ (l_store (b := b5) (off := 1) (j := 1) rfl rfl nagg_26 rfl rfl rfl rfl (dlt rfl) ?_)
    refine send ?_
    refine eseq ?_
    refine HT.seq ?_
    refine HT.block ?_
    refine HT.seq ?_
    refine HT.plain ?_
    refine sMv rfl rfl ?_
    refine sqS (q_index (i := 0) (j := 0) rfl rfl Tryz.underlying22 nagg_5 (fun _ h => h) rfl (by omega)) rfl ?_
    refine sqS (q_byte (i := 0) (j := 0) rfl nagg_5 (fun _ h => h) rfl (by omega)) rfl ?_
    refine sqS (q_F (q_eq (p := nb bs 0) (q := 17) rfl rfl) (by have := nb_lt bs 0; omega)) rfl ?_
    refine sMv rfl rfl ?_
    refine sskip rfl rfl ?_
    refine sskip rfl rfl ?_
    refine sskip rfl rfl ?_
    refine sqS (q_pick rfl (fun h => nomatch h) (fun _ => rfl)) rfl ?_
    refine sAs rfl rfl ?_
    refine send ?_
    refine eseq ?_
    refine HT.no rfl ?_
    refine HT.seq ?_
    refine HT.plain ?_
    refine sMv rfl rfl ?_
    refine sqS (q_index (i := 0) (j := 0) rfl rfl Tryz.underlying22 nagg_5 (fun _ h => h) rfl (by omega)) rfl ?_
    refine sqS (q_byte (i := 0) (j := 0) rfl nagg_5 (fun _ h => h) rfl (by omega)) rfl ?_
    refine sqS (q_F (q_eq (p := nb bs 0) (q := 34) rfl rfl) (by have := nb_lt bs 0; omega)) rfl ?_
    refine sAs rfl rfl ?_
    refine send ?_
    refine eseq ?_
    refine HT.no rfl ?_
    refine HT.skip ?_
    refine ein ?_
    refine eseq ?_
    refine HT.seq ?_
    refine HT.plain ?_
    refine sqS (q_loadAgg (b := b5) (off := 0) (j := 1) (vs := [(.slice (some ⟨b22, 0, none⟩) 9 9), (.slice (some ⟨b24, 0, none⟩) 1 1), (.slice none 0 0), (.slice none 0 0)]) rfl aggs_29 (fun _ h => h) rfl rfl rfl) rfl ?_
    refine sl_ (l_storeAgg (b := b2) (off := 0) (j := 0) (vs := [(.slice (some ⟨b22, 0, none⟩) 9 9), (.slice (some ⟨b24, 0, none⟩) 1 1), (.slice none 0 0), (.slice none 0 0)]) rfl rfl aggs_29 (by simp [Value.one1]) rfl rfl rfl (Nat.le_of_ble_eq_true rfl) ?_)
    refine sAs rfl rfl ?_
    refine sAs rfl rfl ?_
    refine send ?_
    refine eseq ?_
    refine HT.ret ?_
    exact fun a ha w' hw => fin_ ha (resc3 ha Tryz.results44 rfl (ld_ aggs_29 hw (j := 0) rfl rfl (vs := [(.slice (some ⟨b22, 0, none⟩) 9 9), (.slice (some ⟨b24, 0, none⟩) 1 1), (.slice none 0 0), (.slice none 0 0)]) rfl) rfl rfl) ⟨b22, b24, rfl, (hw.wk [(2, []), (3, [])] rfl), fr0⟩

theorem igmp3_S6 (w : World) (A : Option Addr) (n : Nat) (c : Nat) (bs : List UInt8) (hn : n ≤ 2147483647) (ha : 8 ≤ n) (hb : nb bs 0 ≠ 17) (hc : nb bs 0 ≠ 34) (hst : St w [] [] [Byt A n c bs] w) : Calls Tryz.prog 26 #[(.string ⟨#[105, 103, 109, 112, 51]⟩), (.slice A n c)] w (SP w (Byt A n c bs) none) := by
  have hnc00 : n ≤ c := (hst.fact (j := 0) rfl).2.1
  refine enter (vs := [(.string ⟨#[105, 103, 109, 112, 51]⟩), (.slice A n c)]) Tryz.func26 rfl rfl rfl hst ?_
  refine HT.seq ?_
  refine HT.plain ?_
  refine sl_ (l_alloc (by decide) zero_29 fun b4 => ?_)
  refine sAs rfl rfl ?_
  refine sAs rfl rfl ?_
  refine send ?_
  refine eseq ?_
  refine HT.seq ?_
  refine HT.plain ?_
  refine sl_ (l_makeMap (by decide) fun b13 => ?_)
  refine sl_ (l_insert (es := es0) (ck := 0) rfl rfl rfl Tryz.underlying36 Tryz.underlying9 fi0 ?_)
  refine sl_ (l_insert (es := es1) (ck := 1) rfl rfl rfl Tryz.underlying36 Tryz.underlying9 fi1 ?_)
  refine sl_ (l_insert (es := es2) (ck := 2) rfl rfl rfl Tryz.underlying36 Tryz.underlying9 fi2 ?_)
  refine sl_ (l_insert (es := es3) (ck := 3) rfl rfl rfl Tryz.underlying36 Tryz.underlying9 fi3 ?_)
  refine sl_ (l_insert (es := es4) (ck := 4) rfl rfl rfl Tryz.underlying36 Tryz.underlying9 fi4 ?_)
  refine sl_ (l_insert (es := es5) (ck := 5) rfl rfl rfl Tryz.underlying36 Tryz.underlying9 fi5 ?_)
  refine sl_ (l_insert (es := es6) (ck := 6) rfl rfl rfl Tryz.underlying36 Tryz.underlying9 fi6 ?_)
  refine sl_ (l_insert (es := es7) (ck := 7) rfl rfl rfl Tryz.underlying36 Tryz.underlying9 fi7 ?_)
  refine sl_ (l_insert (es := es8) (ck := 8) rfl rfl rfl Tryz.underlying36 Tryz.underlying9 fi8 ?_)
  refine sl_ (l_insert (es := es9) (ck := 9) rfl rfl rfl Tryz.underlying36 Tryz.underlying9 fi9 ?_)
  refine sl_ (l_insert (es := es10) (ck := 10) rfl rfl rfl Tryz.underlying36 Tryz.underlying9 fi10 ?_)
  refine sl_ (l_insert (es := es11) (ck := 11) rfl rfl rfl Tryz.underlying36 Tryz.underlying9 fi11 ?_)
  refine sl_ (l_insert (es := es12) (ck := 12) rfl rfl rfl Tryz.underlying36 Tryz.underlying9 fi12 ?_)
  refine sl_ (l_insert (es := es13) (ck := 13) rfl rfl rfl Tryz.underlying36 Tryz.underlying9 fi13 ?_)
  refine sl_ (l_insert (es := es14) (ck := 14) rfl rfl rfl Tryz.underlying36 Tryz.underlying9 fi14 ?_)
  refine sl_ (l_insert (es := es15) (ck := 15) rfl rfl rfl Tryz.underlying36 Tryz.underlying9 fi15 ?_)
  refine sl_ (l_insert (es := es16) (ck := 16) rfl rfl rfl Tryz.underlying36 Tryz.underlying9 fi16 ?_)
  refine sl_ (l_insert (es := es17) (ck := 17) rfl rfl rfl Tryz.underlying36 Tryz.underlying9 fi17 ?_)
  refine sl_ (l_insert (es := es18) (ck := 18) rfl rfl rfl Tryz.underlying36 Tryz.underlying9 fi18 ?_)
  refine sl_ (l_insert (es := es19) (ck := 19) rfl rfl rfl Tryz.underlying36 Tryz.underlying9 fi19 ?_)
  refine sl_ (l_insert (es := es20) (ck := 20) rfl rfl rfl Tryz.underlying36 Tryz.underlying9 fi20 ?_)
  refine sq (SM.closed) (q_move rfl) rfl ?_
  refine sq (SM.closed) (q_move rfl) rfl ?_
  refine sq (SM.closed) (q_lookup0 (es := es21) (v := (.int .i64 ((0 : Nat) : Int))) (fun _ h => h) rfl rfl Tryz.underlying36 Tryz.underlying9 zero_3 (by kernel_rfl)) rfl ?_
  refine sq (SM.closed) (q_assign rfl) rfl ?_
  refine send ?_
  refine eseq ?_
  refine HT.unmap ?_
  refine HT.seq ?_
  refine HT.seq ?_
  refine HT.plain ?_
  refine sMv rfl rfl ?_
  refine sqS (q_len (len := n) rfl Tryz.underlying22) rfl ?_
  refine sMv rfl rfl ?_
  refine sqS (q_F (q_lt (p := n) (q := 0) rfl rfl) (by omega)) rfl ?_
  refine send ?_
  refine eseq ?_
  refine HT.no rfl ?_
  refine HT.skip ?_
  refine eseq ?_
  refine HT.seq ?_
  refine HT.seq ?_
  refine HT.plain ?_
  refine sMv rfl rfl ?_
  refine send ?_
  refine eseq ?_
  refine HT.block ?_
  refine HT.seq ?_
  refine HT.plain ?_
  refine sqS (q_eqs rfl rfl (r := false) (by kernel_rfl)) rfl ?_
  refine sAs rfl rfl ?_
  refine send ?_
  refine eseq ?_
  refine HT.no rfl ?_
  refine HT.seq ?_
  refine HT.plain ?_
  refine sqS (q_eqs rfl rfl (r := false) (by kernel_rfl)) rfl ?_
  refine sAs rfl rfl ?_
  refine send ?_
  refine eseq ?_
  refine HT.no rfl ?_
  refine HT.seq ?_
  refine HT.plain ?_
  refine sqS (q_eqs rfl rfl (r := false) (by kernel_rfl)) rfl ?_
  refine sAs rfl rfl ?_
  refine send ?_
  refine eseq ?_
  refine HT.no rfl ?_
  refine HT.seq ?_
  refine HT.plain ?_
  refine sqS (q_eqs rfl rfl (r := false) (by kernel_rfl)) rfl ?_
  refine sAs rfl rfl ?_
  refine send ?_
  refine eseq ?_
  refine HT.no rfl ?_
  refine HT.seq ?_
  refine HT.plain ?_
  refine sqS (q_eqs rfl rfl (r := false) (by kernel_rfl)) rfl ?_
  refine sAs rfl rfl ?_
  refine send ?_
  refine eseq ?_
  refine HT.no rfl ?_
  refine HT.seq ?_
  refine HT.plain ?_
  refine sqS (q_eqs rfl rfl (r := false) (by kernel_rfl)) rfl ?_
  refine sAs rfl rfl ?_
  refine send ?_
  refine eseq ?_
  refine HT.no rfl ?_
  refine HT.seq ?_
  refine HT.plain ?_
  refine sqS (q_eqs rfl rfl (r := false) (by kernel_rfl)) rfl ?_
  refine sAs rfl rfl ?_
  refine send ?_
  refine eseq ?_
  refine HT.no rfl ?_
  refine HT.seq ?_
  refine HT.plain ?_
  refine sqS (q_eqs rfl rfl (r := false) (by kernel_rfl)) rfl ?_
  refine sAs rfl rfl ?_
  refine send ?_
  refine eseq ?_
  refine HT.no rfl ?_
  refine HT.seq ?_
  refine HT.plain ?_
  refine sqS (q_eqs rfl rfl (r := false) (by kernel_rfl)) rfl ?_
  refine sAs rfl rfl ?_
  refine send ?_
  refine eseq ?_
  refine HT.no rfl ?_
  refine HT.seq ?_
  refine HT.plain ?_
  refine sqS (q_eqs rfl rfl (r := false) (by kernel_rfl)) rfl ?_
  refine sAs rfl rfl ?_
  refine send ?_
  refine eseq ?_
  refine HT.no rfl ?_
  refine HT.seq ?_
  refine HT.plain ?_
  refine sqS (q_eqs rfl rfl (r := false) (by kernel_rfl)) rfl ?_
  refine sAs rfl rfl ?_
  refine send ?_
  refine eseq ?_
  refine HT.no rfl ?_
  refine HT.seq ?_
  refine HT.plain ?_
  refine sqS (q_eqs rfl rfl (r := false) (by kernel_rfl)) rfl ?_
  refine sAs rfl rfl ?_
  refine send ?_
  refine eseq ?_
  refine HT.no rfl ?_
  refine HT.seq ?_
  refine HT.plain ?_
  refine sqS (q_eqs rfl rfl (r := false) (by kernel_rfl)) rfl ?_
  refine sAs rfl rfl ?_
  refine send ?_
  refine eseq ?_
  refine HT.no rfl ?_
  refine HT.seq ?_
  refine HT.plain ?_
  refine sqS (q_eqs rfl rfl (r := false) (by kernel_rfl)) rfl ?_
  refine sAs rfl rfl ?_
  refine send ?_
  refine eseq ?_
  refine HT.no rfl ?_
  refine HT.seq ?_
  refine HT.plain ?_
  refine sqS (q_eqs rfl rfl (r := false) (by kernel_rfl)) rfl ?_
  refine sAs rfl rfl ?_
  refine send ?_
  refine eseq ?_
  refine HT.no rfl ?_
  refine HT.seq ?_
  refine HT.plain ?_
  refine sqS (q_eqs rfl rfl (r := false) (by kernel_rfl)) rfl ?_
  refine sAs rfl rfl ?_
  refine send ?_
  refine eseq ?_
  refine HT.no rfl ?_
  refine HT.seq ?_
  refine HT.plain ?_
  refine sqS (q_eqs rfl rfl (r := false) (by kernel_rfl)) rfl ?_
  refine sAs rfl rfl ?_
  refine send ?_
  refine eseq ?_
  refine HT.no rfl ?_
  refine HT.seq ?_
  refine HT.plain ?_
  refine sqS (q_eqs rfl rfl (r := false) (by kernel_rfl)) rfl ?_
  refine sAs rfl rfl ?_
  refine send ?_
  refine eseq ?_
  refine HT.no rfl ?_
  refine HT.seq ?_
  refine HT.plain ?_
  refine sqS (q_eqs rfl rfl (r := false) (by kernel_rfl)) rfl ?_
  refine sAs rfl rfl ?_
  refine send ?_
  refine eseq ?_
  refine HT.no rfl ?_
  refine HT.seq ?_
  refine HT.plain ?_
  refine sqS (q_eqs rfl rfl (r := true) (by kernel_rfl)) rfl ?_
  refine sAs rfl rfl ?_
  refine send ?_
  refine eseq ?_
  refine HT.yes rfl ?_
  refine HT.seq ?_
  refine HT.plain ?_
  refine sMv rfl rfl ?_
  refine sl_ (l_callX2 (vs := [(.slice A n c)]) (Kc := []) (Bc := [Byt A n c bs]) [] [0] [Byt A n c bs] (fun b22 b24 => [⟨b4, 29, [some (.slice none 0 0), some (.slice none 0 0), some (.slice none 0 0), some (.slice none 0 0)], true⟩, ⟨b22, 39, [some (.int .u64 ((nb bs 0 : Nat) : Int)), some (.int .u64 ((0 : Nat) : Int)), some (.int .u64 ((bN bs 2 2 : Nat) : Int)), some (.int .u64 ((0 : Nat) : Int)), some (.int .u64 ((0 : Nat) : Int)), some (.int .u64 ((0 : Nat) : Int)), some (.int .u64 ((0 : Nat) : Int)), some (.int .u64 ((0 : Nat) : Int)), some (.int .u64 ((3 : Nat) : Int))], true⟩, ⟨b24, 22, [some (.slice none 0 0)], true⟩]) (fun b22 b24 => [Byt A n c bs]) (by decide) rfl ca_44 (fun _ h => h) rfl rfl rfl rfl (fun w h => igmp3_s6 w A n c bs (by omega) (by omega) (by omega) (by omega) h) (fun _ _ => rfl) (fun _ _ => rfl) (fun _ _ => rfl) (fun _ _ => rfl) fun b22 b24 hf1 he2 => ?_)
  refine sqS (q_extract (vs := [(.agg #[(.slice (some ⟨b22, 0, none⟩) 9 9), (.slice (some ⟨b24, 0, none⟩) 1 1), (.slice none 0 0), (.slice none 0 0)]), (.bool true), (.bool false)]) (i := 0) rfl rfl) rfl ?_
  refine sqS (q_extract (vs := [(.agg #[(.slice (some ⟨b22, 0, none⟩) 9 9), (.slice (some ⟨b24, 0, none⟩) 1 1), (.slice none 0 0), (.slice none 0 0)]), (.bool true), (.bool false)]) (i := 1) rfl rfl) rfl ?_
  refine sqS (q_extract (vs := [(.agg #[(.slice (some ⟨b22, 0, none⟩) 9 9), (.slice (some ⟨b24, 0, none⟩) 1 1), (.slice none 0 0), (.slice none 0 0)]), (.bool true), (.bool false)]) (i := 2) rfl rfl) rfl ?_
  refine sl_ (l_storeAgg (b := b4) (off := 0) (j := 0) (vs := [(.slice (some ⟨b22, 0, none⟩) 9 9), (.slice (some ⟨b24, 0, none⟩) 1 1), (.slice none 0 0), (.slice none 0 0)]) rfl rfl aggs_29 (by simp [Value.one1]) rfl rfl rfl (Nat.le_of_ble_eq_true rfl) ?_)
  refine sAs rfl rfl ?_
  refine sAs rfl rfl ?_
  refine send ?_
  refine eseq ?_
  refine HT.ret ?_
  refine rt_in ?_
  refine rt_then ?_
  exact fun a ha w' hw => fin_ ha (resc3 ha Tryz.results26 rfl (ld_ aggs_29 hw (j := 0) rfl rfl (vs := [(.slice (some ⟨b22, 0, none⟩) 9 9), (.slice (some ⟨b24, 0, none⟩) 1 1), (.slice none 0 0), (.slice none 0 0)]) rfl) rfl rfl) ⟨⟨(some ⟨b22, 0, none⟩), 9, 9, []⟩, ⟨(some ⟨b24, 0, none⟩), 1, 1, []⟩, ⟨none, 0, 0, []⟩, ⟨none, 0, 0, []⟩, true, rfl, hw.pres⟩
end Go.Proofs.YtfkaafbeeegenaaGreat.Zed
