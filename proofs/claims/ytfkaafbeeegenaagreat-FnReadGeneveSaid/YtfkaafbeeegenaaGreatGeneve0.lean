/- geneve: the reference -/
import Derived.Test.YtfkaafbeeegenaaGreatRead
import Derived.Test.YtfkaafbeeegenaaGreatGen
import Derived.KernelRfl
namespace Go.Proofs.YtfkaafbeeegenaaGreat.Zed
set_option linter.unusedVariables false
set_option linter.unusedSimpArgs false
set_option maxRecDepth 100000
set_option maxHeartbeats 4000000
theorem ca_91 : callable Tryz.prog 91 = true := by kernel_rfl
theorem fo_120_0 : foff Tryz.prog 120 0 = some 0 := by kernel_rfl
theorem nagg_70 : nagg Tryz.prog 70 = true := by kernel_rfl
theorem fo_120_1 : foff Tryz.prog 120 1 = some 1 := by kernel_rfl
theorem fo_120_2 : foff Tryz.prog 120 2 = some 2 := by kernel_rfl
theorem fo_120_3 : foff Tryz.prog 120 3 = some 3 := by kernel_rfl
theorem fo_120_4 : foff Tryz.prog 120 4 = some 4 := by kernel_rfl
theorem me_199_SetTruncated : ∀ (b : Nat) (w : World), (method (Tryz.prog.types.size + Made.depth) 199 (.pointer (some ⟨b, 0, none⟩)) "SetTruncated").run Tryz.prog w = .ok (167, .pointer (some ⟨b, 0, none⟩)) w := fun b w => by kernel_rfl
theorem ca_167 : callable Tryz.prog 167 = true := by kernel_rfl
theorem ca_39 : callable Tryz.prog 39 = true := by kernel_rfl
theorem ca_54 : callable Tryz.prog 54 = true := by kernel_rfl
theorem rowT_49 : rowT Tryz.prog 49 2 := ⟨_, _, rfl, rfl, rfl, rfl, by decide⟩
theorem ca_64 : callable Tryz.prog 64 = true := by kernel_rfl
theorem fo_117_1 : foff Tryz.prog 117 1 = some 2 := by kernel_rfl
theorem fo_117_2 : foff Tryz.prog 117 2 = some 3 := by kernel_rfl
theorem fo_117_3 : foff Tryz.prog 117 3 = some 4 := by kernel_rfl
theorem fo_117_4 : foff Tryz.prog 117 4 = some 5 := by kernel_rfl
theorem fo_117_5 : foff Tryz.prog 117 5 = some 6 := by kernel_rfl
theorem nagg_82 : nagg Tryz.prog 82 = true := by kernel_rfl
theorem zero_242 : (Tryz.prog.info? 242).bind (·.zero) = some (.agg #[(.int .u8 ((0 : Nat) : Int)), (.int .u8 ((0 : Nat) : Int)), (.int .u8 ((0 : Nat) : Int)), (.int .u8 ((0 : Nat) : Int))]) := by kernel_rfl
theorem fo_117_6 : foff Tryz.prog 117 6 = some 7 := by kernel_rfl
theorem me_114_DecodeFromBytes : ∀ (b : Nat) (w : World), (method (Tryz.prog.types.size + Made.depth) 114 (.pointer (some ⟨b, 0, none⟩)) "DecodeFromBytes").run Tryz.prog w = .ok (144, .pointer (some ⟨b, 0, none⟩)) w := fun b w => by kernel_rfl
theorem ca_144 : callable Tryz.prog 144 = true := by kernel_rfl
theorem ca_96 : callable Tryz.prog 96 = true := by kernel_rfl
theorem ca_79 : callable Tryz.prog 79 = true := by kernel_rfl
theorem ca_146 : callable Tryz.prog 146 = true := by kernel_rfl
theorem fo_117_7 : foff Tryz.prog 117 7 = some 8 := by kernel_rfl
theorem nagg_115 : nagg Tryz.prog 115 = true := by kernel_rfl
theorem rowT_118 : rowT Tryz.prog 118 1 := ⟨_, _, rfl, rfl, rfl, rfl, by decide⟩
theorem fo_117_0 : foff Tryz.prog 117 0 = some 0 := by kernel_rfl
theorem aggs_68 : aggs Tryz.prog 68 = some 2 := by kernel_rfl
theorem zero_110 : (Tryz.prog.info? 110).bind (·.zero) = some (.pointer none) := by kernel_rfl
theorem size_118 : (Tryz.prog.info? 118).map (·.size) = some 1 := by kernel_rfl
theorem nagg_118 : nagg Tryz.prog 118 = true := by kernel_rfl
theorem me_114_LayerPayload : ∀ (b : Nat) (w : World), (method (Tryz.prog.types.size + Made.depth) 114 (.pointer (some ⟨b, 0, none⟩)) "LayerPayload").run Tryz.prog w = .ok (120, .pointer (some ⟨b, 0, none⟩)) w := fun b w => by kernel_rfl

theorem U32buf {w0 : World} {M : List Nat} {K : List Kb} {B : List Fact} {w : World} (h : St w0 M K B w) (bs : List UInt8) (b ty : Nat) {j : Nat} (hk : K[j]? = some ⟨b, ty, [some (.int .u8 ((0 : Nat) : Int))] ++ cb (sl bs 4 7) ++ [], true⟩) (hl : 7 ≤ bs.length) :
    Calls Tryz.prog 97 #[(.agg #[]), (.slice (some ⟨b, 0, none⟩) 4 4)] w (fun e w' => e = .returned (.int .u32 ((bN bs 4 3 : Nat) : Int)) ∧ Pres [] w w') := by
  have hln : 4 = (0 :: sl bs 4 7).length := by simp [sl_length hl]
  have h1 := U32Raw w (some ⟨b, 0, none⟩) 4 4 (0 :: sl bs 4 7) (by decide) (St.start1 (M := []) ((h.kb hk).bytr (bs := 0 :: sl bs 4 7) (r := []) rfl hln (Nat.le_refl 4)))
  have e1 := bN_sl (r := bs) (lo := 4) (hi := 7) 0 3 (by omega)
  have e : bN (0 :: sl bs 4 7) 0 4 = bN bs 4 3 := by
    rw [← e1]
    simp [bN, nb]
  rw [e] at h1
  exact h1

abbrev gvoS_k0 (b17 : Nat) (bs : List UInt8) (p : Nat) (g64 : Nat) : Kb := ⟨b17, 120, [some (.int .u16 ((bN bs p 2 : Nat) : Int)), some (.int .u8 ((nb bs (p + 2) : Nat) : Int)), some (.int .u8 (((nb bs (p + 3)) / 16 : Nat) : Int)), some (.int .u8 (((((nb bs (p + 3)) % 16) * 4) + 4 : Nat) : Int)), some (.slice (some ⟨g64, 0, none⟩) (((((nb bs (p + 3)) % 16) * 4) + 4) - 4) (((((nb bs (p + 3)) % 16) * 4) + 4) - 4))], true⟩

theorem gvoS (w : World) (A : Option Addr) (n : Nat) (c : Nat) (bs : List UInt8) (p : Nat) (e : Nat) (gp : Nat) (kb : Nat) (hn : n ≤ 401) (he : n + p = e) (h4 : 4 ≤ n) (hL : (nb bs (p + 3) % 16) * 4 + 4 ≤ n) (hst : St w [] [] [Byt A n c (sl bs p e)] w) : Calls Tryz.prog 146 #[(.slice A n c), (.pointer (some ⟨gp, 0, none⟩)), (.iface 199 (.pointer (some ⟨kb, 0, none⟩)))] w (CP2 w [] [Byt A n c (sl bs p e)] (fun bo gd => (.tuple #[(.pointer (some ⟨bo, 0, none⟩)), (.int .u8 (((((nb bs (p + 3)) % 16) * 4) + 4 : Nat) : Int)), .nilIface])) (fun bo gd => [⟨bo, 120, [some (.int .u16 ((bN bs p 2 : Nat) : Int)), some (.int .u8 ((nb bs (p + 2) : Nat) : Int)), some (.int .u8 (((nb bs (p + 3)) / 16 : Nat) : Int)), some (.int .u8 (((((nb bs (p + 3)) % 16) * 4) + 4 : Nat) : Int)), some (.slice (some ⟨gd, 0, none⟩) ((nb bs (p + 3) % 16) * 4 + 4 - 4) ((nb bs (p + 3) % 16) * 4 + 4 - 4))], true⟩]) (fun bo gd => [Byt (some ⟨gd, 0, none⟩) ((nb bs (p + 3) % 16) * 4 + 4 - 4) ((nb bs (p + 3) % 16) * 4 + 4 - 4) (sl bs (p + 4) (p + ((nb bs (p + 3) % 16) * 4 + 4)))])) := by
  have hnc00 : n ≤ c := (hst.fact (j := 0) rfl).2.1
  have hbl : n = (sl bs p e).length := (hst.fact (j := 0) rfl).1
  have h256 := nb_lt bs (p + 3)
  refine enter (vs := [(.slice A n c), (.pointer (some ⟨gp, 0, none⟩)), (.iface 199 (.pointer (some ⟨kb, 0, none⟩)))]) Tryz.func146 rfl rfl rfl hst ?_
  refine HT.seq ?_
  refine HT.plain ?_
  refine sAs rfl rfl ?_
  refine sAs rfl rfl ?_
  refine sAs rfl rfl ?_
  refine send ?_
  refine eseq ?_
  refine HT.seq ?_
  refine HT.seq ?_
  refine HT.plain ?_
  refine sMv rfl rfl ?_
  refine sqS (q_len (len := n) rfl Tryz.underlying22) rfl ?_
  refine sqS (q_F (q_lt (p := n) (q := 3) rfl rfl) (by omega)) rfl ?_
  refine send ?_
  refine eseq ?_
  refine HT.no rfl ?_
  refine HT.skip ?_
  refine eseq ?_
  refine HT.seq ?_
  refine HT.plain ?_
  refine sqS (q_build (vs := []) (v := (.agg #[(.int .u16 ((0 : Nat) : Int)), (.int .u8 ((0 : Nat) : Int)), (.int .u8 ((0 : Nat) : Int)), (.int .u8 ((0 : Nat) : Int)), (.slice none 0 0)])) rfl (fun _ => by kernel_rfl)) rfl ?_
  refine sl_ (l_box (by decide) rfl fun b17 => ?_)
  refine sAs rfl rfl ?_
  refine send ?_
  refine eseq ?_
  refine HT.seq ?_
  refine HT.drawn mixed (St.closed _ _ _ _) (St w [] [⟨b17, 120, [none, some (.int .u8 ((0 : Nat) : Int)), some (.int .u8 ((0 : Nat) : Int)), some (.int .u8 ((0 : Nat) : Int)), some (.slice none 0 0)], true⟩] [Byt A n c (sl bs p e)]) ?_
  refine dtake (f := 1) [0, 1, 2, 3, 4, 5, 6] (by kernel_rfl) (St.closed _ _ _ _) (fun _ h => (h.wk [(0, [0])] rfl)) (by kernel_rfl) ?_
  refine dq rfl (q_move rfl) ?_
  refine dq rfl (q_loadEmpty rfl aggs_210) ?_
  refine dq rfl (q_move rfl) ?_
  refine dq rfl (q_slice (lo := 0) (hi := 2) rfl Tryz.underlying22 nagg_5 (.inr ⟨_, _, rfl, rfl⟩) (.inr ⟨_, _, rfl, rfl⟩) (by omega) (by omega)) ?_
  refine dq rfl (q_N (q_call (vs := [(.agg #[]), (.slice (cutA A c 0) (2 - 0) (c - 0))]) (v := (.int .u16 ((bN (sl bs p e) 0 2 : Nat) : Int))) rfl ca_91 (fun w h => U16 w A n c (sl bs p e) (lo := 0) (hi := 2) (h.fact (j := 0) rfl) (by omega) (by omega))) (a := bN (sl bs p e) 0 2) (b := bN bs p 2) (bN_sl 0 2 (by omega))) ?_
  refine dq rfl (q_nil rfl) ?_
  refine dq rfl (q_field (b := b17) (off := 0) rfl fo_120_0) ?_
  refine QL.nil ?_
  refine RG.step1 7 (by kernel_rfl) ?_
  refine dop rfl (l_store (b := b17) (off := 0) (j := 0) rfl rfl nagg_70 rfl rfl rfl rfl (dlt rfl) ⟨(fun _ h => (h.wk [(0, [0])] rfl)), ?_⟩)
  refine dend (by kernel_rfl) ?_
  refine eseq ?_
  refine HT.seq ?_
  refine HT.plain ?_
  refine sMv rfl rfl ?_
  refine sMv rfl rfl ?_
  refine sqS (q_index (i := 2) (j := 0) rfl rfl Tryz.underlying22 nagg_5 (fun _ h => h) rfl (by omega)) rfl ?_
  refine sqS (q_N (q_byte (i := 2) (j := 0) rfl nagg_5 (fun _ h => h) rfl (by omega)) (a := nb (sl bs p e) 2) (b := nb bs (p + 2)) (nb_sl (by omega))) rfl ?_
  refine sqS (q_nil rfl) rfl ?_
  refine sqS (q_field (b := b17) (off := 0) rfl fo_120_1) rfl ?_
  refine sl_ (l_store (b := b17) (off := 1) (j := 0) rfl rfl nagg_5 rfl rfl rfl rfl (dlt rfl) ?_)
  refine send ?_
  refine eseq ?_
  refine HT.seq ?_
  refine HT.plain ?_
  refine sMv rfl rfl ?_
  refine sMv rfl rfl ?_
  refine sqS (q_index (i := 3) (j := 0) rfl rfl Tryz.underlying22 nagg_5 (fun _ h => h) rfl (by omega)) rfl ?_
  refine sqS (q_N (q_byte (i := 3) (j := 0) rfl nagg_5 (fun _ h => h) rfl (by omega)) (a := nb (sl bs p e) 3) (b := nb bs (p + 3)) (nb_sl (by omega))) rfl ?_
  refine sqS (q_shr (p := nb bs (p + 3)) (e := 4) (N := 16) rfl rfl (by decide) rfl) rfl ?_
  refine sqS (q_nil rfl) rfl ?_
  refine sqS (q_field (b := b17) (off := 0) rfl fo_120_2) rfl ?_
  refine sl_ (l_store (b := b17) (off := 2) (j := 0) rfl rfl nagg_5 rfl rfl rfl rfl (dlt rfl) ?_)
  refine send ?_
  refine eseq ?_
  refine HT.seq ?_
  refine HT.plain ?_
  refine sMv rfl rfl ?_
  refine sMv rfl rfl ?_
  refine sqS (q_index (i := 3) (j := 0) rfl rfl Tryz.underlying22 nagg_5 (fun _ h => h) rfl (by omega)) rfl ?_
  refine sqS (q_N (q_byte (i := 3) (j := 0) rfl nagg_5 (fun _ h => h) rfl (by omega)) (a := nb (sl bs p e) 3) (b := nb bs (p + 3)) (nb_sl (by omega))) rfl ?_
  refine sqS (q_N (q_and (p := nb bs (p + 3)) (q := 15) rfl rfl rfl (show nb bs (p + 3) < 256 by have := nb_lt bs (p + 3); omega) (by decide)) (a := (nb bs (p + 3)) &&& 15) (b := (nb bs (p + 3)) % 16) (zm15 _)) rfl ?_
  refine sqS (q_mul (p := (nb bs (p + 3)) % 16) (q := 4) rfl rfl (show ((nb bs (p + 3)) % 16) * 4 < 256 by have := nb_lt bs (p + 3); omega)) rfl ?_
  refine sqS (q_add (p := ((nb bs (p + 3)) % 16) * 4) (q := 4) rfl rfl (show (((nb bs (p + 3)) % 16) * 4) + 4 < 256 by have := nb_lt bs (p + 3); omega)) rfl ?_
  refine sqS (q_nil rfl) rfl ?_
  refine sqS (q_field (b := b17) (off := 0) rfl fo_120_3) rfl ?_
  refine sl_ (l_store (b := b17) (off := 3) (j := 0) rfl rfl nagg_5 rfl rfl rfl rfl (dlt rfl) ?_)
  refine send ?_
  refine eseq ?_
  refine HT.seq ?_
  refine HT.seq ?_
  refine HT.plain ?_
  refine sMv rfl rfl ?_
  refine sqS (q_len (len := n) rfl Tryz.underlying22) rfl ?_
  refine sMv rfl rfl ?_
  refine sqS (q_nil rfl) rfl ?_
  refine sqS (q_field (b := b17) (off := 0) rfl fo_120_3) rfl ?_
  refine sqS (q_load (b := b17) (off := 3) (j := 0) rfl nagg_5 (fun _ h => h) rfl rfl rfl) rfl ?_
  refine sqS (q_convn (p := (((nb bs (p + 3)) % 16) * 4) + 4) rfl Tryz.underlying5 Tryz.underlying3 (show (((nb bs (p + 3)) % 16) * 4) + 4 < 9223372036854775808 by have := nb_lt bs (p + 3); omega)) rfl ?_
  refine sqS (q_F (q_lt (p := n) (q := (((nb bs (p + 3)) % 16) * 4) + 4) rfl rfl) (by have := nb_lt bs (p + 3); omega)) rfl ?_
  refine send ?_
  refine eseq ?_
  refine HT.no rfl ?_
  refine HT.skip ?_
  refine eseq ?_
  refine HT.seq ?_
  refine HT.plain ?_
  refine sMv rfl rfl ?_
  refine sMv rfl rfl ?_
  refine sqS (q_nil rfl) rfl ?_
  refine sqS (q_field (b := b17) (off := 0) rfl fo_120_3) rfl ?_
  refine sqS (q_load (b := b17) (off := 3) (j := 0) rfl nagg_5 (fun _ h => h) rfl rfl rfl) rfl ?_
  refine sqS (q_sub (p := (((nb bs (p + 3)) % 16) * 4) + 4) (q := 4) rfl rfl (by have := nb_lt bs (p + 3); omega) (show (((nb bs (p + 3)) % 16) * 4) + 4 < 256 by have := nb_lt bs (p + 3); omega)) rfl ?_
  refine sl_ (l_makeB (k := ((((nb bs (p + 3)) % 16) * 4) + 4) - 4) (by decide) rfl rfl Tryz.underlying22 byteT_5 (by have := nb_lt bs (p + 3); omega) fun g64 => ?_)
  refine sqS (q_nil rfl) rfl ?_
  refine sqS (q_field (b := b17) (off := 0) rfl fo_120_4) rfl ?_
  refine sl_ (l_store (b := b17) (off := 4) (j := 0) rfl rfl nagg_22 rfl rfl rfl rfl (dlt rfl) ?_)
  refine send ?_
  refine eseq ?_
  refine HT.seq ?_
  refine HT.drawn mixed (St.closed _ _ _ _) (St w [] [(gvoS_k0 b17 bs p g64)] [Byt A n c (sl bs p e)]) ?_
  refine dtake (f := 1) [0, 1, 2, 3, 4, 5, 6, 7, 8, 9] (by kernel_rfl) (St.closed _ _ _ _) (fun _ h => (h.wk [(0, [])] rfl)) (by kernel_rfl) ?_
  refine dq rfl (q_move rfl) ?_
  refine dq rfl (q_nil rfl) ?_
  refine dq rfl (q_field (b := b17) (off := 0) rfl fo_120_4) ?_
  refine dq rfl (q_load (b := b17) (off := 4) (j := 0) rfl nagg_22 (fun _ h => h) rfl rfl rfl) ?_
  refine dq rfl (q_move rfl) ?_
  refine dq rfl (q_move rfl) ?_
  refine dq rfl (q_nil rfl) ?_
  refine dq rfl (q_field (b := b17) (off := 0) rfl fo_120_3) ?_
  refine dq rfl (q_load (b := b17) (off := 3) (j := 0) rfl nagg_5 (fun _ h => h) rfl rfl rfl) ?_
  refine dq rfl (q_slice (lo := 4) (hi := (((nb bs (p + 3)) % 16) * 4) + 4) rfl Tryz.underlying22 nagg_5 (.inr ⟨_, _, rfl, rfl⟩) (.inr ⟨_, _, rfl, rfl⟩) (by have := nb_lt bs (p + 3); omega) (by have := nb_lt bs (p + 3); omega)) ?_
  refine QL.nil ?_
  refine RG.step1 10 (by kernel_rfl) ?_
  refine dop rfl (l_copyB (j := 1) (q := 1) (sn := ((((nb bs (p + 3)) % 16) * 4) + 4) - 4) (off := 0) (K' := [(gvoS_k0 b17 bs p g64), ⟨g64, 5, cb (sl (sl bs p e) 4 ((((nb bs (p + 3)) % 16) * 4) + 4)) ++ [], true⟩]) [] (cb (List.replicate (((((nb bs (p + 3)) % 16) * 4) + 4) - 4) 0)) [] rfl rfl Tryz.underlying22 byteT_5 rfl rfl rfl rfl (by rw [cb_length, List.length_replicate]) (Bx := [Byt A n c (sl bs p e), Byt (cutA A c 4) (((((nb bs (p + 3)) % 16) * 4) + 4) - 4) (c - 4) (sl (sl bs p e) 4 ((((nb bs (p + 3)) % 16) * 4) + 4))]) (fun _ h => h.cut (j := 0) (lo := 4) (hi := (((nb bs (p + 3)) % 16) * 4) + 4) rfl (by have := nb_lt bs (p + 3); omega) (by have := nb_lt bs (p + 3); omega)) rfl rfl (ht := by simp) ⟨(fun _ h => (h.wk [(0, [])] rfl)), ?_⟩)
  refine dend (by kernel_rfl) ?_
  refine eseq ?_
  refine HT.seq ?_
  refine HT.drawnS mixed (St.closed _ _ _ _) ?_
  refine dtake (f := 0) [0, 1, 2, 3, 4, 5, 6, 7] (by kernel_rfl) (St.closed _ _ _ _) (fun _ h => h) (by kernel_rfl) ?_
  refine dq rfl (q_move rfl) ?_
  refine dq rfl (q_move rfl) ?_
  refine dq rfl (q_nil rfl) ?_
  refine dq rfl (q_field (b := b17) (off := 0) rfl fo_120_3) ?_
  refine dq rfl (q_load (b := b17) (off := 3) (j := 0) rfl nagg_5 (fun _ h => h) rfl rfl rfl) ?_
  refine dq rfl (q_assign rfl) ?_
  refine dq rfl (q_assign rfl) ?_
  refine dq rfl (q_assign rfl) ?_
  refine QL.nil ?_
  refine dend (by kernel_rfl) ?_
  refine eseq ?_
  refine HT.ret ?_
  exact fun a ha w' hw => by
    have e1 : sl (sl bs p e) 4 ((((nb bs (p + 3)) % 16) * 4) + 4) = (sl bs (p + 4) (p + ((nb bs (p + 3) % 16) * 4 + 4))) := sl_sl (by omega)
    have h1 := (hw.wk [(0, []), (1, [])] rfl : St w [] ([(gvoS_k0 b17 bs p g64)] ++ [⟨g64, 5, cb (sl (sl bs p e) 4 ((((nb bs (p + 3)) % 16) * 4) + 4)) ++ [], true⟩] ++ []) [Byt A n c (sl bs p e)] w').blkByt (X := [(gvoS_k0 b17 bs p g64)]) (k := ⟨g64, 5, cb (sl (sl bs p e) 4 ((((nb bs (p + 3)) % 16) * 4) + 4)) ++ [], true⟩) (Z := []) (n := ((nb bs (p + 3) % 16) * 4 + 4 - 4)) (cp := ((nb bs (p + 3) % 16) * 4 + 4 - 4)) (bs := sl (sl bs p e) 4 ((((nb bs (p + 3)) % 16) * 4) + 4)) (r := []) rfl (by rw [sl_length (by omega)]) (Nat.le_refl _)
    rw [e1] at h1
    refine fin_ ha (res3 ha Tryz.results146 rfl rfl rfl) ⟨b17, g64, rfl, h1, fr1 (fun x hx => ?_) fr0⟩
    obtain ⟨_, ad, hA, rfl⟩ := hx
    obtain rfl := Option.some.inj hA
    exact (hw.wr _ (List.mem_of_getElem? (i := 1) rfl) rfl).resolve_left (fun h => nomatch h)

theorem gvoF (w : World) (A : Option Addr) (n : Nat) (c : Nat) (bs : List UInt8) (p : Nat) (e : Nat) (gp : Nat) (kb : Nat) (hn : n ≤ 401) (he : n + p = e) (h4 : 4 ≤ n) (hL : n < (nb bs (p + 3) % 16) * 4 + 4) (hst : St w [] [] [Byt A n c (sl bs p e)] w) : Calls Tryz.prog 146 #[(.slice A n c), (.pointer (some ⟨gp, 0, none⟩)), (.iface 199 (.pointer (some ⟨kb, 0, none⟩)))] w (CP1 w [] [Byt A n c (sl bs p e)] (fun b5 => (.tuple #[(.pointer none), (.int .u8 ((0 : Nat) : Int)), (.iface 204 (.pointer (some ⟨b5, 0, none⟩)))])) (fun b5 => [⟨b5, 206, [some (.string (⟨#[103, 101, 110, 101, 118, 101, 32, 111, 112, 116, 105, 111, 110, 32, 116, 111, 111, 32, 115, 109, 97, 108, 108]⟩))], true⟩]) (fun b5 => [])) := by
  have hnc00 : n ≤ c := (hst.fact (j := 0) rfl).2.1
  have hbl : n = (sl bs p e).length := (hst.fact (j := 0) rfl).1
  have h256 := nb_lt bs (p + 3)
  refine enter (vs := [(.slice A n c), (.pointer (some ⟨gp, 0, none⟩)), (.iface 199 (.pointer (some ⟨kb, 0, none⟩)))]) Tryz.func146 rfl rfl rfl hst ?_
  refine HT.seq ?_
  refine HT.plain ?_
  refine sAs rfl rfl ?_
  refine sAs rfl rfl ?_
  refine sAs rfl rfl ?_
  refine send ?_
  refine eseq ?_
  refine HT.seq ?_
  refine HT.seq ?_
  refine HT.plain ?_
  refine sMv rfl rfl ?_
  refine sqS (q_len (len := n) rfl Tryz.underlying22) rfl ?_
  refine sqS (q_F (q_lt (p := n) (q := 3) rfl rfl) (by omega)) rfl ?_
  refine send ?_
  refine eseq ?_
  refine HT.no rfl ?_
  refine HT.skip ?_
  refine eseq ?_
  refine HT.seq ?_
  refine HT.plain ?_
  refine sqS (q_build (vs := []) (v := (.agg #[(.int .u16 ((0 : Nat) : Int)), (.int .u8 ((0 : Nat) : Int)), (.int .u8 ((0 : Nat) : Int)), (.int .u8 ((0 : Nat) : Int)), (.slice none 0 0)])) rfl (fun _ => by kernel_rfl)) rfl ?_
  refine sl_ (l_box (by decide) rfl fun b17 => ?_)
  refine sAs rfl rfl ?_
  refine send ?_
  refine eseq ?_
  refine HT.seq ?_
  refine HT.drawn mixed (St.closed _ _ _ _) (St w [] [⟨b17, 120, [none, some (.int .u8 ((0 : Nat) : Int)), some (.int .u8 ((0 : Nat) : Int)), some (.int .u8 ((0 : Nat) : Int)), some (.slice none 0 0)], true⟩] [Byt A n c (sl bs p e)]) ?_
  refine dtake (f := 1) [0, 1, 2, 3, 4, 5, 6] (by kernel_rfl) (St.closed _ _ _ _) (fun _ h => (h.wk [(0, [0])] rfl)) (by kernel_rfl) ?_
  refine dq rfl (q_move rfl) ?_
  refine dq rfl (q_loadEmpty rfl aggs_210) ?_
  refine dq rfl (q_move rfl) ?_
  refine dq rfl (q_slice (lo := 0) (hi := 2) rfl Tryz.underlying22 nagg_5 (.inr ⟨_, _, rfl, rfl⟩) (.inr ⟨_, _, rfl, rfl⟩) (by omega) (by omega)) ?_
  refine dq rfl (q_N (q_call (vs := [(.agg #[]), (.slice (cutA A c 0) (2 - 0) (c - 0))]) (v := (.int .u16 ((bN (sl bs p e) 0 2 : Nat) : Int))) rfl ca_91 (fun w h => U16 w A n c (sl bs p e) (lo := 0) (hi := 2) (h.fact (j := 0) rfl) (by omega) (by omega))) (a := bN (sl bs p e) 0 2) (b := bN bs p 2) (bN_sl 0 2 (by omega))) ?_
  refine dq rfl (q_nil rfl) ?_
  refine dq rfl (q_field (b := b17) (off := 0) rfl fo_120_0) ?_
  refine QL.nil ?_
  refine RG.step1 7 (by kernel_rfl) ?_
  refine dop rfl (l_store (b := b17) (off := 0) (j := 0) rfl rfl nagg_70 rfl rfl rfl rfl (dlt rfl) ⟨(fun _ h => (h.wk [(0, [0])] rfl)), ?_⟩)
  refine dend (by kernel_rfl) ?_
  refine eseq ?_
  refine HT.seq ?_
  refine HT.plain ?_
  refine sMv rfl rfl ?_
  refine sMv rfl rfl ?_
  refine sqS (q_index (i := 2) (j := 0) rfl rfl Tryz.underlying22 nagg_5 (fun _ h => h) rfl (by omega)) rfl ?_
  refine sqS (q_N (q_byte (i := 2) (j := 0) rfl nagg_5 (fun _ h => h) rfl (by omega)) (a := nb (sl bs p e) 2) (b := nb bs (p + 2)) (nb_sl (by omega))) rfl ?_
  refine sqS (q_nil rfl) rfl ?_
  refine sqS (q_field (b := b17) (off := 0) rfl fo_120_1) rfl ?_
  refine sl_ (l_store (b := b17) (off := 1) (j := 0) rfl rfl nagg_5 rfl rfl rfl rfl (dlt rfl) ?_)
  refine send ?_
  refine eseq ?_
  refine HT.seq ?_
  refine HT.plain ?_
  refine sMv rfl rfl ?_
  refine sMv rfl rfl ?_
  refine sqS (q_index (i := 3) (j := 0) rfl rfl Tryz.underlying22 nagg_5 (fun _ h => h) rfl (by omega)) rfl ?_
  refine sqS (q_N (q_byte (i := 3) (j := 0) rfl nagg_5 (fun _ h => h) rfl (by omega)) (a := nb (sl bs p e) 3) (b := nb bs (p + 3)) (nb_sl (by omega))) rfl ?_
  refine sqS (q_shr (p := nb bs (p + 3)) (e := 4) (N := 16) rfl rfl (by decide) rfl) rfl ?_
  refine sqS (q_nil rfl) rfl ?_
  refine sqS (q_field (b := b17) (off := 0) rfl fo_120_2) rfl ?_
  refine sl_ (l_store (b := b17) (off := 2) (j := 0) rfl rfl nagg_5 rfl rfl rfl rfl (dlt rfl) ?_)
  refine send ?_
  refine eseq ?_
  refine HT.seq ?_
  refine HT.plain ?_
  refine sMv rfl rfl ?_
  refine sMv rfl rfl ?_
  refine sqS (q_index (i := 3) (j := 0) rfl rfl Tryz.underlying22 nagg_5 (fun _ h => h) rfl (by omega)) rfl ?_
  refine sqS (q_N (q_byte (i := 3) (j := 0) rfl nagg_5 (fun _ h => h) rfl (by omega)) (a := nb (sl bs p e) 3) (b := nb bs (p + 3)) (nb_sl (by omega))) rfl ?_
  refine sqS (q_N (q_and (p := nb bs (p + 3)) (q := 15) rfl rfl rfl (show nb bs (p + 3) < 256 by have := nb_lt bs (p + 3); omega) (by decide)) (a := (nb bs (p + 3)) &&& 15) (b := (nb bs (p + 3)) % 16) (zm15 _)) rfl ?_
  refine sqS (q_mul (p := (nb bs (p + 3)) % 16) (q := 4) rfl rfl (show ((nb bs (p + 3)) % 16) * 4 < 256 by have := nb_lt bs (p + 3); omega)) rfl ?_
  refine sqS (q_add (p := ((nb bs (p + 3)) % 16) * 4) (q := 4) rfl rfl (show (((nb bs (p + 3)) % 16) * 4) + 4 < 256 by have := nb_lt bs (p + 3); omega)) rfl ?_
  refine sqS (q_nil rfl) rfl ?_
  refine sqS (q_field (b := b17) (off := 0) rfl fo_120_3) rfl ?_
  refine sl_ (l_store (b := b17) (off := 3) (j := 0) rfl rfl nagg_5 rfl rfl rfl rfl (dlt rfl) ?_)
  refine send ?_
  refine eseq ?_
  refine HT.seq ?_
  refine HT.seq ?_
  refine HT.plain ?_
  refine sMv rfl rfl ?_
  refine sqS (q_len (len := n) rfl Tryz.underlying22) rfl ?_
  refine sMv rfl rfl ?_
  refine sqS (q_nil rfl) rfl ?_
  refine sqS (q_field (b := b17) (off := 0) rfl fo_120_3) rfl ?_
  refine sqS (q_load (b := b17) (off := 3) (j := 0) rfl nagg_5 (fun _ h => h) rfl rfl rfl) rfl ?_
  refine sqS (q_convn (p := (((nb bs (p + 3)) % 16) * 4) + 4) rfl Tryz.underlying5 Tryz.underlying3 (show (((nb bs (p + 3)) % 16) * 4) + 4 < 9223372036854775808 by have := nb_lt bs (p + 3); omega)) rfl ?_
  refine sqS (q_T (q_lt (p := n) (q := (((nb bs (p + 3)) % 16) * 4) + 4) rfl rfl) (by have := nb_lt bs (p + 3); omega)) rfl ?_
  refine send ?_
  refine eseq ?_
  refine HT.yes rfl ?_
  refine HT.seq ?_
  refine HT.plain ?_
  refine sMv rfl rfl ?_
  refine sqS (q_invoke (vs := []) (v := (.tuple #[])) rfl (fun w => me_199_SetTruncated _ w) rfl ca_167 (fun w h => setTrunc w kb  (St.enter (sp := []) (Kc := []) (bi := []) h rfl rfl rfl))) rfl ?_
  refine send ?_
  refine eseq ?_
  refine HT.seq ?_
  refine HT.plain ?_
  refine sl_ (l_callX1 (vs := [(.string ⟨#[103, 101, 110, 101, 118, 101, 32, 111, 112, 116, 105, 111, 110, 32, 116, 111, 111, 32, 115, 109, 97, 108, 108]⟩)]) (Kc := []) (Bc := []) [] [] [Byt A n c (sl bs p e)] (fun b5 => [⟨b17, 120, [some (.int .u16 ((bN bs p 2 : Nat) : Int)), some (.int .u8 ((nb bs (p + 2) : Nat) : Int)), some (.int .u8 (((nb bs (p + 3)) / 16 : Nat) : Int)), some (.int .u8 (((((nb bs (p + 3)) % 16) * 4) + 4 : Nat) : Int)), some (.slice none 0 0)], true⟩, ⟨b5, 206, [some (.string (⟨#[103, 101, 110, 101, 118, 101, 32, 111, 112, 116, 105, 111, 110, 32, 116, 111, 111, 32, 115, 109, 97, 108, 108]⟩))], true⟩]) (fun b5 => [Byt A n c (sl bs p e)]) (by decide) rfl ca_67 (fun _ h => h) rfl rfl rfl rfl (fun w h => errNew w (⟨#[103, 101, 110, 101, 118, 101, 32, 111, 112, 116, 105, 111, 110, 32, 116, 111, 111, 32, 115, 109, 97, 108, 108]⟩)  h) (fun _ => rfl) (fun _ => rfl) (fun _ => rfl) (fun _ => rfl) fun b5 hf1 he2 => ?_)
  refine sAs rfl rfl ?_
  refine sAs rfl rfl ?_
  refine sAs rfl rfl ?_
  refine send ?_
  refine eseq ?_
  refine HT.ret ?_
  refine rt_then ?_
  exact fun a ha w' hw => fin_ ha (res3 ha Tryz.results146 rfl rfl rfl) ⟨b5, rfl, (hw.wk [(1, [])] rfl), fr0⟩

theorem geneve_S0 (w : World) (A : Option Addr) (n : Nat) (c : Nat) (bs : List UInt8) (hn : n ≤ 2147483647) (ha : n < 8) (hst : St w [] [] [Byt A n c bs] w) : Calls Tryz.prog 26 #[(.string ⟨#[103, 101, 110, 101, 118, 101]⟩), (.slice A n c)] w (SP w (Byt A n c bs) (some none)) := by
  have hnc00 : n ≤ c := (hst.fact (j := 0) rfl).2.1
  refine enter (vs := [(.string ⟨#[103, 101, 110, 101, 118, 101]⟩), (.slice A n c)]) Tryz.func26 rfl rfl rfl hst ?_
  refine HT.seq ?_
  refine HT.plain ?_
  refine sl_ (l_alloc (by decide) zero_29 fun b4 => ?_)
  refine sAs rfl rfl ?_
  refine sAs rfl rfl ?_
  refine send ?_
  refine eseq ?_
  refine HT.seq ?_
  refine HT.plain ?_
  refine sl_ (l_makeMap (by decide) fun b13 => ?_)
  refine sl_ (l_insert (es := es0) (ck := 0) rfl rfl rfl Tryz.underlying36 Tryz.underlying9 fi0 ?_)
  refine sl_ (l_insert (es := es1) (ck := 1) rfl rfl rfl Tryz.underlying36 Tryz.underlying9 fi1 ?_)
  refine sl_ (l_insert (es := es2) (ck := 2) rfl rfl rfl Tryz.underlying36 Tryz.underlying9 fi2 ?_)
  refine sl_ (l_insert (es := es3) (ck := 3) rfl rfl rfl Tryz.underlying36 Tryz.underlying9 fi3 ?_)
  refine sl_ (l_insert (es := es4) (ck := 4) rfl rfl rfl Tryz.underlying36 Tryz.underlying9 fi4 ?_)
  refine sl_ (l_insert (es := es5) (ck := 5) rfl rfl rfl Tryz.underlying36 Tryz.underlying9 fi5 ?_)
  refine sl_ (l_insert (es := es6) (ck := 6) rfl rfl rfl Tryz.underlying36 Tryz.underlying9 fi6 ?_)
  refine sl_ (l_insert (es := es7) (ck := 7) rfl rfl rfl Tryz.underlying36 Tryz.underlying9 fi7 ?_)
  refine sl_ (l_insert (es := es8) (ck := 8) rfl rfl rfl Tryz.underlying36 Tryz.underlying9 fi8 ?_)
  refine sl_ (l_insert (es := es9) (ck := 9) rfl rfl rfl Tryz.underlying36 Tryz.underlying9 fi9 ?_)
  refine sl_ (l_insert (es := es10) (ck := 10) rfl rfl rfl Tryz.underlying36 Tryz.underlying9 fi10 ?_)
  refine sl_ (l_insert (es := es11) (ck := 11) rfl rfl rfl Tryz.underlying36 Tryz.underlying9 fi11 ?_)
  refine sl_ (l_insert (es := es12) (ck := 12) rfl rfl rfl Tryz.underlying36 Tryz.underlying9 fi12 ?_)
  refine sl_ (l_insert (es := es13) (ck := 13) rfl rfl rfl Tryz.underlying36 Tryz.underlying9 fi13 ?_)
  refine sl_ (l_insert (es := es14) (ck := 14) rfl rfl rfl Tryz.underlying36 Tryz.underlying9 fi14 ?_)
  refine sl_ (l_insert (es := es15) (ck := 15) rfl rfl rfl Tryz.underlying36 Tryz.underlying9 fi15 ?_)
  refine sl_ (l_insert (es := es16) (ck := 16) rfl rfl rfl Tryz.underlying36 Tryz.underlying9 fi16 ?_)
  refine sl_ (l_insert (es := es17) (ck := 17) rfl rfl rfl Tryz.underlying36 Tryz.underlying9 fi17 ?_)
  refine sl_ (l_insert (es := es18) (ck := 18) rfl rfl rfl Tryz.underlying36 Tryz.underlying9 fi18 ?_)
  refine sl_ (l_insert (es := es19) (ck := 19) rfl rfl rfl Tryz.underlying36 Tryz.underlying9 fi19 ?_)
  refine sl_ (l_insert (es := es20) (ck := 20) rfl rfl rfl Tryz.underlying36 Tryz.underlying9 fi20 ?_)
  refine sq (SM.closed) (q_move rfl) rfl ?_
  refine sq (SM.closed) (q_move rfl) rfl ?_
  refine sq (SM.closed) (q_lookup (es := es21) (i := 10) (v := (.int .i64 ((8 : Nat) : Int))) (fun _ h => h) rfl rfl Tryz.underlying36 Tryz.underlying9 (by kernel_rfl)) rfl ?_
  refine sq (SM.closed) (q_assign rfl) rfl ?_
  refine send ?_
  refine eseq ?_
  refine HT.unmap ?_
  refine HT.seq ?_
  refine HT.seq ?_
  refine HT.plain ?_
  refine sMv rfl rfl ?_
  refine sqS (q_len (len := n) rfl Tryz.underlying22) rfl ?_
  refine sMv rfl rfl ?_
  refine sqS (q_T (q_lt (p := n) (q := 8) rfl rfl) (by omega)) rfl ?_
  refine send ?_
  refine eseq ?_
  refine HT.yes rfl ?_
  refine HT.seq ?_
  refine HT.plain ?_
  refine sqS (q_build (vs := []) (v := (.agg #[(.slice none 0 0), (.slice none 0 0), (.slice none 0 0), (.slice none 0 0)])) rfl (fun _ => by kernel_rfl)) rfl ?_
  refine sl_ (l_storeAgg (b := b4) (off := 0) (j := 0) (vs := [(.slice none 0 0), (.slice none 0 0), (.slice none 0 0), (.slice none 0 0)]) rfl rfl aggs_29 (by simp [Value.one1]) rfl rfl rfl (Nat.le_of_ble_eq_true rfl) ?_)
  refine sAs rfl rfl ?_
  refine sAs rfl rfl ?_
  refine send ?_
  refine eseq ?_
  refine HT.ret ?_
  refine rt_then ?_
  exact fun a ha w' hw => fin_ ha (resc3 ha Tryz.results26 rfl (ld_ aggs_29 hw (j := 0) rfl rfl (vs := [(.slice none 0 0), (.slice none 0 0), (.slice none 0 0), (.slice none 0 0)]) rfl) rfl rfl) ⟨rfl, hw.pres⟩

theorem geneve_s1 (w : World) (A : Option Addr) (n : Nat) (c : Nat) (bs : List UInt8) (hn : n ≤ 2147483647) (ha : 8 ≤ n) (hb : 64 ≤ nb bs 0) (hst : St w [] [] [Byt A n c bs] w) : Calls Tryz.prog 39 #[(.slice A n c)] w (fun e w' => e = .returned (.tuple #[(.agg #[(.slice none 0 0), (.slice none 0 0), (.slice none 0 0), (.slice none 0 0)]), (.bool true), (.bool false)]) ∧ Pres [] w w') := by
  have hnc00 : n ≤ c := (hst.fact (j := 0) rfl).2.1
  refine enter (vs := [(.slice A n c)]) Tryz.func39 rfl rfl rfl hst ?_
  refine HT.seq ?_
  refine HT.plain ?_
  refine sl_ (l_alloc (by decide) zero_29 fun b2 => ?_)
  refine sAs rfl rfl ?_
  refine sAs rfl rfl ?_
  refine send ?_
  refine eseq ?_
  refine HT.seq ?_
  refine HT.plain ?_
  refine sMv rfl rfl ?_
  refine sqS (q_index (i := 0) (j := 0) rfl rfl Tryz.underlying22 nagg_5 (fun _ h => h) rfl (by omega)) rfl ?_
  refine sqS (q_byte (i := 0) (j := 0) rfl nagg_5 (fun _ h => h) rfl (by omega)) rfl ?_
  refine sqS (q_and (p := nb bs 0) (q := 63) rfl rfl rfl (show nb bs 0 < 256 by have := nb_lt bs 0; omega) (by decide)) rfl ?_
  refine sqS (q_convn (p := (nb bs 0) &&& 63) rfl Tryz.underlying5 Tryz.underlying3 (show (nb bs 0) &&& 63 < 9223372036854775808 by have := nb_lt bs 0; have := zm63 (nb bs 0); have := Nat.and_le_left (n := nb bs 0) (m := 63); have := Nat.and_le_right (n := nb bs 0) (m := 63); omega)) rfl ?_
  refine sqS (q_mul (p := 4) (q := (nb bs 0) &&& 63) rfl rfl (show 4 * ((nb bs 0) &&& 63) < 9223372036854775808 by have := nb_lt bs 0; have := zm63 (nb bs 0); have := Nat.and_le_left (n := nb bs 0) (m := 63); have := Nat.and_le_right (n := nb bs 0) (m := 63); omega)) rfl ?_
  refine sAs rfl rfl ?_
  refine send ?_
  refine eseq ?_
  refine HT.seq ?_
  refine HT.seq ?_
  refine HT.plain ?_
  refine sMv rfl rfl ?_
  refine sqS (q_index (i := 0) (j := 0) rfl rfl Tryz.underlying22 nagg_5 (fun _ h => h) rfl (by omega)) rfl ?_
  refine sqS (q_byte (i := 0) (j := 0) rfl nagg_5 (fun _ h => h) rfl (by omega)) rfl ?_
  refine sqS (q_T (q_ge (p := nb bs 0) (q := 64) rfl rfl) (by have := nb_lt bs 0; omega)) rfl ?_
  refine sMv rfl rfl ?_
  refine sskip rfl rfl ?_
  refine sskip rfl rfl ?_
  refine sqS (q_pick rfl (fun _ => rfl) (fun h => nomatch h)) rfl ?_
  refine send ?_
  refine eseq ?_
  refine HT.yes rfl ?_
  refine HT.seq ?_
  refine HT.plain ?_
  refine sqS (q_build (vs := []) (v := (.agg #[(.slice none 0 0), (.slice none 0 0), (.slice none 0 0), (.slice none 0 0)])) rfl (fun _ => by kernel_rfl)) rfl ?_
  refine sl_ (l_storeAgg (b := b2) (off := 0) (j := 0) (vs := [(.slice none 0 0), (.slice none 0 0), (.slice none 0 0), (.slice none 0 0)]) rfl rfl aggs_29 (by simp [Value.one1]) rfl rfl rfl (Nat.le_of_ble_eq_true rfl) ?_)
  refine sAs rfl rfl ?_
  refine sAs rfl rfl ?_
  refine send ?_
  refine eseq ?_
  refine HT.ret ?_
  refine rt_then ?_
  exact fun a ha w' hw => fin_ ha (resc3 ha Tryz.results39 rfl (ld_ aggs_29 hw (j := 0) rfl rfl (vs := [(.slice none 0 0), (.slice none 0 0), (.slice none 0 0), (.slice none 0 0)]) rfl) rfl rfl) ⟨rfl, hw.pres⟩

theorem geneve_S1 (w : World) (A : Option Addr) (n : Nat) (c : Nat) (bs : List UInt8) (hn : n ≤ 2147483647) (ha : 8 ≤ n) (hb : 64 ≤ nb bs 0) (hst : St w [] [] [Byt A n c bs] w) : Calls Tryz.prog 26 #[(.string ⟨#[103, 101, 110, 101, 118, 101]⟩), (.slice A n c)] w (SP w (Byt A n c bs) none) := by
  have hnc00 : n ≤ c := (hst.fact (j := 0) rfl).2.1
  refine enter (vs := [(.string ⟨#[103, 101, 110, 101, 118, 101]⟩), (.slice A n c)]) Tryz.func26 rfl rfl rfl hst ?_
  refine HT.seq ?_
  refine HT.plain ?_
  refine sl_ (l_alloc (by decide) zero_29 fun b4 => ?_)
  refine sAs rfl rfl ?_
  refine sAs rfl rfl ?_
  refine send ?_
  refine eseq ?_
  refine HT.seq ?_
  refine HT.plain ?_
  refine sl_ (l_makeMap (by decide) fun b13 => ?_)
  refine sl_ (l_insert (es := es0) (ck := 0) rfl rfl rfl Tryz.underlying36 Tryz.underlying9 fi0 ?_)
  refine sl_ (l_insert (es := es1) (ck := 1) rfl rfl rfl Tryz.underlying36 Tryz.underlying9 fi1 ?_)
  refine sl_ (l_insert (es := es2) (ck := 2) rfl rfl rfl Tryz.underlying36 Tryz.underlying9 fi2 ?_)
  refine sl_ (l_insert (es := es3) (ck := 3) rfl rfl rfl Tryz.underlying36 Tryz.underlying9 fi3 ?_)
  refine sl_ (l_insert (es := es4) (ck := 4) rfl rfl rfl Tryz.underlying36 Tryz.underlying9 fi4 ?_)
  refine sl_ (l_insert (es := es5) (ck := 5) rfl rfl rfl Tryz.underlying36 Tryz.underlying9 fi5 ?_)
  refine sl_ (l_insert (es := es6) (ck := 6) rfl rfl rfl Tryz.underlying36 Tryz.underlying9 fi6 ?_)
  refine sl_ (l_insert (es := es7) (ck := 7) rfl rfl rfl Tryz.underlying36 Tryz.underlying9 fi7 ?_)
  refine sl_ (l_insert (es := es8) (ck := 8) rfl rfl rfl Tryz.underlying36 Tryz.underlying9 fi8 ?_)
  refine sl_ (l_insert (es := es9) (ck := 9) rfl rfl rfl Tryz.underlying36 Tryz.underlying9 fi9 ?_)
  refine sl_ (l_insert (es := es10) (ck := 10) rfl rfl rfl Tryz.underlying36 Tryz.underlying9 fi10 ?_)
  refine sl_ (l_insert (es := es11) (ck := 11) rfl rfl rfl Tryz.underlying36 Tryz.underlying9 fi11 ?_)
  refine sl_ (l_insert (es := es12) (ck := 12) rfl rfl rfl Tryz.underlying36 Tryz.underlying9 fi12 ?_)
  refine sl_ (l_insert (es := es13) (ck := 13) rfl rfl rfl Tryz.underlying36 Tryz.underlying9 fi13 ?_)
  refine sl_ (l_insert (es := es14) (ck := 14) rfl rfl rfl Tryz.underlying36 Tryz.underlying9 fi14 ?_)
  refine sl_ (l_insert (es := es15) (ck := 15) rfl rfl rfl Tryz.underlying36 Tryz.underlying9 fi15 ?_)
  refine sl_ (l_insert (es := es16) (ck := 16) rfl rfl rfl Tryz.underlying36 Tryz.underlying9 fi16 ?_)
  refine sl_ (l_insert (es := es17) (ck := 17) rfl rfl rfl Tryz.underlying36 Tryz.underlying9 fi17 ?_)
  refine sl_ (l_insert (es := es18) (ck := 18) rfl rfl rfl Tryz.underlying36 Tryz.underlying9 fi18 ?_)
  refine sl_ (l_insert (es := es19) (ck := 19) rfl rfl rfl Tryz.underlying36 Tryz.underlying9 fi19 ?_)
  refine sl_ (l_insert (es := es20) (ck := 20) rfl rfl rfl Tryz.underlying36 Tryz.underlying9 fi20 ?_)
  refine sq (SM.closed) (q_move rfl) rfl ?_
  refine sq (SM.closed) (q_move rfl) rfl ?_
  refine sq (SM.closed) (q_lookup (es := es21) (i := 10) (v := (.int .i64 ((8 : Nat) : Int))) (fun _ h => h) rfl rfl Tryz.underlying36 Tryz.underlying9 (by kernel_rfl)) rfl ?_
  refine sq (SM.closed) (q_assign rfl) rfl ?_
  refine send ?_
  refine eseq ?_
  refine HT.unmap ?_
  refine HT.seq ?_
  refine HT.seq ?_
  refine HT.plain ?_
  refine sMv rfl rfl ?_
  refine sqS (q_len (len := n) rfl Tryz.underlying22) rfl ?_
  refine sMv rfl rfl ?_
  refine sqS (q_F (q_lt (p := n) (q := 8) rfl rfl) (by omega)) rfl ?_
  refine send ?_
  refine eseq ?_
  refine HT.no rfl ?_
  refine HT.skip ?_
  refine eseq ?_
  refine HT.seq ?_
  refine HT.seq ?_
  refine HT.plain ?_
  refine sMv rfl rfl ?_
  refine send ?_
  refine eseq ?_
  refine HT.block ?_
  refine HT.seq ?_
  refine HT.plain ?_
  refine sqS (q_eqs rfl rfl (r := false) (by kernel_rfl)) rfl ?_
  refine sAs rfl rfl ?_
  refine send ?_
  refine eseq ?_
  refine HT.no rfl ?_
  refine HT.seq ?_
  refine HT.plain ?_
  refine sqS (q_eqs rfl rfl (r := false) (by kernel_rfl)) rfl ?_
  refine sAs rfl rfl ?_
  refine send ?_
  refine eseq ?_
  refine HT.no rfl ?_
  refine HT.seq ?_
  refine HT.plain ?_
  refine sqS (q_eqs rfl rfl (r := false) (by kernel_rfl)) rfl ?_
  refine sAs rfl rfl ?_
  refine send ?_
  refine eseq ?_
  refine HT.no rfl ?_
  refine HT.seq ?_
  refine HT.plain ?_
  refine sqS (q_eqs rfl rfl (r := false) (by kernel_rfl)) rfl ?_
  refine sAs rfl rfl ?_
  refine send ?_
  refine eseq ?_
  refine HT.no rfl ?_
  refine HT.seq ?_
  refine HT.plain ?_
  refine sqS (q_eqs rfl rfl (r := false) (by kernel_rfl)) rfl ?_
  refine sAs rfl rfl ?_
  refine send ?_
  refine eseq ?_
  refine HT.no rfl ?_
  refine HT.seq ?_
  refine HT.plain ?_
  refine sqS (q_eqs rfl rfl (r := false) (by kernel_rfl)) rfl ?_
  refine sAs rfl rfl ?_
  refine send ?_
  refine eseq ?_
  refine HT.no rfl ?_
  refine HT.seq ?_
  refine HT.plain ?_
  refine sqS (q_eqs rfl rfl (r := false) (by kernel_rfl)) rfl ?_
  refine sAs rfl rfl ?_
  refine send ?_
  refine eseq ?_
  refine HT.no rfl ?_
  refine HT.seq ?_
  refine HT.plain ?_
  refine sqS (q_eqs rfl rfl (r := false) (by kernel_rfl)) rfl ?_
  refine sAs rfl rfl ?_
  refine send ?_
  refine eseq ?_
  refine HT.no rfl ?_
  refine HT.seq ?_
  refine HT.plain ?_
  refine sqS (q_eqs rfl rfl (r := false) (by kernel_rfl)) rfl ?_
  refine sAs rfl rfl ?_
  refine send ?_
  refine eseq ?_
  refine HT.no rfl ?_
  refine HT.seq ?_
  refine HT.plain ?_
  refine sqS (q_eqs rfl rfl (r := false) (by kernel_rfl)) rfl ?_
  refine sAs rfl rfl ?_
  refine send ?_
  refine eseq ?_
  refine HT.no rfl ?_
  refine HT.seq ?_
  refine HT.plain ?_
  refine sqS (q_eqs rfl rfl (r := true) (by kernel_rfl)) rfl ?_
  refine sAs rfl rfl ?_
  refine send ?_
  refine eseq ?_
  refine HT.yes rfl ?_
  refine HT.seq ?_
  refine HT.plain ?_
  refine sMv rfl rfl ?_
  refine sqS (q_call (vs := [(.slice A n c)]) (v := (.tuple #[(.agg #[(.slice none 0 0), (.slice none 0 0), (.slice none 0 0), (.slice none 0 0)]), (.bool true), (.bool false)])) rfl ca_39 (fun w h => geneve_s1 w A n c bs (by omega) (by omega) (by omega) (St.enter (sp := []) (Kc := []) (bi := [0]) h rfl rfl rfl))) rfl ?_
  refine sqS (q_extract (vs := [(.agg #[(.slice none 0 0), (.slice none 0 0), (.slice none 0 0), (.slice none 0 0)]), (.bool true), (.bool false)]) (i := 0) rfl rfl) rfl ?_
  refine sqS (q_extract (vs := [(.agg #[(.slice none 0 0), (.slice none 0 0), (.slice none 0 0), (.slice none 0 0)]), (.bool true), (.bool false)]) (i := 1) rfl rfl) rfl ?_
  refine sqS (q_extract (vs := [(.agg #[(.slice none 0 0), (.slice none 0 0), (.slice none 0 0), (.slice none 0 0)]), (.bool true), (.bool false)]) (i := 2) rfl rfl) rfl ?_
  refine sl_ (l_storeAgg (b := b4) (off := 0) (j := 0) (vs := [(.slice none 0 0), (.slice none 0 0), (.slice none 0 0), (.slice none 0 0)]) rfl rfl aggs_29 (by simp [Value.one1]) rfl rfl rfl (Nat.le_of_ble_eq_true rfl) ?_)
  refine sAs rfl rfl ?_
  refine sAs rfl rfl ?_
  refine send ?_
  refine eseq ?_
  refine HT.ret ?_
  refine rt_in ?_
  refine rt_then ?_
  exact fun a ha w' hw => fin_ ha (resc3 ha Tryz.results26 rfl (ld_ aggs_29 hw (j := 0) rfl rfl (vs := [(.slice none 0 0), (.slice none 0 0), (.slice none 0 0), (.slice none 0 0)]) rfl) rfl rfl) ⟨⟨none, 0, 0, []⟩, ⟨none, 0, 0, []⟩, ⟨none, 0, 0, []⟩, ⟨none, 0, 0, []⟩, true, rfl, hw.pres⟩

theorem geneve_s2 (w : World) (A : Option Addr) (n : Nat) (c : Nat) (bs : List UInt8) (hn : n ≤ 2147483647) (ha : 8 ≤ n) (hb : nb bs 0 < 64) (hc : 61 < nb bs 0) (hst : St w [] [] [Byt A n c bs] w) : Calls Tryz.prog 39 #[(.slice A n c)] w (fun e w' => e = .returned (.tuple #[(.agg #[(.slice none 0 0), (.slice none 0 0), (.slice none 0 0), (.slice none 0 0)]), (.bool true), (.bool false)]) ∧ Pres [] w w') := by
  have hnc00 : n ≤ c := (hst.fact (j := 0) rfl).2.1
  refine enter (vs := [(.slice A n c)]) Tryz.func39 rfl rfl rfl hst ?_
  refine HT.seq ?_
  refine HT.plain ?_
  refine sl_ (l_alloc (by decide) zero_29 fun b2 => ?_)
  refine sAs rfl rfl ?_
  refine sAs rfl rfl ?_
  refine send ?_
  refine eseq ?_
  refine HT.seq ?_
  refine HT.plain ?_
  refine sMv rfl rfl ?_
  refine sqS (q_index (i := 0) (j := 0) rfl rfl Tryz.underlying22 nagg_5 (fun _ h => h) rfl (by omega)) rfl ?_
  refine sqS (q_byte (i := 0) (j := 0) rfl nagg_5 (fun _ h => h) rfl (by omega)) rfl ?_
  refine sqS (q_and (p := nb bs 0) (q := 63) rfl rfl rfl (show nb bs 0 < 256 by have := nb_lt bs 0; omega) (by decide)) rfl ?_
  refine sqS (q_convn (p := (nb bs 0) &&& 63) rfl Tryz.underlying5 Tryz.underlying3 (show (nb bs 0) &&& 63 < 9223372036854775808 by have := nb_lt bs 0; have := zm63 (nb bs 0); have := Nat.and_le_left (n := nb bs 0) (m := 63); have := Nat.and_le_right (n := nb bs 0) (m := 63); omega)) rfl ?_
  refine sqS (q_mul (p := 4) (q := (nb bs 0) &&& 63) rfl rfl (show 4 * ((nb bs 0) &&& 63) < 9223372036854775808 by have := nb_lt bs 0; have := zm63 (nb bs 0); have := Nat.and_le_left (n := nb bs 0) (m := 63); have := Nat.and_le_right (n := nb bs 0) (m := 63); omega)) rfl ?_
  refine sAs rfl rfl ?_
  refine send ?_
  refine eseq ?_
  refine HT.seq ?_
  refine HT.seq ?_
  refine HT.plain ?_
  refine sMv rfl rfl ?_
  refine sqS (q_index (i := 0) (j := 0) rfl rfl Tryz.underlying22 nagg_5 (fun _ h => h) rfl (by omega)) rfl ?_
  refine sqS (q_byte (i := 0) (j := 0) rfl nagg_5 (fun _ h => h) rfl (by omega)) rfl ?_
  refine sqS (q_F (q_ge (p := nb bs 0) (q := 64) rfl rfl) (by have := nb_lt bs 0; omega)) rfl ?_
  refine sMv rfl rfl ?_
  refine sgqS rfl (q_move rfl) rfl ?_
  refine sgqS rfl (q_T (q_gt (p := 4 * ((nb bs 0) &&& 63)) (q := 244) rfl rfl) (by have := nb_lt bs 0; have := zm63 (nb bs 0); have := Nat.and_le_left (n := nb bs 0) (m := 63); have := Nat.and_le_right (n := nb bs 0) (m := 63); omega)) rfl ?_
  refine sqS (q_pick rfl (fun h => nomatch h) (fun _ => rfl)) rfl ?_
  refine send ?_
  refine eseq ?_
  refine HT.yes rfl ?_
  refine HT.seq ?_
  refine HT.plain ?_
  refine sqS (q_build (vs := []) (v := (.agg #[(.slice none 0 0), (.slice none 0 0), (.slice none 0 0), (.slice none 0 0)])) rfl (fun _ => by kernel_rfl)) rfl ?_
  refine sl_ (l_storeAgg (b := b2) (off := 0) (j := 0) (vs := [(.slice none 0 0), (.slice none 0 0), (.slice none 0 0), (.slice none 0 0)]) rfl rfl aggs_29 (by simp [Value.one1]) rfl rfl rfl (Nat.le_of_ble_eq_true rfl) ?_)
  refine sAs rfl rfl ?_
  refine sAs rfl rfl ?_
  refine send ?_
  refine eseq ?_
  refine HT.ret ?_
  refine rt_then ?_
  exact fun a ha w' hw => fin_ ha (resc3 ha Tryz.results39 rfl (ld_ aggs_29 hw (j := 0) rfl rfl (vs := [(.slice none 0 0), (.slice none 0 0), (.slice none 0 0), (.slice none 0 0)]) rfl) rfl rfl) ⟨rfl, hw.pres⟩

theorem geneve_S2 (w : World) (A : Option Addr) (n : Nat) (c : Nat) (bs : List UInt8) (hn : n ≤ 2147483647) (ha : 8 ≤ n) (hb : nb bs 0 < 64) (hc : 61 < nb bs 0) (hst : St w [] [] [Byt A n c bs] w) : Calls Tryz.prog 26 #[(.string ⟨#[103, 101, 110, 101, 118, 101]⟩), (.slice A n c)] w (SP w (Byt A n c bs) none) := by
  have hnc00 : n ≤ c := (hst.fact (j := 0) rfl).2.1
  refine enter (vs := [(.string ⟨#[103, 101, 110, 101, 118, 101]⟩), (.slice A n c)]) Tryz.func26 rfl rfl rfl hst ?_
  refine HT.seq ?_
  refine HT.plain ?_
  refine sl_ (l_alloc (by decide) zero_29 fun b4 => ?_)
  refine sAs rfl rfl ?_
  refine sAs rfl rfl ?_
  refine send ?_
  refine eseq ?_
  refine HT.seq ?_
  refine HT.plain ?_
  refine sl_ (l_makeMap (by decide) fun b13 => ?_)
  refine sl_ (l_insert (es := es0) (ck := 0) rfl rfl rfl Tryz.underlying36 Tryz.underlying9 fi0 ?_)
  refine sl_ (l_insert (es := es1) (ck := 1) rfl rfl rfl Tryz.underlying36 Tryz.underlying9 fi1 ?_)
  refine sl_ (l_insert (es := es2) (ck := 2) rfl rfl rfl Tryz.underlying36 Tryz.underlying9 fi2 ?_)
  refine sl_ (l_insert (es := es3) (ck := 3) rfl rfl rfl Tryz.underlying36 Tryz.underlying9 fi3 ?_)
  refine sl_ (l_insert (es := es4) (ck := 4) rfl rfl rfl Tryz.underlying36 Tryz.underlying9 fi4 ?_)
  refine sl_ (l_insert (es := es5) (ck := 5) rfl rfl rfl Tryz.underlying36 Tryz.underlying9 fi5 ?_)
  refine sl_ (l_insert (es := es6) (ck := 6) rfl rfl rfl Tryz.underlying36 Tryz.underlying9 fi6 ?_)
  refine sl_ (l_insert (es := es7) (ck := 7) rfl rfl rfl Tryz.underlying36 Tryz.underlying9 fi7 ?_)
  refine sl_ (l_insert (es := es8) (ck := 8) rfl rfl rfl Tryz.underlying36 Tryz.underlying9 fi8 ?_)
  refine sl_ (l_insert (es := es9) (ck := 9) rfl rfl rfl Tryz.underlying36 Tryz.underlying9 fi9 ?_)
  refine sl_ (l_insert (es := es10) (ck := 10) rfl rfl rfl Tryz.underlying36 Tryz.underlying9 fi10 ?_)
  refine sl_ (l_insert (es := es11) (ck := 11) rfl rfl rfl Tryz.underlying36 Tryz.underlying9 fi11 ?_)
  refine sl_ (l_insert (es := es12) (ck := 12) rfl rfl rfl Tryz.underlying36 Tryz.underlying9 fi12 ?_)
  refine sl_ (l_insert (es := es13) (ck := 13) rfl rfl rfl Tryz.underlying36 Tryz.underlying9 fi13 ?_)
  refine sl_ (l_insert (es := es14) (ck := 14) rfl rfl rfl Tryz.underlying36 Tryz.underlying9 fi14 ?_)
  refine sl_ (l_insert (es := es15) (ck := 15) rfl rfl rfl Tryz.underlying36 Tryz.underlying9 fi15 ?_)
  refine sl_ (l_insert (es := es16) (ck := 16) rfl rfl rfl Tryz.underlying36 Tryz.underlying9 fi16 ?_)
  refine sl_ (l_insert (es := es17) (ck := 17) rfl rfl rfl Tryz.underlying36 Tryz.underlying9 fi17 ?_)
  refine sl_ (l_insert (es := es18) (ck := 18) rfl rfl rfl Tryz.underlying36 Tryz.underlying9 fi18 ?_)
  refine sl_ (l_insert (es := es19) (ck := 19) rfl rfl rfl Tryz.underlying36 Tryz.underlying9 fi19 ?_)
  refine sl_ (l_insert (es := es20) (ck := 20) rfl rfl rfl Tryz.underlying36 Tryz.underlying9 fi20 ?_)
  refine sq (SM.closed) (q_move rfl) rfl ?_
  refine sq (SM.closed) (q_move rfl) rfl ?_
  refine sq (SM.closed) (q_lookup (es := es21) (i := 10) (v := (.int .i64 ((8 : Nat) : Int))) (fun _ h => h) rfl rfl Tryz.underlying36 Tryz.underlying9 (by kernel_rfl)) rfl ?_
  refine sq (SM.closed) (q_assign rfl) rfl ?_
  refine send ?_
  refine eseq ?_
  refine HT.unmap ?_
  refine HT.seq ?_
  refine HT.seq ?_
  refine HT.plain ?_
  refine sMv rfl rfl ?_
  refine sqS (q_len (len := n) rfl Tryz.underlying22) rfl ?_
  refine sMv rfl rfl ?_
  refine sqS (q_F (q_lt (p := n) (q := 8) rfl rfl) (by omega)) rfl ?_
  refine send ?_
  refine eseq ?_
  refine HT.no rfl ?_
  refine HT.skip ?_
  refine eseq ?_
  refine HT.seq ?_
  refine HT.seq ?_
  refine HT.plain ?_
  refine sMv rfl rfl ?_
  refine send ?_
  refine eseq ?_
  refine HT.block ?_
  refine HT.seq ?_
  refine HT.plain ?_
  refine sqS (q_eqs rfl rfl (r := false) (by kernel_rfl)) rfl ?_
  refine sAs rfl rfl ?_
  refine send ?_
  refine eseq ?_
  refine HT.no rfl ?_
  refine HT.seq ?_
  refine HT.plain ?_
  refine sqS (q_eqs rfl rfl (r := false) (by kernel_rfl)) rfl ?_
  refine sAs rfl rfl ?_
  refine send ?_
  refine eseq ?_
  refine HT.no rfl ?_
  refine HT.seq ?_
  refine HT.plain ?_
  refine sqS (q_eqs rfl rfl (r := false) (by kernel_rfl)) rfl ?_
  refine sAs rfl rfl ?_
  refine send ?_
  refine eseq ?_
  refine HT.no rfl ?_
  refine HT.seq ?_
  refine HT.plain ?_
  refine sqS (q_eqs rfl rfl (r := false) (by kernel_rfl)) rfl ?_
  refine sAs rfl rfl ?_
  refine send ?_
  refine eseq ?_
  refine HT.no rfl ?_
  refine HT.seq ?_
  refine HT.plain ?_
  refine sqS (q_eqs rfl rfl (r := false) (by kernel_rfl)) rfl ?_
  refine sAs rfl rfl ?_
  refine send ?_
  refine eseq ?_
  refine HT.no rfl ?_
  refine HT.seq ?_
  refine HT.plain ?_
  refine sqS (q_eqs rfl rfl (r := false) (by kernel_rfl)) rfl ?_
  refine sAs rfl rfl ?_
  refine send ?_
  refine eseq ?_
  refine HT.no rfl ?_
  refine HT.seq ?_
  refine HT.plain ?_
  refine sqS (q_eqs rfl rfl (r := false) (by kernel_rfl)) rfl ?_
  refine sAs rfl rfl ?_
  refine send ?_
  refine eseq ?_
  refine HT.no rfl ?_
  refine HT.seq ?_
  refine HT.plain ?_
  refine sqS (q_eqs rfl rfl (r := false) (by kernel_rfl)) rfl ?_
  refine sAs rfl rfl ?_
  refine send ?_
  refine eseq ?_
  refine HT.no rfl ?_
  refine HT.seq ?_
  refine HT.plain ?_
  refine sqS (q_eqs rfl rfl (r := false) (by kernel_rfl)) rfl ?_
  refine sAs rfl rfl ?_
  refine send ?_
  refine eseq ?_
  refine HT.no rfl ?_
  refine HT.seq ?_
  refine HT.plain ?_
  refine sqS (q_eqs rfl rfl (r := false) (by kernel_rfl)) rfl ?_
  refine sAs rfl rfl ?_
  refine send ?_
  refine eseq ?_
  refine HT.no rfl ?_
  refine HT.seq ?_
  refine HT.plain ?_
  refine sqS (q_eqs rfl rfl (r := true) (by kernel_rfl)) rfl ?_
  refine sAs rfl rfl ?_
  refine send ?_
  refine eseq ?_
  refine HT.yes rfl ?_
  refine HT.seq ?_
  refine HT.plain ?_
  refine sMv rfl rfl ?_
  refine sqS (q_call (vs := [(.slice A n c)]) (v := (.tuple #[(.agg #[(.slice none 0 0), (.slice none 0 0), (.slice none 0 0), (.slice none 0 0)]), (.bool true), (.bool false)])) rfl ca_39 (fun w h => geneve_s2 w A n c bs (by omega) (by omega) (by omega) (by omega) (St.enter (sp := []) (Kc := []) (bi := [0]) h rfl rfl rfl))) rfl ?_
  refine sqS (q_extract (vs := [(.agg #[(.slice none 0 0), (.slice none 0 0), (.slice none 0 0), (.slice none 0 0)]), (.bool true), (.bool false)]) (i := 0) rfl rfl) rfl ?_
  refine sqS (q_extract (vs := [(.agg #[(.slice none 0 0), (.slice none 0 0), (.slice none 0 0), (.slice none 0 0)]), (.bool true), (.bool false)]) (i := 1) rfl rfl) rfl ?_
  refine sqS (q_extract (vs := [(.agg #[(.slice none 0 0), (.slice none 0 0), (.slice none 0 0), (.slice none 0 0)]), (.bool true), (.bool false)]) (i := 2) rfl rfl) rfl ?_
  refine sl_ (l_storeAgg (b := b4) (off := 0) (j := 0) (vs := [(.slice none 0 0), (.slice none 0 0), (.slice none 0 0), (.slice none 0 0)]) rfl rfl aggs_29 (by simp [Value.one1]) rfl rfl rfl (Nat.le_of_ble_eq_true rfl) ?_)
  refine sAs rfl rfl ?_
  refine sAs rfl rfl ?_
  refine send ?_
  refine eseq ?_
  refine HT.ret ?_
  refine rt_in ?_
  refine rt_then ?_
  exact fun a ha w' hw => fin_ ha (resc3 ha Tryz.results26 rfl (ld_ aggs_29 hw (j := 0) rfl rfl (vs := [(.slice none 0 0), (.slice none 0 0), (.slice none 0 0), (.slice none 0 0)]) rfl) rfl rfl) ⟨⟨none, 0, 0, []⟩, ⟨none, 0, 0, []⟩, ⟨none, 0, 0, []⟩, ⟨none, 0, 0, []⟩, true, rfl, hw.pres⟩

theorem geneve_s3 (w : World) (A : Option Addr) (n : Nat) (c : Nat) (bs : List UInt8) (N : Nat) (hn : n ≤ 2147483647) (ha : 8 ≤ n) (hb : nb bs 0 ≤ 61) (hc : n - 8 < 4 * nb bs 0) (hst : St w [] [] [Byt A n c bs] w) : Calls Tryz.prog 39 #[(.slice A n c)] w (fun e w' => e = .returned (.tuple #[(.agg #[(.slice none 0 0), (.slice none 0 0), (.slice none 0 0), (.slice none 0 0)]), (.bool false), (.bool true)]) ∧ Pres [] w w') := by
  have hnc00 : n ≤ c := (hst.fact (j := 0) rfl).2.1
  refine enter (vs := [(.slice A n c)]) Tryz.func39 rfl rfl rfl hst ?_
  refine HT.seq ?_
  refine HT.plain ?_
  refine sl_ (l_alloc (by decide) zero_29 fun b2 => ?_)
  refine sAs rfl rfl ?_
  refine sAs rfl rfl ?_
  refine send ?_
  refine eseq ?_
  refine HT.seq ?_
  refine HT.plain ?_
  refine sMv rfl rfl ?_
  refine sqS (q_index (i := 0) (j := 0) rfl rfl Tryz.underlying22 nagg_5 (fun _ h => h) rfl (by omega)) rfl ?_
  refine sqS (q_byte (i := 0) (j := 0) rfl nagg_5 (fun _ h => h) rfl (by omega)) rfl ?_
  refine sqS (q_and (p := nb bs 0) (q := 63) rfl rfl rfl (show nb bs 0 < 256 by have := nb_lt bs 0; omega) (by decide)) rfl ?_
  refine sqS (q_convn (p := (nb bs 0) &&& 63) rfl Tryz.underlying5 Tryz.underlying3 (show (nb bs 0) &&& 63 < 9223372036854775808 by have := nb_lt bs 0; have := zm63 (nb bs 0); have := Nat.and_le_left (n := nb bs 0) (m := 63); have := Nat.and_le_right (n := nb bs 0) (m := 63); omega)) rfl ?_
  refine sqS (q_mul (p := 4) (q := (nb bs 0) &&& 63) rfl rfl (show 4 * ((nb bs 0) &&& 63) < 9223372036854775808 by have := nb_lt bs 0; have := zm63 (nb bs 0); have := Nat.and_le_left (n := nb bs 0) (m := 63); have := Nat.and_le_right (n := nb bs 0) (m := 63); omega)) rfl ?_
  refine sAs rfl rfl ?_
  refine send ?_
  refine eseq ?_
  refine HT.seq ?_
  refine HT.seq ?_
  refine HT.plain ?_
  refine sMv rfl rfl ?_
  refine sqS (q_index (i := 0) (j := 0) rfl rfl Tryz.underlying22 nagg_5 (fun _ h => h) rfl (by omega)) rfl ?_
  refine sqS (q_byte (i := 0) (j := 0) rfl nagg_5 (fun _ h => h) rfl (by omega)) rfl ?_
  refine sqS (q_F (q_ge (p := nb bs 0) (q := 64) rfl rfl) (by have := nb_lt bs 0; omega)) rfl ?_
  refine sMv rfl rfl ?_
  refine sgqS rfl (q_move rfl) rfl ?_
  refine sgqS rfl (q_F (q_gt (p := 4 * ((nb bs 0) &&& 63)) (q := 244) rfl rfl) (by have := nb_lt bs 0; have := zm63 (nb bs 0); have := Nat.and_le_left (n := nb bs 0) (m := 63); have := Nat.and_le_right (n := nb bs 0) (m := 63); omega)) rfl ?_
  refine sqS (q_pick rfl (fun h => nomatch h) (fun _ => rfl)) rfl ?_
  refine send ?_
  refine eseq ?_
  refine HT.no rfl ?_
  refine HT.skip ?_
  refine eseq ?_
  refine HT.seq ?_
  refine HT.drawnS mixed (St.closed _ _ _ _) ?_
  refine dtake (f := 4) [0, 1, 2, 3, 4, 5, 6, 7, 8, 9, 10, 11, 12, 13, 14, 15, 16, 17, 18, 19] (by kernel_rfl) (St.closed _ _ _ _) (fun _ h => h) (by kernel_rfl) ?_
  refine dq rfl (q_move rfl) ?_
  refine dq rfl (q_convn (p := 4 * ((nb bs 0) &&& 63)) rfl Tryz.underlying3 Tryz.underlying39 (show 4 * ((nb bs 0) &&& 63) < 18446744073709551616 by have := nb_lt bs 0; have := zm63 (nb bs 0); have := Nat.and_le_left (n := nb bs 0) (m := 63); have := Nat.and_le_right (n := nb bs 0) (m := 63); omega)) ?_
  refine dq rfl (q_move rfl) ?_
  refine dq rfl (q_index (i := 1) (j := 0) rfl rfl Tryz.underlying22 nagg_5 (fun _ h => h) rfl (by omega)) ?_
  refine dq rfl (q_byte (i := 1) (j := 0) rfl nagg_5 (fun _ h => h) rfl (by omega)) ?_
  refine dq rfl (q_and (p := nb bs 1) (q := 128) rfl rfl rfl (show nb bs 1 < 256 by have := nb_lt bs 1; omega) (by decide)) ?_
  refine dq rfl (q_convn (p := (nb bs 1) &&& 128) rfl Tryz.underlying5 Tryz.underlying39 (show (nb bs 1) &&& 128 < 18446744073709551616 by have := nb_lt bs 1; have := zb128 (nb bs 1); have := Nat.and_le_left (n := nb bs 1) (m := 128); have := Nat.and_le_right (n := nb bs 1) (m := 128); omega)) ?_
  refine dq rfl (q_call (vs := [(.int .u64 (((nb bs 1) &&& 128 : Nat) : Int))]) (v := (.int .u64 ((bitN (decide (((nb bs 1) &&& 128) ≠ 0)) : Nat) : Int))) rfl ca_54 (fun w h => truthC w ((nb bs 1) &&& 128)  (St.enter (sp := []) (Kc := []) (bi := []) h rfl rfl rfl))) ?_
  refine dq rfl (q_move rfl) ?_
  refine dq rfl (q_index (i := 1) (j := 0) rfl rfl Tryz.underlying22 nagg_5 (fun _ h => h) rfl (by omega)) ?_
  refine dq rfl (q_byte (i := 1) (j := 0) rfl nagg_5 (fun _ h => h) rfl (by omega)) ?_
  refine dq rfl (q_and (p := nb bs 1) (q := 64) rfl rfl rfl (show nb bs 1 < 256 by have := nb_lt bs 1; omega) (by decide)) ?_
  refine dq rfl (q_convn (p := (nb bs 1) &&& 64) rfl Tryz.underlying5 Tryz.underlying39 (show (nb bs 1) &&& 64 < 18446744073709551616 by have := nb_lt bs 1; have := zb64 (nb bs 1); have := Nat.and_le_left (n := nb bs 1) (m := 64); have := Nat.and_le_right (n := nb bs 1) (m := 64); omega)) ?_
  refine dq rfl (q_call (vs := [(.int .u64 (((nb bs 1) &&& 64 : Nat) : Int))]) (v := (.int .u64 ((bitN (decide (((nb bs 1) &&& 64) ≠ 0)) : Nat) : Int))) rfl ca_54 (fun w h => truthC w ((nb bs 1) &&& 64)  (St.enter (sp := []) (Kc := []) (bi := []) h rfl rfl rfl))) ?_
  refine dq rfl (q_move rfl) ?_
  refine dq rfl (q_slice (lo := 2) (hi := 4) rfl Tryz.underlying22 nagg_5 (.inr ⟨_, _, rfl, rfl⟩) (.inr ⟨_, _, rfl, rfl⟩) (by omega) (by omega)) ?_
  refine dq rfl (q_call (vs := [(.slice (cutA A c 2) (4 - 2) (c - 2))]) (v := (.int .u64 ((bN bs 2 2 : Nat) : Int))) rfl ca_34 (fun w h => NumberC w A n c bs (lo := 2) (hi := 4) (h.fact (j := 0) rfl) (k := 2) rfl (by decide) (by omega) (by omega))) ?_
  refine dq rfl (q_move rfl) ?_
  refine dq rfl (q_slice (lo := 4) (hi := 7) rfl Tryz.underlying22 nagg_5 (.inr ⟨_, _, rfl, rfl⟩) (.inr ⟨_, _, rfl, rfl⟩) (by omega) (by omega)) ?_
  refine dq rfl (q_call (vs := [(.slice (cutA A c 4) (7 - 4) (c - 4))]) (v := (.int .u64 ((bN bs 4 3 : Nat) : Int))) rfl ca_34 (fun w h => NumberC w A n c bs (lo := 4) (hi := 7) (h.fact (j := 0) rfl) (k := 3) rfl (by decide) (by omega) (by omega))) ?_
  refine QL.nil ?_
  refine RG.step2 20 22 (by kernel_rfl) ?_ ?_
  · refine dop rfl (l_buildSlice (e := 39) (vs := [(0, (.int .u64 ((0 : Nat) : Int))), (1, (.int .u64 ((4 * ((nb bs 0) &&& 63) : Nat) : Int))), (2, (.int .u64 ((bitN (decide (((nb bs 1) &&& 128) ≠ 0)) : Nat) : Int))), (3, (.int .u64 ((bitN (decide (((nb bs 1) &&& 64) ≠ 0)) : Nat) : Int))), (4, (.int .u64 ((bN bs 2 2 : Nat) : Int))), (5, (.int .u64 ((bN bs 4 3 : Nat) : Int)))]) (cs := [(.int .u64 ((0 : Nat) : Int)), (.int .u64 ((4 * ((nb bs 0) &&& 63) : Nat) : Int)), (.int .u64 ((bitN (decide (((nb bs 1) &&& 128) ≠ 0)) : Nat) : Int)), (.int .u64 ((bitN (decide (((nb bs 1) &&& 64) ≠ 0)) : Nat) : Int)), (.int .u64 ((bN bs 2 2 : Nat) : Int)), (.int .u64 ((bN bs 4 3 : Nat) : Int))]) (by decide) rfl (fun _ => by kernel_rfl) fun b44 => ⟨(fun _ h => (h.wk [(0, [])] rfl)), ?_⟩)
    refine dtake (f := 2) [21] (by kernel_rfl) (St.closed _ _ _ _) (fun _ h => (h.wk [(0, [])] rfl)) (by kernel_rfl) ?_
    refine dq rfl (q_call (vs := [(.slice none 0 0), (.slice (some ⟨b44, 0, none⟩) 6 6)]) (v := (.agg #[(.slice (some ⟨b44, 0, none⟩) 6 6), (.slice none 0 0), (.slice none 0 0), (.slice none 0 0)])) rfl ca_33 (fun w h => layerC w none 0 0 (some ⟨b44, 0, none⟩) 6 6  (St.enter (sp := []) (Kc := []) (bi := []) h rfl rfl rfl))) ?_
    refine QL.nil ?_
    refine RG.step1 22 (by kernel_rfl) ?_
    refine dop rfl (l_alloc (by decide) zero_29 fun b6 => ⟨(fun _ h => (h.wk [(0, [])] rfl)), ?_⟩)
    refine RG.step1 23 (by kernel_rfl) ?_
    refine dop rfl (l_storeAgg (b := b6) (off := 0) (j := 2) (vs := [(.slice (some ⟨b44, 0, none⟩) 6 6), (.slice none 0 0), (.slice none 0 0), (.slice none 0 0)]) rfl rfl aggs_29 (by simp [Value.one1]) rfl rfl rfl (Nat.le_of_ble_eq_true rfl) ⟨(fun _ h => (h.wk [(0, [])] rfl)), ?_⟩)
    refine dend (by kernel_rfl) ?_
    refine eseq ?_
    refine HT.seq ?_
    refine HT.seq ?_
    refine HT.plain ?_
    refine sMv rfl rfl ?_
    refine sMv rfl rfl ?_
    refine sqS (q_len (len := n) rfl Tryz.underlying22) rfl ?_
    refine sqS (q_sub (p := n) (q := 8) rfl rfl (by omega) (show n < 9223372036854775808 by omega)) rfl ?_
    refine sqS (q_T (q_gt (p := 4 * ((nb bs 0) &&& 63)) (q := n - 8) rfl rfl) (by have := nb_lt bs 0; have := zm63 (nb bs 0); have := Nat.and_le_left (n := nb bs 0) (m := 63); have := Nat.and_le_right (n := nb bs 0) (m := 63); omega)) rfl ?_
    refine send ?_
    refine eseq ?_
    refine HT.yes rfl ?_
    refine HT.seq ?_
    refine HT.plain ?_
    refine sqS (q_build (vs := []) (v := (.agg #[(.slice none 0 0), (.slice none 0 0), (.slice none 0 0), (.slice none 0 0)])) rfl (fun _ => by kernel_rfl)) rfl ?_
    refine sl_ (l_storeAgg (b := b2) (off := 0) (j := 0) (vs := [(.slice none 0 0), (.slice none 0 0), (.slice none 0 0), (.slice none 0 0)]) rfl rfl aggs_29 (by simp [Value.one1]) rfl rfl rfl (Nat.le_of_ble_eq_true rfl) ?_)
    refine sAs rfl rfl ?_
    refine sAs rfl rfl ?_
    refine send ?_
    refine eseq ?_
    refine HT.ret ?_
    refine rt_then ?_
    exact fun a ha w' hw => fin_ ha (resc3 ha Tryz.results39 rfl (ld_ aggs_29 hw (j := 0) rfl rfl (vs := [(.slice none 0 0), (.slice none 0 0), (.slice none 0 0), (.slice none 0 0)]) rfl) rfl rfl) ⟨rfl, hw.pres⟩
  · refine dop rfl (l_alloc (by decide) zero_29 fun b6 => ⟨(fun _ h => (h.wk [(0, [])] rfl)), ?_⟩)
    refine RG.step1 20 (by kernel_rfl) ?_
    refine dop rfl (l_buildSlice (e := 39) (vs := [(0, (.int .u64 ((0 : Nat) : Int))), (1, (.int .u64 ((4 * ((nb bs 0) &&& 63) : Nat) : Int))), (2, (.int .u64 ((bitN (decide (((nb bs 1) &&& 128) ≠ 0)) : Nat) : Int))), (3, (.int .u64 ((bitN (decide (((nb bs 1) &&& 64) ≠ 0)) : Nat) : Int))), (4, (.int .u64 ((bN bs 2 2 : Nat) : Int))), (5, (.int .u64 ((bN bs 4 3 : Nat) : Int)))]) (cs := [(.int .u64 ((0 : Nat) : Int)), (.int .u64 ((4 * ((nb bs 0) &&& 63) : Nat) : Int)), (.int .u64 ((bitN (decide (((nb bs 1) &&& 128) ≠ 0)) : Nat) : Int)), (.int .u64 ((bitN (decide (((nb bs 1) &&& 64) ≠ 0)) : Nat) : Int)), (.int .u64 ((bN bs 2 2 : Nat) : Int)), (.int .u64 ((bN bs 4 3 : Nat) : Int))]) (by decide) rfl (fun _ => by kernel_rfl) fun b44 => ⟨(fun _ h => (h.wk [(0, [])] rfl)), ?_⟩)
    refine dtake (f := 1) [21] (by kernel_rfl) (St.closed _ _ _ _) (fun _ h => (h.wk [(0, [])] rfl)) (by kernel_rfl) ?_
    refine dq rfl (q_call (vs := [(.slice none 0 0), (.slice (some ⟨b44, 0, none⟩) 6 6)]) (v := (.agg #[(.slice (some ⟨b44, 0, none⟩) 6 6), (.slice none 0 0), (.slice none 0 0), (.slice none 0 0)])) rfl ca_33 (fun w h => layerC w none 0 0 (some ⟨b44, 0, none⟩) 6 6  (St.enter (sp := []) (Kc := []) (bi := []) h rfl rfl rfl))) ?_
    refine QL.nil ?_
    refine RG.step1 23 (by kernel_rfl) ?_
    refine dop rfl (l_storeAgg (b := b6) (off := 0) (j := 1) (vs := [(.slice (some ⟨b44, 0, none⟩) 6 6), (.slice none 0 0), (.slice none 0 0), (.slice none 0 0)]) rfl rfl aggs_29 (by simp [Value.one1]) rfl rfl rfl (Nat.le_of_ble_eq_true rfl) ⟨(fun _ h => (h.wk [(0, [])] rfl)), ?_⟩)
    refine dend (by kernel_rfl) ?_
    refine eseq ?_
    refine HT.seq ?_
    refine HT.seq ?_
    refine HT.plain ?_
    refine sMv rfl rfl ?_
    refine sMv rfl rfl ?_
    refine sqS (q_len (len := n) rfl Tryz.underlying22) rfl ?_
    refine sqS (q_sub (p := n) (q := 8) rfl rfl (by omega) (show n < 9223372036854775808 by omega)) rfl ?_
    refine sqS (q_T (q_gt (p := 4 * ((nb bs 0) &&& 63)) (q := n - 8) rfl rfl) (by have := nb_lt bs 0; have := zm63 (nb bs 0); have := Nat.and_le_left (n := nb bs 0) (m := 63); have := Nat.and_le_right (n := nb bs 0) (m := 63); omega)) rfl ?_
    refine send ?_
    refine eseq ?_
    refine HT.yes rfl ?_
    refine HT.seq ?_
    refine HT.plain ?_
    refine sqS (q_build (vs := []) (v := (.agg #[(.slice none 0 0), (.slice none 0 0), (.slice none 0 0), (.slice none 0 0)])) rfl (fun _ => by kernel_rfl)) rfl ?_
    refine sl_ (l_storeAgg (b := b2) (off := 0) (j := 0) (vs := [(.slice none 0 0), (.slice none 0 0), (.slice none 0 0), (.slice none 0 0)]) rfl rfl aggs_29 (by simp [Value.one1]) rfl rfl rfl (Nat.le_of_ble_eq_true rfl) ?_)
    refine sAs rfl rfl ?_
    refine sAs rfl rfl ?_
    refine send ?_
    refine eseq ?_
    refine HT.ret ?_
    refine rt_then ?_
    exact fun a ha w' hw => fin_ ha (resc3 ha Tryz.results39 rfl (ld_ aggs_29 hw (j := 0) rfl rfl (vs := [(.slice none 0 0), (.slice none 0 0), (.slice none 0 0), (.slice none 0 0)]) rfl) rfl rfl) ⟨rfl, hw.pres⟩

theorem geneve_S3 (w : World) (A : Option Addr) (n : Nat) (c : Nat) (bs : List UInt8) (N : Nat) (hn : n ≤ 2147483647) (ha : 8 ≤ n) (hb : nb bs 0 ≤ 61) (hc : n - 8 < 4 * nb bs 0) (hst : St w [] [] [Byt A n c bs] w) : Calls Tryz.prog 26 #[(.string ⟨#[103, 101, 110, 101, 118, 101]⟩), (.slice A n c)] w (SP w (Byt A n c bs) (some none)) := by
  have hnc00 : n ≤ c := (hst.fact (j := 0) rfl).2.1
  refine enter (vs := [(.string ⟨#[103, 101, 110, 101, 118, 101]⟩), (.slice A n c)]) Tryz.func26 rfl rfl rfl hst ?_
  refine HT.seq ?_
  refine HT.plain ?_
  refine sl_ (l_alloc (by decide) zero_29 fun b4 => ?_)
  refine sAs rfl rfl ?_
  refine sAs rfl rfl ?_
  refine send ?_
  refine eseq ?_
  refine HT.seq ?_
  refine HT.plain ?_
  refine sl_ (l_makeMap (by decide) fun b13 => ?_)
  refine sl_ (l_insert (es := es0) (ck := 0) rfl rfl rfl Tryz.underlying36 Tryz.underlying9 fi0 ?_)
  refine sl_ (l_insert (es := es1) (ck := 1) rfl rfl rfl Tryz.underlying36 Tryz.underlying9 fi1 ?_)
  refine sl_ (l_insert (es := es2) (ck := 2) rfl rfl rfl Tryz.underlying36 Tryz.underlying9 fi2 ?_)
  refine sl_ (l_insert (es := es3) (ck := 3) rfl rfl rfl Tryz.underlying36 Tryz.underlying9 fi3 ?_)
  refine sl_ (l_insert (es := es4) (ck := 4) rfl rfl rfl Tryz.underlying36 Tryz.underlying9 fi4 ?_)
  refine sl_ (l_insert (es := es5) (ck := 5) rfl rfl rfl Tryz.underlying36 Tryz.underlying9 fi5 ?_)
  refine sl_ (l_insert (es := es6) (ck := 6) rfl rfl rfl Tryz.underlying36 Tryz.underlying9 fi6 ?_)
  refine sl_ (l_insert (es := es7) (ck := 7) rfl rfl rfl Tryz.underlying36 Tryz.underlying9 fi7 ?_)
  refine sl_ (l_insert (es := es8) (ck := 8) rfl rfl rfl Tryz.underlying36 Tryz.underlying9 fi8 ?_)
  refine sl_ (l_insert (es := es9) (ck := 9) rfl rfl rfl Tryz.underlying36 Tryz.underlying9 fi9 ?_)
  refine sl_ (l_insert (es := es10) (ck := 10) rfl rfl rfl Tryz.underlying36 Tryz.underlying9 fi10 ?_)
  refine sl_ (l_insert (es := es11) (ck := 11) rfl rfl rfl Tryz.underlying36 Tryz.underlying9 fi11 ?_)
  refine sl_ (l_insert (es := es12) (ck := 12) rfl rfl rfl Tryz.underlying36 Tryz.underlying9 fi12 ?_)
  refine sl_ (l_insert (es := es13) (ck := 13) rfl rfl rfl Tryz.underlying36 Tryz.underlying9 fi13 ?_)
  refine sl_ (l_insert (es := es14) (ck := 14) rfl rfl rfl Tryz.underlying36 Tryz.underlying9 fi14 ?_)
  refine sl_ (l_insert (es := es15) (ck := 15) rfl rfl rfl Tryz.underlying36 Tryz.underlying9 fi15 ?_)
  refine sl_ (l_insert (es := es16) (ck := 16) rfl rfl rfl Tryz.underlying36 Tryz.underlying9 fi16 ?_)
  refine sl_ (l_insert (es := es17) (ck := 17) rfl rfl rfl Tryz.underlying36 Tryz.underlying9 fi17 ?_)
  refine sl_ (l_insert (es := es18) (ck := 18) rfl rfl rfl Tryz.underlying36 Tryz.underlying9 fi18 ?_)
  refine sl_ (l_insert (es := es19) (ck := 19) rfl rfl rfl Tryz.underlying36 Tryz.underlying9 fi19 ?_)
  refine sl_ (l_insert (es := es20) (ck := 20) rfl rfl rfl Tryz.underlying36 Tryz.underlying9 fi20 ?_)
  refine sq (SM.closed) (q_move rfl) rfl ?_
  refine sq (SM.closed) (q_move rfl) rfl ?_
  refine sq (SM.closed) (q_lookup (es := es21) (i := 10) (v := (.int .i64 ((8 : Nat) : Int))) (fun _ h => h) rfl rfl Tryz.underlying36 Tryz.underlying9 (by kernel_rfl)) rfl ?_
  refine sq (SM.closed) (q_assign rfl) rfl ?_
  refine send ?_
  refine eseq ?_
  refine HT.unmap ?_
  refine HT.seq ?_
  refine HT.seq ?_
  refine HT.plain ?_
  refine sMv rfl rfl ?_
  refine sqS (q_len (len := n) rfl Tryz.underlying22) rfl ?_
  refine sMv rfl rfl ?_
  refine sqS (q_F (q_lt (p := n) (q := 8) rfl rfl) (by omega)) rfl ?_
  refine send ?_
  refine eseq ?_
  refine HT.no rfl ?_
  refine HT.skip ?_
  refine eseq ?_
  refine HT.seq ?_
  refine HT.seq ?_
  refine HT.plain ?_
  refine sMv rfl rfl ?_
  refine send ?_
  refine eseq ?_
  refine HT.block ?_
  refine HT.seq ?_
  refine HT.plain ?_
  refine sqS (q_eqs rfl rfl (r := false) (by kernel_rfl)) rfl ?_
  refine sAs rfl rfl ?_
  refine send ?_
  refine eseq ?_
  refine HT.no rfl ?_
  refine HT.seq ?_
  refine HT.plain ?_
  refine sqS (q_eqs rfl rfl (r := false) (by kernel_rfl)) rfl ?_
  refine sAs rfl rfl ?_
  refine send ?_
  refine eseq ?_
  refine HT.no rfl ?_
  refine HT.seq ?_
  refine HT.plain ?_
  refine sqS (q_eqs rfl rfl (r := false) (by kernel_rfl)) rfl ?_
  refine sAs rfl rfl ?_
  refine send ?_
  refine eseq ?_
  refine HT.no rfl ?_
  refine HT.seq ?_
  refine HT.plain ?_
  refine sqS (q_eqs rfl rfl (r := false) (by kernel_rfl)) rfl ?_
  refine sAs rfl rfl ?_
  refine send ?_
  refine eseq ?_
  refine HT.no rfl ?_
  refine HT.seq ?_
  refine HT.plain ?_
  refine sqS (q_eqs rfl rfl (r := false) (by kernel_rfl)) rfl ?_
  refine sAs rfl rfl ?_
  refine send ?_
  refine eseq ?_
  refine HT.no rfl ?_
  refine HT.seq ?_
  refine HT.plain ?_
  refine sqS (q_eqs rfl rfl (r := false) (by kernel_rfl)) rfl ?_
  refine sAs rfl rfl ?_
  refine send ?_
  refine eseq ?_
  refine HT.no rfl ?_
  refine HT.seq ?_
  refine HT.plain ?_
  refine sqS (q_eqs rfl rfl (r := false) (by kernel_rfl)) rfl ?_
  refine sAs rfl rfl ?_
  refine send ?_
  refine eseq ?_
  refine HT.no rfl ?_
  refine HT.seq ?_
  refine HT.plain ?_
  refine sqS (q_eqs rfl rfl (r := false) (by kernel_rfl)) rfl ?_
  refine sAs rfl rfl ?_
  refine send ?_
  refine eseq ?_
  refine HT.no rfl ?_
  refine HT.seq ?_
  refine HT.plain ?_
  refine sqS (q_eqs rfl rfl (r := false) (by kernel_rfl)) rfl ?_
  refine sAs rfl rfl ?_
  refine send ?_
  refine eseq ?_
  refine HT.no rfl ?_
  refine HT.seq ?_
  refine HT.plain ?_
  refine sqS (q_eqs rfl rfl (r := false) (by kernel_rfl)) rfl ?_
  refine sAs rfl rfl ?_
  refine send ?_
  refine eseq ?_
  refine HT.no rfl ?_
  refine HT.seq ?_
  refine HT.plain ?_
  refine sqS (q_eqs rfl rfl (r := true) (by kernel_rfl)) rfl ?_
  refine sAs rfl rfl ?_
  refine send ?_
  refine eseq ?_
  refine HT.yes rfl ?_
  refine HT.seq ?_
  refine HT.plain ?_
  refine sMv rfl rfl ?_
  refine sqS (q_call (vs := [(.slice A n c)]) (v := (.tuple #[(.agg #[(.slice none 0 0), (.slice none 0 0), (.slice none 0 0), (.slice none 0 0)]), (.bool false), (.bool true)])) rfl ca_39 (fun w h => geneve_s3 w A n c bs N (by omega) (by omega) (by omega) (by omega) (St.enter (sp := []) (Kc := []) (bi := [0]) h rfl rfl rfl))) rfl ?_
  refine sqS (q_extract (vs := [(.agg #[(.slice none 0 0), (.slice none 0 0), (.slice none 0 0), (.slice none 0 0)]), (.bool false), (.bool true)]) (i := 0) rfl rfl) rfl ?_
  refine sqS (q_extract (vs := [(.agg #[(.slice none 0 0), (.slice none 0 0), (.slice none 0 0), (.slice none 0 0)]), (.bool false), (.bool true)]) (i := 1) rfl rfl) rfl ?_
  refine sqS (q_extract (vs := [(.agg #[(.slice none 0 0), (.slice none 0 0), (.slice none 0 0), (.slice none 0 0)]), (.bool false), (.bool true)]) (i := 2) rfl rfl) rfl ?_
  refine sl_ (l_storeAgg (b := b4) (off := 0) (j := 0) (vs := [(.slice none 0 0), (.slice none 0 0), (.slice none 0 0), (.slice none 0 0)]) rfl rfl aggs_29 (by simp [Value.one1]) rfl rfl rfl (Nat.le_of_ble_eq_true rfl) ?_)
  refine sAs rfl rfl ?_
  refine sAs rfl rfl ?_
  refine send ?_
  refine eseq ?_
  refine HT.ret ?_
  refine rt_in ?_
  refine rt_then ?_
  exact fun a ha w' hw => fin_ ha (resc3 ha Tryz.results26 rfl (ld_ aggs_29 hw (j := 0) rfl rfl (vs := [(.slice none 0 0), (.slice none 0 0), (.slice none 0 0), (.slice none 0 0)]) rfl) rfl rfl) ⟨rfl, hw.pres⟩

abbrev geneve_s6_k0 (b44 : Nat) (bs : List UInt8) : Kb := ⟨b44, 39, [some (.int .u64 ((0 : Nat) : Int)), some (.int .u64 ((4 * (nb bs 0) : Nat) : Int)), some (.int .u64 ((bitN (decide (((nb bs 1) &&& 128) ≠ 0)) : Nat) : Int)), some (.int .u64 ((bitN (decide (((nb bs 1) &&& 64) ≠ 0)) : Nat) : Int)), some (.int .u64 ((bN bs 2 2 : Nat) : Int)), some (.int .u64 ((bN bs 4 3 : Nat) : Int))], true⟩
abbrev geneve_s6_k1 (b94 : Nat) (bs : List UInt8) (i : Nat) : Kb := ⟨b94, 39, [some (.int .u64 ((bN bs (vof bs i) 2 : Nat) : Int)), some (.int .u64 ((nb bs ((vof bs i) + 2) : Nat) : Int)), some (.int .u64 (((nb bs ((vof bs i) + 3)) / 16 : Nat) : Int)), some (.int .u64 ((4 + (4 * ((nb bs ((vof bs i) + 3)) &&& 31)) : Nat) : Int))], true⟩
abbrev geneve_s6_k2 (b2 : Nat) : Kb := ⟨b2, 29, [some (.slice none 0 0), some (.slice none 0 0), some (.slice none 0 0), some (.slice none 0 0)], true⟩
abbrev geneve_s6_k3 (b99 : Nat) (b94 : Nat) (Ai : Option Addr) (ci : Nat) (bs : List UInt8) (i : Nat) : Kb := ⟨b99, 49, [some (.slice (some ⟨b94, 0, none⟩) 4 4), some (.slice (cutA Ai ci 4) ((4 + (4 * ((nb bs ((vof bs i) + 3)) &&& 31))) - 4) (ci - 4))], true⟩
abbrev geneve_s6_k4 (b6 : Nat) (b44 : Nat) (v : Value) : Kb := ⟨b6, 29, [some (.slice (some ⟨b44, 0, none⟩) 6 6), some (.slice none 0 0), some v, some (.slice none 0 0)], true⟩
abbrev geneve_s6_k5 (b6 : Nat) (b44 : Nat) (v100 : Value) : Kb := ⟨b6, 29, [some (.slice (some ⟨b44, 0, none⟩) 6 6), some (.slice none 0 0), some v100, some (.slice none 0 0)], true⟩

theorem geneve_s6 (w : World) (A : Option Addr) (n : Nat) (c : Nat) (bs : List UInt8) (N : Nat) (hn : n ≤ 2147483647) (ha : 8 ≤ n) (hb : nb bs 0 ≤ 61) (hc : 4 * nb bs 0 ≤ n - 8) (hd : ∀ i, i < N → vof bs i < 8 + 4 * nb bs 0 ∧ vof bs (i + 1) ≤ 8 + 4 * nb bs 0 ∧ nb bs (vof bs i + 3) / 16 % 2 = 0) (he : vof bs N = 8 + 4 * nb bs 0) (hst : St w [] [] [Byt A n c bs] w) : Calls Tryz.prog 39 #[(.slice A n c)] w (SP w (Byt A n c bs) (some (some ⟨[0, 4 * (nb bs 0), bitN (decide (((nb bs 1) &&& 128) ≠ 0)), bitN (decide (((nb bs 1) &&& 64) ≠ 0)), bN bs 2 2, bN bs 4 3], [], ((List.range N).map (fun j => ([bN bs (vof bs j) 2, nb bs (vof bs j + 2), nb bs (vof bs j + 3) / 16, 4 + 4 * (nb bs (vof bs j + 3) % 16)], sl bs (vof bs j + 4) (vof bs (j + 1))))), sl bs (8 + (4 * (nb bs 0))) n⟩))) := by
  have hnc00 : n ≤ c := (hst.fact (j := 0) rfl).2.1
  refine enter (vs := [(.slice A n c)]) Tryz.func39 rfl rfl rfl hst ?_
  refine HT.seq ?_
  refine HT.plain ?_
  refine sl_ (l_alloc (by decide) zero_29 fun b2 => ?_)
  refine sAs rfl rfl ?_
  refine sAs rfl rfl ?_
  refine send ?_
  refine eseq ?_
  refine HT.seq ?_
  refine HT.plain ?_
  refine sMv rfl rfl ?_
  refine sqS (q_index (i := 0) (j := 0) rfl rfl Tryz.underlying22 nagg_5 (fun _ h => h) rfl (by omega)) rfl ?_
  refine sqS (q_byte (i := 0) (j := 0) rfl nagg_5 (fun _ h => h) rfl (by omega)) rfl ?_
  refine sqS (q_N (q_and (p := nb bs 0) (q := 63) rfl rfl rfl (show nb bs 0 < 256 by have := nb_lt bs 0; omega) (by decide)) (a := (nb bs 0) &&& 63) (b := nb bs 0) (by have := zm63 (nb bs 0); omega)) rfl ?_
  refine sqS (q_convn (p := nb bs 0) rfl Tryz.underlying5 Tryz.underlying3 (show nb bs 0 < 9223372036854775808 by have := nb_lt bs 0; omega)) rfl ?_
  refine sqS (q_mul (p := 4) (q := nb bs 0) rfl rfl (show 4 * (nb bs 0) < 9223372036854775808 by have := nb_lt bs 0; omega)) rfl ?_
  refine sAs rfl rfl ?_
  refine send ?_
  refine eseq ?_
  refine HT.seq ?_
  refine HT.seq ?_
  refine HT.plain ?_
  refine sMv rfl rfl ?_
  refine sqS (q_index (i := 0) (j := 0) rfl rfl Tryz.underlying22 nagg_5 (fun _ h => h) rfl (by omega)) rfl ?_
  refine sqS (q_byte (i := 0) (j := 0) rfl nagg_5 (fun _ h => h) rfl (by omega)) rfl ?_
  refine sqS (q_F (q_ge (p := nb bs 0) (q := 64) rfl rfl) (by have := nb_lt bs 0; omega)) rfl ?_
  refine sMv rfl rfl ?_
  refine sgqS rfl (q_move rfl) rfl ?_
  refine sgqS rfl (q_F (q_gt (p := 4 * (nb bs 0)) (q := 244) rfl rfl) (by have := nb_lt bs 0; omega)) rfl ?_
  refine sqS (q_pick rfl (fun h => nomatch h) (fun _ => rfl)) rfl ?_
  refine send ?_
  refine eseq ?_
  refine HT.no rfl ?_
  refine HT.skip ?_
  refine eseq ?_
  refine HT.seq ?_
  refine HT.drawnS mixed (St.closed _ _ _ _) ?_
  refine dtake (f := 4) [0, 1, 2, 3, 4, 5, 6, 7, 8, 9, 10, 11, 12, 13, 14, 15, 16, 17, 18, 19] (by kernel_rfl) (St.closed _ _ _ _) (fun _ h => h) (by kernel_rfl) ?_
  refine dq rfl (q_move rfl) ?_
  refine dq rfl (q_convn (p := 4 * (nb bs 0)) rfl Tryz.underlying3 Tryz.underlying39 (show 4 * (nb bs 0) < 18446744073709551616 by have := nb_lt bs 0; omega)) ?_
  refine dq rfl (q_move rfl) ?_
  refine dq rfl (q_index (i := 1) (j := 0) rfl rfl Tryz.underlying22 nagg_5 (fun _ h => h) rfl (by omega)) ?_
  refine dq rfl (q_byte (i := 1) (j := 0) rfl nagg_5 (fun _ h => h) rfl (by omega)) ?_
  refine dq rfl (q_and (p := nb bs 1) (q := 128) rfl rfl rfl (show nb bs 1 < 256 by have := nb_lt bs 1; omega) (by decide)) ?_
  refine dq rfl (q_convn (p := (nb bs 1) &&& 128) rfl Tryz.underlying5 Tryz.underlying39 (show (nb bs 1) &&& 128 < 18446744073709551616 by have := nb_lt bs 1; have := zb128 (nb bs 1); have := Nat.and_le_left (n := nb bs 1) (m := 128); have := Nat.and_le_right (n := nb bs 1) (m := 128); omega)) ?_
  refine dq rfl (q_call (vs := [(.int .u64 (((nb bs 1) &&& 128 : Nat) : Int))]) (v := (.int .u64 ((bitN (decide (((nb bs 1) &&& 128) ≠ 0)) : Nat) : Int))) rfl ca_54 (fun w h => truthC w ((nb bs 1) &&& 128)  (St.enter (sp := []) (Kc := []) (bi := []) h rfl rfl rfl))) ?_
  refine dq rfl (q_move rfl) ?_
  refine dq rfl (q_index (i := 1) (j := 0) rfl rfl Tryz.underlying22 nagg_5 (fun _ h => h) rfl (by omega)) ?_
  refine dq rfl (q_byte (i := 1) (j := 0) rfl nagg_5 (fun _ h => h) rfl (by omega)) ?_
  refine dq rfl (q_and (p := nb bs 1) (q := 64) rfl rfl rfl (show nb bs 1 < 256 by have := nb_lt bs 1; omega) (by decide)) ?_
  refine dq rfl (q_convn (p := (nb bs 1) &&& 64) rfl Tryz.underlying5 Tryz.underlying39 (show (nb bs 1) &&& 64 < 18446744073709551616 by have := nb_lt bs 1; have := zb64 (nb bs 1); have := Nat.and_le_left (n := nb bs 1) (m := 64); have := Nat.and_le_right (n := nb bs 1) (m := 64); omega)) ?_
  refine dq rfl (q_call (vs := [(.int .u64 (((nb bs 1) &&& 64 : Nat) : Int))]) (v := (.int .u64 ((bitN (decide (((nb bs 1) &&& 64) ≠ 0)) : Nat) : Int))) rfl ca_54 (fun w h => truthC w ((nb bs 1) &&& 64)  (St.enter (sp := []) (Kc := []) (bi := []) h rfl rfl rfl))) ?_
  refine dq rfl (q_move rfl) ?_
  refine dq rfl (q_slice (lo := 2) (hi := 4) rfl Tryz.underlying22 nagg_5 (.inr ⟨_, _, rfl, rfl⟩) (.inr ⟨_, _, rfl, rfl⟩) (by omega) (by omega)) ?_
  refine dq rfl (q_call (vs := [(.slice (cutA A c 2) (4 - 2) (c - 2))]) (v := (.int .u64 ((bN bs 2 2 : Nat) : Int))) rfl ca_34 (fun w h => NumberC w A n c bs (lo := 2) (hi := 4) (h.fact (j := 0) rfl) (k := 2) rfl (by decide) (by omega) (by omega))) ?_
  refine dq rfl (q_move rfl) ?_
  refine dq rfl (q_slice (lo := 4) (hi := 7) rfl Tryz.underlying22 nagg_5 (.inr ⟨_, _, rfl, rfl⟩) (.inr ⟨_, _, rfl, rfl⟩) (by omega) (by omega)) ?_
  refine dq rfl (q_call (vs := [(.slice (cutA A c 4) (7 - 4) (c - 4))]) (v := (.int .u64 ((bN bs 4 3 : Nat) : Int))) rfl ca_34 (fun w h => NumberC w A n c bs (lo := 4) (hi := 7) (h.fact (j := 0) rfl) (k := 3) rfl (by decide) (by omega) (by omega))) ?_
  refine QL.nil ?_
  refine RG.step2 20 22 (by kernel_rfl) ?_ ?_
  · refine dop rfl (l_buildSlice (e := 39) (vs := [(0, (.int .u64 ((0 : Nat) : Int))), (1, (.int .u64 ((4 * (nb bs 0) : Nat) : Int))), (2, (.int .u64 ((bitN (decide (((nb bs 1) &&& 128) ≠ 0)) : Nat) : Int))), (3, (.int .u64 ((bitN (decide (((nb bs 1) &&& 64) ≠ 0)) : Nat) : Int))), (4, (.int .u64 ((bN bs 2 2 : Nat) : Int))), (5, (.int .u64 ((bN bs 4 3 : Nat) : Int)))]) (cs := [(.int .u64 ((0 : Nat) : Int)), (.int .u64 ((4 * (nb bs 0) : Nat) : Int)), (.int .u64 ((bitN (decide (((nb bs 1) &&& 128) ≠ 0)) : Nat) : Int)), (.int .u64 ((bitN (decide (((nb bs 1) &&& 64) ≠ 0)) : Nat) : Int)), (.int .u64 ((bN bs 2 2 : Nat) : Int)), (.int .u64 ((bN bs 4 3 : Nat) : Int))]) (by decide) rfl (fun _ => by kernel_rfl) fun b44 => ⟨(fun _ h => (h.wk [(0, [])] rfl)), ?_⟩)
    refine dtake (f := 2) [21] (by kernel_rfl) (St.closed _ _ _ _) (fun _ h => (h.wk [(0, [])] rfl)) (by kernel_rfl) ?_
    refine dq rfl (q_call (vs := [(.slice none 0 0), (.slice (some ⟨b44, 0, none⟩) 6 6)]) (v := (.agg #[(.slice (some ⟨b44, 0, none⟩) 6 6), (.slice none 0 0), (.slice none 0 0), (.slice none 0 0)])) rfl ca_33 (fun w h => layerC w none 0 0 (some ⟨b44, 0, none⟩) 6 6  (St.enter (sp := []) (Kc := []) (bi := []) h rfl rfl rfl))) ?_
    refine QL.nil ?_
    refine RG.step1 22 (by kernel_rfl) ?_
    refine dop rfl (l_alloc (by decide) zero_29 fun b6 => ⟨(fun _ h => (h.wk [(0, [])] rfl)), ?_⟩)
    refine RG.step1 23 (by kernel_rfl) ?_
    refine dop rfl (l_storeAgg (b := b6) (off := 0) (j := 2) (vs := [(.slice (some ⟨b44, 0, none⟩) 6 6), (.slice none 0 0), (.slice none 0 0), (.slice none 0 0)]) rfl rfl aggs_29 (by simp [Value.one1]) rfl rfl rfl (Nat.le_of_ble_eq_true rfl) ⟨(fun _ h => (h.wk [(0, [])] rfl)), ?_⟩)
    refine dend (by kernel_rfl) ?_
    refine eseq ?_
    refine HT.seq ?_
    refine HT.seq ?_
    refine HT.plain ?_
    refine sMv rfl rfl ?_
    refine sMv rfl rfl ?_
    refine sqS (q_len (len := n) rfl Tryz.underlying22) rfl ?_
    refine sqS (q_sub (p := n) (q := 8) rfl rfl (by omega) (show n < 9223372036854775808 by omega)) rfl ?_
    refine sqS (q_F (q_gt (p := 4 * (nb bs 0)) (q := n - 8) rfl rfl) (by have := nb_lt bs 0; omega)) rfl ?_
    refine send ?_
    refine eseq ?_
    refine HT.no rfl ?_
    refine HT.skip ?_
    refine eseq ?_
    refine HT.seq ?_
    refine HT.plain ?_
    refine sMv rfl rfl ?_
    refine sMv rfl rfl ?_
    refine sqS (q_add (p := 8) (q := 4 * (nb bs 0)) rfl rfl (show 8 + (4 * (nb bs 0)) < 9223372036854775808 by have := nb_lt bs 0; omega)) rfl ?_
    refine sqS (q_slice (lo := 8) (hi := 8 + (4 * (nb bs 0))) rfl Tryz.underlying22 nagg_5 (.inr ⟨_, _, rfl, rfl⟩) (.inr ⟨_, _, rfl, rfl⟩) (by have := nb_lt bs 0; omega) (by have := nb_lt bs 0; omega)) rfl ?_
    refine sAs rfl rfl ?_
    refine send ?_
    refine eseq ?_
    refine HT.seq ?_
    refine HT.block ?_
    refine HT.loop (ι := {p : Nat × Option Addr × Nat × Value × List Kb × List (NI × BI) // PSt w.heap.size (Byt A n c bs) (fun j => ([bN bs (vof bs j) 2, nb bs (vof bs j + 2), nb bs (vof bs j + 3) / 16, 4 + 4 * (nb bs (vof bs j + 3) % 16)], sl bs (vof bs j + 4) (vof bs (j + 1)))) (fun j => vof bs j) (8 + (4 * (nb bs 0))) bs N p.1 p.2.1 p.2.2.1 p.2.2.2.1 p.2.2.2.2.1 p.2.2.2.2.2}) (fun p => [(0, (.slice A n c)), (2, (.pointer (some ⟨b2, 0, none⟩))), (5, (.int .i64 ((4 * (nb bs 0) : Nat) : Int))), (6, (.pointer (some ⟨b6, 0, none⟩))), (7, (.slice p.1.2.1 (8 + (4 * (nb bs 0)) - (vof bs p.1.1)) p.1.2.2.1))]) (fun p => St w [] ([(geneve_s6_k2 b2), (geneve_s6_k0 b44 bs), ⟨b6, 29, [some (.slice (some ⟨b44, 0, none⟩) 6 6), some (.slice none 0 0), some p.1.2.2.2.1, some (.slice none 0 0)], true⟩] ++ p.1.2.2.2.2.1) [Byt A n c bs, Byt p.1.2.1 (8 + (4 * (nb bs 0)) - (vof bs p.1.1)) p.1.2.2.1 (sl bs (vof bs p.1.1) (8 + (4 * (nb bs 0)))), psF p.1.2.2.2.2.2]) (fun p => N - p.1.1) ⟨(0, cutA A c 8, c - 8, .slice none 0 0, [], []), PSt.nil (fun x hx => Byt.cut_fp (lo := 8) (hi := 8 + (4 * (nb bs 0))) hx.1 hx) (show 8 + (4 * (nb bs 0)) - 8 ≤ c - 8 by omega)⟩ ⟨rfl, rfl, rfl, rfl, rfl, trivial⟩ (fun _ h => psF_nil (B := [Byt A n c bs, Byt (cutA A c 8) (8 + (4 * (nb bs 0)) - 8) (c - 8) (sl bs 8 (8 + (4 * (nb bs 0))))]) (h.cut (j := 0) (lo := 8) (hi := 8 + (4 * (nb bs 0))) rfl (by omega) (by omega))) fun ⟨⟨i, Ai, ci, v, Kr, ps⟩, hp⟩ => ?_
    replace hp : PSt w.heap.size (Byt A n c bs) (fun j => ([bN bs (vof bs j) 2, nb bs (vof bs j + 2), nb bs (vof bs j + 3) / 16, 4 + 4 * (nb bs (vof bs j + 3) % 16)], sl bs (vof bs j + 4) (vof bs (j + 1)))) (fun j => vof bs j) (8 + (4 * (nb bs 0))) bs N i Ai ci v Kr ps := hp
    have hil : i ≤ N := hp.le
    have hr : RowS 49 2 i (psV ps) v Kr := hp.row
    have hcp : 8 + (4 * (nb bs 0)) - vof bs i ≤ ci := hp.cap
    have ho := vof_succ bs i
    have hge := vof_ge bs i
    have hmo := vof_mod bs i
    have hmo2 := vof_mod bs (i + 1)
    have hma := vof_many bs i
    have h256 := nb_lt bs (vof bs i + 3)
    have hal := vof_le (e := 8 + 4 * nb bs 0) (by omega) (fun j hj => (hd j hj).2.1) i (by omega)
    have hc := hd i
    have hz : i = N → vof bs i = 8 + 4 * nb bs 0 := fun e => by rw [e]; exact he
    have hz31 := zm31 (nb bs (vof bs i + 3))
    have hzb := zb16 (nb bs (vof bs i + 3))
    show HT _ _ _ [(0, (.slice A n c)), (2, (.pointer (some ⟨b2, 0, none⟩))), (5, (.int .i64 ((4 * (nb bs 0) : Nat) : Int))), (6, (.pointer (some ⟨b6, 0, none⟩))), (7, (.slice Ai ((8 + (4 * (nb bs 0))) - (vof bs i)) ci))] (St w [] ([(geneve_s6_k2 b2), (geneve_s6_k0 b44 bs), (geneve_s6_k4 b6 b44 v)] ++ Kr) [Byt A n c bs, Byt Ai ((8 + (4 * (nb bs 0))) - (vof bs i)) ci (sl bs (vof bs i) (8 + (4 * (nb bs 0)))), psF ps]) _
    refine HT.seq ?_
    refine HT.seq ?_
    refine HT.plain ?_
    refine sMv rfl rfl ?_
    refine sqS (q_len (len := (8 + (4 * (nb bs 0))) - (vof bs i)) rfl Tryz.underlying22) rfl ?_
    by_cases h1 : 0 < (8 + (4 * (nb bs 0))) - (vof bs i)
    · refine sqS (q_T (q_gt (p := (8 + (4 * (nb bs 0))) - (vof bs i)) (q := 0) rfl rfl) h1) rfl ?_
      refine send ?_
      refine eseq ?_
      refine HT.yes rfl ?_
      refine HT.skip ?_
      refine eseq ?_
      refine HT.block ?_
      refine HT.seq ?_
      refine HT.plain ?_
      refine sMv rfl rfl ?_
      refine sqS (q_index (i := 3) (j := 1) rfl rfl Tryz.underlying22 nagg_5 (fun _ h => h) rfl (by omega)) rfl ?_
      refine sqS (q_N (q_byte (i := 3) (j := 1) rfl nagg_5 (fun _ h => h) rfl (by omega)) (a := nb (sl bs (vof bs i) (8 + (4 * (nb bs 0)))) 3) (b := nb bs ((vof bs i) + 3)) (nb_sl (by omega))) rfl ?_
      refine sqS (q_and (p := nb bs ((vof bs i) + 3)) (q := 31) rfl rfl rfl (show nb bs ((vof bs i) + 3) < 256 by have := nb_lt bs ((vof bs i) + 3); omega) (by decide)) rfl ?_
      refine sqS (q_convn (p := (nb bs ((vof bs i) + 3)) &&& 31) rfl Tryz.underlying5 Tryz.underlying3 (show (nb bs ((vof bs i) + 3)) &&& 31 < 9223372036854775808 by have := nb_lt bs ((vof bs i) + 3); have := zm31 (nb bs ((vof bs i) + 3)); have := Nat.and_le_left (n := nb bs ((vof bs i) + 3)) (m := 31); have := Nat.and_le_right (n := nb bs ((vof bs i) + 3)) (m := 31); omega)) rfl ?_
      refine sqS (q_mul (p := 4) (q := (nb bs ((vof bs i) + 3)) &&& 31) rfl rfl (show 4 * ((nb bs ((vof bs i) + 3)) &&& 31) < 9223372036854775808 by have := nb_lt bs ((vof bs i) + 3); have := zm31 (nb bs ((vof bs i) + 3)); have := Nat.and_le_left (n := nb bs ((vof bs i) + 3)) (m := 31); have := Nat.and_le_right (n := nb bs ((vof bs i) + 3)) (m := 31); omega)) rfl ?_
      refine sqS (q_add (p := 4) (q := 4 * ((nb bs ((vof bs i) + 3)) &&& 31)) rfl rfl (show 4 + (4 * ((nb bs ((vof bs i) + 3)) &&& 31)) < 9223372036854775808 by have := nb_lt bs ((vof bs i) + 3); have := zm31 (nb bs ((vof bs i) + 3)); have := Nat.and_le_left (n := nb bs ((vof bs i) + 3)) (m := 31); have := Nat.and_le_right (n := nb bs ((vof bs i) + 3)) (m := 31); omega)) rfl ?_
      refine sAs rfl rfl ?_
      refine send ?_
      refine eseq ?_
      refine HT.seq ?_
      refine HT.seq ?_
      refine HT.plain ?_
      refine sMv rfl rfl ?_
      refine sMv rfl rfl ?_
      refine sqS (q_len (len := (8 + (4 * (nb bs 0))) - (vof bs i)) rfl Tryz.underlying22) rfl ?_
      refine sqS (q_F (q_gt (p := 4 + (4 * ((nb bs ((vof bs i) + 3)) &&& 31))) (q := (8 + (4 * (nb bs 0))) - (vof bs i)) rfl rfl) (by have := nb_lt bs ((vof bs i) + 3); have := zm31 (nb bs ((vof bs i) + 3)); have := Nat.and_le_left (n := nb bs ((vof bs i) + 3)) (m := 31); have := Nat.and_le_right (n := nb bs ((vof bs i) + 3)) (m := 31); omega)) rfl ?_
      refine sMv rfl rfl ?_
      refine sgqS rfl (q_move rfl) rfl ?_
      refine sgqS rfl (q_index (i := 3) (j := 1) rfl rfl Tryz.underlying22 nagg_5 (fun _ h => h) rfl (by omega)) rfl ?_
      refine sgqS rfl (q_N (q_byte (i := 3) (j := 1) rfl nagg_5 (fun _ h => h) rfl (by omega)) (a := nb (sl bs (vof bs i) (8 + (4 * (nb bs 0)))) 3) (b := nb bs ((vof bs i) + 3)) (nb_sl (by omega))) rfl ?_
      refine sgqS rfl (q_and (p := nb bs ((vof bs i) + 3)) (q := 16) rfl rfl rfl (show nb bs ((vof bs i) + 3) < 256 by have := nb_lt bs ((vof bs i) + 3); omega) (by decide)) rfl ?_
      refine sgqS rfl (q_F (q_ne (p := (nb bs ((vof bs i) + 3)) &&& 16) (q := 0) rfl rfl) (by have := nb_lt bs ((vof bs i) + 3); have := zb16 (nb bs ((vof bs i) + 3)); have := Nat.and_le_left (n := nb bs ((vof bs i) + 3)) (m := 16); have := Nat.and_le_right (n := nb bs ((vof bs i) + 3)) (m := 16); omega)) rfl ?_
      refine sqS (q_pick rfl (fun h => nomatch h) (fun _ => rfl)) rfl ?_
      refine send ?_
      refine eseq ?_
      refine HT.no rfl ?_
      refine HT.skip ?_
      refine eseq ?_
      refine HT.seq ?_
      refine HT.drawn mixed (St.closed _ _ _ _) (St w [] [(geneve_s6_k2 b2), (geneve_s6_k0 b44 bs), ⟨b6, 29, [some (.slice (some ⟨b44, 0, none⟩) 6 6), some (.slice none 0 0), none, some (.slice none 0 0)], true⟩] [Byt A n c bs, Byt Ai ((8 + (4 * (nb bs 0))) - (vof bs i)) ci (sl bs (vof bs i) (8 + (4 * (nb bs 0)))), psF ps]) ?_
      refine dtake (f := 7) [0, 2, 3, 4, 5, 6, 7, 8, 9, 10, 11, 12, 13, 14, 15, 17, 18, 19] (by kernel_rfl) (St.closed _ _ _ _) (fun _ h => (St.wk (St.untail (K := [(geneve_s6_k2 b2), (geneve_s6_k0 b44 bs), (geneve_s6_k4 b6 b44 v)]) (Kr := Kr) h) [(0, []), (1, []), (2, [2])] rfl)) (by kernel_rfl) ?_
      refine dq rfl (q_field (b := b6) (off := 0) rfl fo_29_2) ?_
      refine dq rfl (q_move rfl) ?_
      refine dq rfl (q_slice (lo := 0) (hi := 2) rfl Tryz.underlying22 nagg_5 (.inl ⟨rfl, rfl⟩) (.inr ⟨_, _, rfl, rfl⟩) (by omega) (by omega)) ?_
      refine dq rfl (q_N (q_call (vs := [(.slice (cutA Ai ci 0) (2 - 0) (ci - 0))]) (v := (.int .u64 ((bN (sl bs (vof bs i) (8 + (4 * (nb bs 0)))) 0 2 : Nat) : Int))) rfl ca_34 (fun w h => NumberC w Ai ((8 + (4 * (nb bs 0))) - (vof bs i)) ci (sl bs (vof bs i) (8 + (4 * (nb bs 0)))) (lo := 0) (hi := 2) (h.fact (j := 1) rfl) (k := 2) rfl (by decide) (by omega) (by omega))) (a := bN (sl bs (vof bs i) (8 + (4 * (nb bs 0)))) 0 2) (b := bN bs (vof bs i) 2) (bN_sl 0 2 (by omega))) ?_
      refine dq rfl (q_move rfl) ?_
      refine dq rfl (q_index (i := 2) (j := 1) rfl rfl Tryz.underlying22 nagg_5 (fun _ h => h) rfl (by omega)) ?_
      refine dq rfl (q_N (q_byte (i := 2) (j := 1) rfl nagg_5 (fun _ h => h) rfl (by omega)) (a := nb (sl bs (vof bs i) (8 + (4 * (nb bs 0)))) 2) (b := nb bs ((vof bs i) + 2)) (nb_sl (by omega))) ?_
      refine dq rfl (q_convn (p := nb bs ((vof bs i) + 2)) rfl Tryz.underlying5 Tryz.underlying39 (show nb bs ((vof bs i) + 2) < 18446744073709551616 by have := nb_lt bs ((vof bs i) + 2); omega)) ?_
      refine dq rfl (q_move rfl) ?_
      refine dq rfl (q_index (i := 3) (j := 1) rfl rfl Tryz.underlying22 nagg_5 (fun _ h => h) rfl (by omega)) ?_
      refine dq rfl (q_N (q_byte (i := 3) (j := 1) rfl nagg_5 (fun _ h => h) rfl (by omega)) (a := nb (sl bs (vof bs i) (8 + (4 * (nb bs 0)))) 3) (b := nb bs ((vof bs i) + 3)) (nb_sl (by omega))) ?_
      refine dq rfl (q_shr (p := nb bs ((vof bs i) + 3)) (e := 4) (N := 16) rfl rfl (by decide) rfl) ?_
      refine dq rfl (q_convn (p := (nb bs ((vof bs i) + 3)) / 16) rfl Tryz.underlying5 Tryz.underlying39 (show (nb bs ((vof bs i) + 3)) / 16 < 18446744073709551616 by have := nb_lt bs ((vof bs i) + 3); omega)) ?_
      refine dq rfl (q_move rfl) ?_
      refine dq rfl (q_convn (p := 4 + (4 * ((nb bs ((vof bs i) + 3)) &&& 31))) rfl Tryz.underlying3 Tryz.underlying39 (show 4 + (4 * ((nb bs ((vof bs i) + 3)) &&& 31)) < 18446744073709551616 by have := nb_lt bs ((vof bs i) + 3); have := zm31 (nb bs ((vof bs i) + 3)); have := Nat.and_le_left (n := nb bs ((vof bs i) + 3)) (m := 31); have := Nat.and_le_right (n := nb bs ((vof bs i) + 3)) (m := 31); omega)) ?_
      refine dq rfl (q_move rfl) ?_
      refine dq rfl (q_move rfl) ?_
      refine dq rfl (q_slice (lo := 4) (hi := 4 + (4 * ((nb bs ((vof bs i) + 3)) &&& 31))) rfl Tryz.underlying22 nagg_5 (.inr ⟨_, _, rfl, rfl⟩) (.inr ⟨_, _, rfl, rfl⟩) (by have := nb_lt bs ((vof bs i) + 3); have := zm31 (nb bs ((vof bs i) + 3)); have := Nat.and_le_left (n := nb bs ((vof bs i) + 3)) (m := 31); have := Nat.and_le_right (n := nb bs ((vof bs i) + 3)) (m := 31); omega) (by have := nb_lt bs ((vof bs i) + 3); have := zm31 (nb bs ((vof bs i) + 3)); have := Nat.and_le_left (n := nb bs ((vof bs i) + 3)) (m := 31); have := Nat.and_le_right (n := nb bs ((vof bs i) + 3)) (m := 31); omega)) ?_
      refine QL.nil ?_
      refine RG.step2 1 16 (by kernel_rfl) ?_ ?_
      · refine dop rfl (l_q _ (by simp) (St.closed _ _ _ _) (q_load (b := b6) (off := 2) (j := 2) rfl nagg_27 (fun _ h => h) rfl rfl rfl) ⟨(fun _ h => (St.wk (St.untail (K := [(geneve_s6_k2 b2), (geneve_s6_k0 b44 bs), (geneve_s6_k4 b6 b44 v)]) (Kr := Kr) h) [(0, []), (1, []), (2, [2])] rfl)), ?_⟩)
        refine RG.step1 16 (by kernel_rfl) ?_
        refine dop rfl (l_buildSliceT (K := [(geneve_s6_k2 b2), (geneve_s6_k0 b44 bs), (geneve_s6_k4 b6 b44 v)]) (Kr := Kr) (e := 39) (vs := [(0, (.int .u64 ((bN bs (vof bs i) 2 : Nat) : Int))), (1, (.int .u64 ((nb bs ((vof bs i) + 2) : Nat) : Int))), (2, (.int .u64 (((nb bs ((vof bs i) + 3)) / 16 : Nat) : Int))), (3, (.int .u64 ((4 + (4 * ((nb bs ((vof bs i) + 3)) &&& 31)) : Nat) : Int)))]) (cs := [(.int .u64 ((bN bs (vof bs i) 2 : Nat) : Int)), (.int .u64 ((nb bs ((vof bs i) + 2) : Nat) : Int)), (.int .u64 (((nb bs ((vof bs i) + 3)) / 16 : Nat) : Int)), (.int .u64 ((4 + (4 * ((nb bs ((vof bs i) + 3)) &&& 31)) : Nat) : Int))]) (by decide) rfl (fun _ => by kernel_rfl) fun b94 => ⟨(fun _ h => (St.wk (St.untail (K := [(geneve_s6_k2 b2), (geneve_s6_k0 b44 bs), (geneve_s6_k4 b6 b44 v), (geneve_s6_k1 b94 bs i)]) (Kr := Kr) h) [(0, []), (1, []), (2, [2])] rfl)), ?_⟩)
        refine dtake (f := 4) [20] (by kernel_rfl) (St.closed _ _ _ _) (fun _ h => (St.wk (St.untail (K := [(geneve_s6_k2 b2), (geneve_s6_k0 b44 bs), (geneve_s6_k4 b6 b44 v), (geneve_s6_k1 b94 bs i)]) (Kr := Kr) h) [(0, []), (1, []), (2, [2])] rfl)) (by kernel_rfl) ?_
        refine dq rfl (q_build (vs := [(0, (.slice (some ⟨b94, 0, none⟩) 4 4)), (1, (.slice (cutA Ai ci 4) ((4 + (4 * ((nb bs ((vof bs i) + 3)) &&& 31))) - 4) (ci - 4)))]) (v := (.agg #[(.slice (some ⟨b94, 0, none⟩) 4 4), (.slice (cutA Ai ci 4) ((4 + (4 * ((nb bs ((vof bs i) + 3)) &&& 31))) - 4) (ci - 4))])) rfl (fun _ => by kernel_rfl)) ?_
        refine QL.nil ?_
        refine RG.step1 21 (by kernel_rfl) ?_
        refine dop rfl (l_buildSliceT (K := [(geneve_s6_k2 b2), (geneve_s6_k0 b44 bs), (geneve_s6_k4 b6 b44 v), (geneve_s6_k1 b94 bs i)]) (Kr := Kr) (e := 49) (vs := [(0, (.agg #[(.slice (some ⟨b94, 0, none⟩) 4 4), (.slice (cutA Ai ci 4) ((4 + (4 * ((nb bs ((vof bs i) + 3)) &&& 31))) - 4) (ci - 4))]))]) (cs := [(.slice (some ⟨b94, 0, none⟩) 4 4), (.slice (cutA Ai ci 4) ((4 + (4 * ((nb bs ((vof bs i) + 3)) &&& 31))) - 4) (ci - 4))]) (by decide) rfl (fun _ => by kernel_rfl) fun b99 => ⟨(fun _ h => (St.wk (St.untail (K := [(geneve_s6_k2 b2), (geneve_s6_k0 b44 bs), (geneve_s6_k4 b6 b44 v), (geneve_s6_k1 b94 bs i), (geneve_s6_k3 b99 b94 Ai ci bs i)]) (Kr := Kr) h) [(0, []), (1, []), (2, [2])] rfl)), ?_⟩)
        refine RG.step1 22 (by kernel_rfl) ?_
        refine dop rfl (l_appendR (K0 := [(geneve_s6_k2 b2), (geneve_s6_k0 b44 bs), (geneve_s6_k4 b6 b44 v), (geneve_s6_k1 b94 bs i), (geneve_s6_k3 b99 b94 Ai ci bs i)]) (Kr := Kr) (k := i) (xs := (psV ps)) (jq := 4) (news := [(.slice (some ⟨b94, 0, none⟩) 4 4), (.slice (cutA Ai ci 4) ((4 + (4 * ((nb bs ((vof bs i) + 3)) &&& 31))) - 4) (ci - 4))]) (by decide) rfl rfl Tryz.underlying27 rowT_49 (by decide) hr (by have := hil; omega) rfl rfl (by simp [Value.one1]) fun v100 Kr100 hr100 => ⟨(fun _ h => (St.wk (St.untail (K := [(geneve_s6_k2 b2), (geneve_s6_k0 b44 bs), (geneve_s6_k4 b6 b44 v), (geneve_s6_k1 b94 bs i), (geneve_s6_k3 b99 b94 Ai ci bs i)]) (Kr := Kr100) h) [(0, []), (1, []), (2, [2])] rfl)), ?_⟩)
        refine dtake (f := 1) [23] (by kernel_rfl) (St.closed _ _ _ _) (fun _ h => (St.wk (St.untail (K := [(geneve_s6_k2 b2), (geneve_s6_k0 b44 bs), (geneve_s6_k4 b6 b44 v), (geneve_s6_k1 b94 bs i), (geneve_s6_k3 b99 b94 Ai ci bs i)]) (Kr := Kr100) h) [(0, []), (1, []), (2, [2])] rfl)) (by kernel_rfl) ?_
        refine dq rfl (q_field (b := b6) (off := 0) rfl fo_29_2) ?_
        refine QL.nil ?_
        refine RG.step1 24 (by kernel_rfl) ?_
        refine dop rfl (l_store (b := b6) (off := 2) (j := 2) rfl rfl nagg_27 hr100.one rfl rfl rfl (dlt rfl) ⟨(fun _ h => (St.wk (St.untail (K := [(geneve_s6_k2 b2), (geneve_s6_k0 b44 bs), (geneve_s6_k5 b6 b44 v100), (geneve_s6_k1 b94 bs i), (geneve_s6_k3 b99 b94 Ai ci bs i)]) (Kr := Kr100) h) [(0, []), (1, []), (2, [2])] rfl)), ?_⟩)
        refine dend (by kernel_rfl) ?_
        refine eseq ?_
        refine HT.norm ([(geneve_s6_k2 b2), (geneve_s6_k0 b44 bs), (geneve_s6_k5 b6 b44 v100), (geneve_s6_k1 b94 bs i), (geneve_s6_k3 b99 b94 Ai ci bs i)] ++ Kr100) [Byt A n c bs, Byt Ai ((8 + (4 * (nb bs 0))) - (vof bs i)) ci (sl bs (vof bs i) (8 + (4 * (nb bs 0)))), psF ps] rfl rfl ?_
        refine HT.plain ?_
        refine sMv rfl rfl ?_
        refine sMv rfl rfl ?_
        refine sqS (q_slice (lo := 4 + (4 * ((nb bs ((vof bs i) + 3)) &&& 31))) (hi := (8 + (4 * (nb bs 0))) - (vof bs i)) rfl Tryz.underlying22 nagg_5 (.inr ⟨_, _, rfl, rfl⟩) (.inl ⟨rfl, rfl⟩) (by have := nb_lt bs ((vof bs i) + 3); have := zm31 (nb bs ((vof bs i) + 3)); have := Nat.and_le_left (n := nb bs ((vof bs i) + 3)) (m := 31); have := Nat.and_le_right (n := nb bs ((vof bs i) + 3)) (m := 31); omega) (by omega)) rfl ?_
        refine sAs rfl rfl ?_
        refine send ?_
        refine ein ?_
        exact fun a ha w' hw => by
          obtain ⟨hp2, hs2⟩ := PSt.step hp (X := [(geneve_s6_k2 b2), (geneve_s6_k0 b44 bs), (geneve_s6_k5 b6 b44 v100)]) (Y := [(geneve_s6_k3 b99 b94 Ai ci bs i)]) (k := (geneve_s6_k1 b94 bs i)) (B := [Byt A n c bs]) (r := []) (cnt := 4) (cap := 4) (xs := [bN bs (vof bs i) 2, nb bs ((vof bs i) + 2), (nb bs ((vof bs i) + 3)) / 16, 4 + (4 * ((nb bs ((vof bs i) + 3)) &&& 31))]) (lo := 4) (hi := 4 + (4 * ((nb bs ((vof bs i) + 3)) &&& 31))) (sz := 4 + (4 * ((nb bs ((vof bs i) + 3)) &&& 31))) hw (by omega) rfl rfl (Nat.le_refl _) rfl hr100 (by omega) (by omega) (by omega) (by omega) (pdt (lc rfl (lc (show nb bs ((vof bs i) + 2) = nb bs (vof bs i + 2) from by omega) (lc (show (nb bs ((vof bs i) + 3)) / 16 = nb bs (vof bs i + 3) / 16 from by omega) (lc (show 4 + (4 * ((nb bs ((vof bs i) + 3)) &&& 31)) = 4 + 4 * (nb bs (vof bs i + 3) % 16) from by omega) rfl)))) (by omega) (by omega))
          exact eround2 ⟨(i + 1, _, _, _, _, _), hp2⟩ (show N - (i + 1) < N - i by omega) (ha.sub ⟨rfl, rfl, rfl, rfl, slc (n' := 8 + (4 * (nb bs 0)) - vof bs (i + 1)) (by omega), trivial⟩) hs2
      · refine dop rfl (l_buildSliceT (K := [(geneve_s6_k2 b2), (geneve_s6_k0 b44 bs), (geneve_s6_k4 b6 b44 v)]) (Kr := Kr) (e := 39) (vs := [(0, (.int .u64 ((bN bs (vof bs i) 2 : Nat) : Int))), (1, (.int .u64 ((nb bs ((vof bs i) + 2) : Nat) : Int))), (2, (.int .u64 (((nb bs ((vof bs i) + 3)) / 16 : Nat) : Int))), (3, (.int .u64 ((4 + (4 * ((nb bs ((vof bs i) + 3)) &&& 31)) : Nat) : Int)))]) (cs := [(.int .u64 ((bN bs (vof bs i) 2 : Nat) : Int)), (.int .u64 ((nb bs ((vof bs i) + 2) : Nat) : Int)), (.int .u64 (((nb bs ((vof bs i) + 3)) / 16 : Nat) : Int)), (.int .u64 ((4 + (4 * ((nb bs ((vof bs i) + 3)) &&& 31)) : Nat) : Int))]) (by decide) rfl (fun _ => by kernel_rfl) fun b94 => ⟨(fun _ h => (St.wk (St.untail (K := [(geneve_s6_k2 b2), (geneve_s6_k0 b44 bs), (geneve_s6_k4 b6 b44 v), (geneve_s6_k1 b94 bs i)]) (Kr := Kr) h) [(0, []), (1, []), (2, [2])] rfl)), ?_⟩)
        refine dtake (f := 5) [20] (by kernel_rfl) (St.closed _ _ _ _) (fun _ h => (St.wk (St.untail (K := [(geneve_s6_k2 b2), (geneve_s6_k0 b44 bs), (geneve_s6_k4 b6 b44 v), (geneve_s6_k1 b94 bs i)]) (Kr := Kr) h) [(0, []), (1, []), (2, [2])] rfl)) (by kernel_rfl) ?_
        refine dq rfl (q_build (vs := [(0, (.slice (some ⟨b94, 0, none⟩) 4 4)), (1, (.slice (cutA Ai ci 4) ((4 + (4 * ((nb bs ((vof bs i) + 3)) &&& 31))) - 4) (ci - 4)))]) (v := (.agg #[(.slice (some ⟨b94, 0, none⟩) 4 4), (.slice (cutA Ai ci 4) ((4 + (4 * ((nb bs ((vof bs i) + 3)) &&& 31))) - 4) (ci - 4))])) rfl (fun _ => by kernel_rfl)) ?_
        refine QL.nil ?_
        refine RG.step2 1 21 (by kernel_rfl) ?_ ?_
        · refine dop rfl (l_q _ (by simp) (St.closed _ _ _ _) (q_load (b := b6) (off := 2) (j := 2) rfl nagg_27 (fun _ h => h) rfl rfl rfl) ⟨(fun _ h => (St.wk (St.untail (K := [(geneve_s6_k2 b2), (geneve_s6_k0 b44 bs), (geneve_s6_k4 b6 b44 v), (geneve_s6_k1 b94 bs i)]) (Kr := Kr) h) [(0, []), (1, []), (2, [2])] rfl)), ?_⟩)
          refine RG.step1 21 (by kernel_rfl) ?_
          refine dop rfl (l_buildSliceT (K := [(geneve_s6_k2 b2), (geneve_s6_k0 b44 bs), (geneve_s6_k4 b6 b44 v), (geneve_s6_k1 b94 bs i)]) (Kr := Kr) (e := 49) (vs := [(0, (.agg #[(.slice (some ⟨b94, 0, none⟩) 4 4), (.slice (cutA Ai ci 4) ((4 + (4 * ((nb bs ((vof bs i) + 3)) &&& 31))) - 4) (ci - 4))]))]) (cs := [(.slice (some ⟨b94, 0, none⟩) 4 4), (.slice (cutA Ai ci 4) ((4 + (4 * ((nb bs ((vof bs i) + 3)) &&& 31))) - 4) (ci - 4))]) (by decide) rfl (fun _ => by kernel_rfl) fun b99 => ⟨(fun _ h => (St.wk (St.untail (K := [(geneve_s6_k2 b2), (geneve_s6_k0 b44 bs), (geneve_s6_k4 b6 b44 v), (geneve_s6_k1 b94 bs i), (geneve_s6_k3 b99 b94 Ai ci bs i)]) (Kr := Kr) h) [(0, []), (1, []), (2, [2])] rfl)), ?_⟩)
          refine RG.step1 22 (by kernel_rfl) ?_
          refine dop rfl (l_appendR (K0 := [(geneve_s6_k2 b2), (geneve_s6_k0 b44 bs), (geneve_s6_k4 b6 b44 v), (geneve_s6_k1 b94 bs i), (geneve_s6_k3 b99 b94 Ai ci bs i)]) (Kr := Kr) (k := i) (xs := (psV ps)) (jq := 4) (news := [(.slice (some ⟨b94, 0, none⟩) 4 4), (.slice (cutA Ai ci 4) ((4 + (4 * ((nb bs ((vof bs i) + 3)) &&& 31))) - 4) (ci - 4))]) (by decide) rfl rfl Tryz.underlying27 rowT_49 (by decide) hr (by have := hil; omega) rfl rfl (by simp [Value.one1]) fun v100 Kr100 hr100 => ⟨(fun _ h => (St.wk (St.untail (K := [(geneve_s6_k2 b2), (geneve_s6_k0 b44 bs), (geneve_s6_k4 b6 b44 v), (geneve_s6_k1 b94 bs i), (geneve_s6_k3 b99 b94 Ai ci bs i)]) (Kr := Kr100) h) [(0, []), (1, []), (2, [2])] rfl)), ?_⟩)
          refine dtake (f := 1) [23] (by kernel_rfl) (St.closed _ _ _ _) (fun _ h => (St.wk (St.untail (K := [(geneve_s6_k2 b2), (geneve_s6_k0 b44 bs), (geneve_s6_k4 b6 b44 v), (geneve_s6_k1 b94 bs i), (geneve_s6_k3 b99 b94 Ai ci bs i)]) (Kr := Kr100) h) [(0, []), (1, []), (2, [2])] rfl)) (by kernel_rfl) ?_
          refine dq rfl (q_field (b := b6) (off := 0) rfl fo_29_2) ?_
          refine QL.nil ?_
          refine RG.step1 24 (by kernel_rfl) ?_
          refine dop rfl (l_store (b := b6) (off := 2) (j := 2) rfl rfl nagg_27 hr100.one rfl rfl rfl (dlt rfl) ⟨(fun _ h => (St.wk (St.untail (K := [(geneve_s6_k2 b2), (geneve_s6_k0 b44 bs), (geneve_s6_k5 b6 b44 v100), (geneve_s6_k1 b94 bs i), (geneve_s6_k3 b99 b94 Ai ci bs i)]) (Kr := Kr100) h) [(0, []), (1, []), (2, [2])] rfl)), ?_⟩)
          refine dend (by kernel_rfl) ?_
          refine eseq ?_
          refine HT.norm ([(geneve_s6_k2 b2), (geneve_s6_k0 b44 bs), (geneve_s6_k5 b6 b44 v100), (geneve_s6_k1 b94 bs i), (geneve_s6_k3 b99 b94 Ai ci bs i)] ++ Kr100) [Byt A n c bs, Byt Ai ((8 + (4 * (nb bs 0))) - (vof bs i)) ci (sl bs (vof bs i) (8 + (4 * (nb bs 0)))), psF ps] rfl rfl ?_
          refine HT.plain ?_
          refine sMv rfl rfl ?_
          refine sMv rfl rfl ?_
          refine sqS (q_slice (lo := 4 + (4 * ((nb bs ((vof bs i) + 3)) &&& 31))) (hi := (8 + (4 * (nb bs 0))) - (vof bs i)) rfl Tryz.underlying22 nagg_5 (.inr ⟨_, _, rfl, rfl⟩) (.inl ⟨rfl, rfl⟩) (by have := nb_lt bs ((vof bs i) + 3); have := zm31 (nb bs ((vof bs i) + 3)); have := Nat.and_le_left (n := nb bs ((vof bs i) + 3)) (m := 31); have := Nat.and_le_right (n := nb bs ((vof bs i) + 3)) (m := 31); omega) (by omega)) rfl ?_
          refine sAs rfl rfl ?_
          refine send ?_
          refine ein ?_
          exact fun a ha w' hw => by
            obtain ⟨hp2, hs2⟩ := PSt.step hp (X := [(geneve_s6_k2 b2), (geneve_s6_k0 b44 bs), (geneve_s6_k5 b6 b44 v100)]) (Y := [(geneve_s6_k3 b99 b94 Ai ci bs i)]) (k := (geneve_s6_k1 b94 bs i)) (B := [Byt A n c bs]) (r := []) (cnt := 4) (cap := 4) (xs := [bN bs (vof bs i) 2, nb bs ((vof bs i) + 2), (nb bs ((vof bs i) + 3)) / 16, 4 + (4 * ((nb bs ((vof bs i) + 3)) &&& 31))]) (lo := 4) (hi := 4 + (4 * ((nb bs ((vof bs i) + 3)) &&& 31))) (sz := 4 + (4 * ((nb bs ((vof bs i) + 3)) &&& 31))) hw (by omega) rfl rfl (Nat.le_refl _) rfl hr100 (by omega) (by omega) (by omega) (by omega) (pdt (lc rfl (lc (show nb bs ((vof bs i) + 2) = nb bs (vof bs i + 2) from by omega) (lc (show (nb bs ((vof bs i) + 3)) / 16 = nb bs (vof bs i + 3) / 16 from by omega) (lc (show 4 + (4 * ((nb bs ((vof bs i) + 3)) &&& 31)) = 4 + 4 * (nb bs (vof bs i + 3) % 16) from by omega) rfl)))) (by omega) (by omega))
            exact eround2 ⟨(i + 1, _, _, _, _, _), hp2⟩ (show N - (i + 1) < N - i by omega) (ha.sub ⟨rfl, rfl, rfl, rfl, slc (n' := 8 + (4 * (nb bs 0)) - vof bs (i + 1)) (by omega), trivial⟩) hs2
        · refine dop rfl (l_buildSliceT (K := [(geneve_s6_k2 b2), (geneve_s6_k0 b44 bs), (geneve_s6_k4 b6 b44 v), (geneve_s6_k1 b94 bs i)]) (Kr := Kr) (e := 49) (vs := [(0, (.agg #[(.slice (some ⟨b94, 0, none⟩) 4 4), (.slice (cutA Ai ci 4) ((4 + (4 * ((nb bs ((vof bs i) + 3)) &&& 31))) - 4) (ci - 4))]))]) (cs := [(.slice (some ⟨b94, 0, none⟩) 4 4), (.slice (cutA Ai ci 4) ((4 + (4 * ((nb bs ((vof bs i) + 3)) &&& 31))) - 4) (ci - 4))]) (by decide) rfl (fun _ => by kernel_rfl) fun b99 => ⟨(fun _ h => (St.wk (St.untail (K := [(geneve_s6_k2 b2), (geneve_s6_k0 b44 bs), (geneve_s6_k4 b6 b44 v), (geneve_s6_k1 b94 bs i), (geneve_s6_k3 b99 b94 Ai ci bs i)]) (Kr := Kr) h) [(0, []), (1, []), (2, [2])] rfl)), ?_⟩)
          refine RG.step1 1 (by kernel_rfl) ?_
          refine dop rfl (l_q _ (by simp) (St.closed _ _ _ _) (q_load (b := b6) (off := 2) (j := 2) rfl nagg_27 (fun _ h => h) rfl rfl rfl) ⟨(fun _ h => (St.wk (St.untail (K := [(geneve_s6_k2 b2), (geneve_s6_k0 b44 bs), (geneve_s6_k4 b6 b44 v), (geneve_s6_k1 b94 bs i), (geneve_s6_k3 b99 b94 Ai ci bs i)]) (Kr := Kr) h) [(0, []), (1, []), (2, [2])] rfl)), ?_⟩)
          refine RG.step1 22 (by kernel_rfl) ?_
          refine dop rfl (l_appendR (K0 := [(geneve_s6_k2 b2), (geneve_s6_k0 b44 bs), (geneve_s6_k4 b6 b44 v), (geneve_s6_k1 b94 bs i), (geneve_s6_k3 b99 b94 Ai ci bs i)]) (Kr := Kr) (k := i) (xs := (psV ps)) (jq := 4) (news := [(.slice (some ⟨b94, 0, none⟩) 4 4), (.slice (cutA Ai ci 4) ((4 + (4 * ((nb bs ((vof bs i) + 3)) &&& 31))) - 4) (ci - 4))]) (by decide) rfl rfl Tryz.underlying27 rowT_49 (by decide) hr (by have := hil; omega) rfl rfl (by simp [Value.one1]) fun v100 Kr100 hr100 => ⟨(fun _ h => (St.wk (St.untail (K := [(geneve_s6_k2 b2), (geneve_s6_k0 b44 bs), (geneve_s6_k4 b6 b44 v), (geneve_s6_k1 b94 bs i), (geneve_s6_k3 b99 b94 Ai ci bs i)]) (Kr := Kr100) h) [(0, []), (1, []), (2, [2])] rfl)), ?_⟩)
          refine dtake (f := 1) [23] (by kernel_rfl) (St.closed _ _ _ _) (fun _ h => (St.wk (St.untail (K := [(geneve_s6_k2 b2), (geneve_s6_k0 b44 bs), (geneve_s6_k4 b6 b44 v), (geneve_s6_k1 b94 bs i), (geneve_s6_k3 b99 b94 Ai ci bs i)]) (Kr := Kr100) h) [(0, []), (1, []), (2, [2])] rfl)) (by kernel_rfl) ?_
          refine dq rfl (q_field (b := b6) (off := 0) rfl fo_29_2) ?_
          refine QL.nil ?_
          refine RG.step1 24 (by kernel_rfl) ?_
          refine dop rfl (l_store (b := b6) (off := 2) (j := 2) rfl rfl nagg_27 hr100.one rfl rfl rfl (dlt rfl) ⟨(fun _ h => (St.wk (St.untail (K := [(geneve_s6_k2 b2), (geneve_s6_k0 b44 bs), (geneve_s6_k5 b6 b44 v100), (geneve_s6_k1 b94 bs i), (geneve_s6_k3 b99 b94 Ai ci bs i)]) (Kr := Kr100) h) [(0, []), (1, []), (2, [2])] rfl)), ?_⟩)
          refine dend (by kernel_rfl) ?_
          refine eseq ?_
          refine HT.norm ([(geneve_s6_k2 b2), (geneve_s6_k0 b44 bs), (geneve_s6_k5 b6 b44 v100), (geneve_s6_k1 b94 bs i), (geneve_s6_k3 b99 b94 Ai ci bs i)] ++ Kr100) [Byt A n c bs, Byt Ai ((8 + (4 * (nb bs 0))) - (vof bs i)) ci (sl bs (vof bs i) (8 + (4 * (nb bs 0)))), psF ps] rfl rfl ?_
          refine HT.plain ?_
          refine sMv rfl rfl ?_
          refine sMv rfl rfl ?_
          refine sqS (q_slice (lo := 4 + (4 * ((nb bs ((vof bs i) + 3)) &&& 31))) (hi := (8 + (4 * (nb bs 0))) - (vof bs i)) rfl Tryz.underlying22 nagg_5 (.inr ⟨_, _, rfl, rfl⟩) (.inl ⟨rfl, rfl⟩) (by have := nb_lt bs ((vof bs i) + 3); have := zm31 (nb bs ((vof bs i) + 3)); have := Nat.and_le_left (n := nb bs ((vof bs i) + 3)) (m := 31); have := Nat.and_le_right (n := nb bs ((vof bs i) + 3)) (m := 31); omega) (by omega)) rfl ?_
          refine sAs rfl rfl ?_
          refine send ?_
          refine ein ?_
          exact fun a ha w' hw => by
            obtain ⟨hp2, hs2⟩ := PSt.step hp (X := [(geneve_s6_k2 b2), (geneve_s6_k0 b44 bs), (geneve_s6_k5 b6 b44 v100)]) (Y := [(geneve_s6_k3 b99 b94 Ai ci bs i)]) (k := (geneve_s6_k1 b94 bs i)) (B := [Byt A n c bs]) (r := []) (cnt := 4) (cap := 4) (xs := [bN bs (vof bs i) 2, nb bs ((vof bs i) + 2), (nb bs ((vof bs i) + 3)) / 16, 4 + (4 * ((nb bs ((vof bs i) + 3)) &&& 31))]) (lo := 4) (hi := 4 + (4 * ((nb bs ((vof bs i) + 3)) &&& 31))) (sz := 4 + (4 * ((nb bs ((vof bs i) + 3)) &&& 31))) hw (by omega) rfl rfl (Nat.le_refl _) rfl hr100 (by omega) (by omega) (by omega) (by omega) (pdt (lc rfl (lc (show nb bs ((vof bs i) + 2) = nb bs (vof bs i + 2) from by omega) (lc (show (nb bs ((vof bs i) + 3)) / 16 = nb bs (vof bs i + 3) / 16 from by omega) (lc (show 4 + (4 * ((nb bs ((vof bs i) + 3)) &&& 31)) = 4 + 4 * (nb bs (vof bs i + 3) % 16) from by omega) rfl)))) (by omega) (by omega))
            exact eround2 ⟨(i + 1, _, _, _, _, _), hp2⟩ (show N - (i + 1) < N - i by omega) (ha.sub ⟨rfl, rfl, rfl, rfl, slc (n' := 8 + (4 * (nb bs 0)) - vof bs (i + 1)) (by omega), trivial⟩) hs2
    · refine sqS (q_F (q_gt (p := (8 + (4 * (nb bs 0))) - (vof bs i)) (q := 0) rfl rfl) h1) rfl ?_
      refine send ?_
      refine eseq ?_
      refine HT.no rfl ?_
      refine HT.exit ?_
      refine ex_then ?_
      refine ex_then ?_
      refine ex_in ?_
      refine eseq ?_
      have hiN : N = i := by omega
      subst hiN
      refine HT.rowFact (K := [(geneve_s6_k2 b2), (geneve_s6_k0 b44 bs), (geneve_s6_k4 b6 b44 v)]) (Kr := Kr) hr (fun _ h => nomatch h) fun AQ cQ hvQ hncQ hfQ => ?_
      subst hvQ
      refine HT.seq ?_
      refine HT.plain ?_
      refine sMv rfl rfl ?_
      refine sMv rfl rfl ?_
      refine sqS (q_add (p := 8) (q := 4 * (nb bs 0)) rfl rfl (show 8 + (4 * (nb bs 0)) < 9223372036854775808 by have := nb_lt bs 0; omega)) rfl ?_
      refine sqS (q_slice (lo := 8 + (4 * (nb bs 0))) (hi := n) rfl Tryz.underlying22 nagg_5 (.inr ⟨_, _, rfl, rfl⟩) (.inl ⟨rfl, rfl⟩) (by have := nb_lt bs 0; omega) (by omega)) rfl ?_
      refine sqS (q_field (b := b6) (off := 0) rfl fo_29_3) rfl ?_
      refine sl_ (l_store (b := b6) (off := 3) (j := 2) rfl rfl nagg_22 rfl rfl rfl rfl (dlt rfl) ?_)
      refine send ?_
      refine eseq ?_
      refine HT.seq ?_
      refine HT.plain ?_
      refine sqS (q_loadAgg (b := b6) (off := 0) (j := 2) (vs := [(.slice (some ⟨b44, 0, none⟩) 6 6), (.slice none 0 0), (.slice AQ N cQ), (.slice (cutA A c (8 + (4 * (nb bs 0)))) (n - (8 + (4 * (nb bs 0)))) (c - (8 + (4 * (nb bs 0)))))]) rfl aggs_29 (fun _ h => h) rfl rfl rfl) rfl ?_
      refine sl_ (l_storeAgg (b := b2) (off := 0) (j := 0) (vs := [(.slice (some ⟨b44, 0, none⟩) 6 6), (.slice none 0 0), (.slice AQ N cQ), (.slice (cutA A c (8 + (4 * (nb bs 0)))) (n - (8 + (4 * (nb bs 0)))) (c - (8 + (4 * (nb bs 0)))))]) rfl rfl aggs_29 (by simp [Value.one1]) rfl rfl rfl (Nat.le_of_ble_eq_true rfl) ?_)
      refine sAs rfl rfl ?_
      refine sAs rfl rfl ?_
      refine send ?_
      refine eseq ?_
      refine HT.ret ?_
      exact fun a ha w' hw => fin_ ha (resc3 ha Tryz.results39 rfl (ld_ aggs_29 hw (j := 0) rfl rfl (vs := [(.slice (some ⟨b44, 0, none⟩) 6 6), (.slice none 0 0), (.slice AQ N cQ), (.slice (cutA A c (8 + (4 * (nb bs 0)))) (n - (8 + (4 * (nb bs 0)))) (c - (8 + (4 * (nb bs 0)))))]) rfl) rfl rfl) ⟨⟨⟨some ⟨b44, 0, none⟩, 6, 6, [0, 4 * (nb bs 0), bitN (decide (((nb bs 1) &&& 128) ≠ 0)), bitN (decide (((nb bs 1) &&& 64) ≠ 0)), bN bs 2 2, bN bs 4 3]⟩, none, 0, 0, [], AQ, N, cQ, ps, ⟨cutA A c (8 + (4 * (nb bs 0))), n - (8 + (4 * (nb bs 0))), c - (8 + (4 * (nb bs 0))), sl bs (8 + (4 * (nb bs 0))) n⟩⟩, rfl, hw.pres, Own.lay6 (Own.cel hw (j := 1) (sz := 1) (r := []) rfl rfl rfl rfl (Nat.le_refl _)) (Own.nilCel 1) (Own.byt hw (j := 3) rfl (fun i h => .inl (hfQ i h))) (Own.cut hw (j := 0) (lo := 8 + (4 * (nb bs 0))) (hi := n) rfl (fun _ h => .inr h) (by omega) (by omega)) (fun _ h => nomatch h) (psOwnQ hw (j := 2) rfl hp.tol.own), LD_eq rfl rfl hp.tol.data rfl⟩
  · refine dop rfl (l_alloc (by decide) zero_29 fun b6 => ⟨(fun _ h => (h.wk [(0, [])] rfl)), ?_⟩)
    refine RG.step1 20 (by kernel_rfl) ?_
    refine dop rfl (l_buildSlice (e := 39) (vs := [(0, (.int .u64 ((0 : Nat) : Int))), (1, (.int .u64 ((4 * (nb bs 0) : Nat) : Int))), (2, (.int .u64 ((bitN (decide (((nb bs 1) &&& 128) ≠ 0)) : Nat) : Int))), (3, (.int .u64 ((bitN (decide (((nb bs 1) &&& 64) ≠ 0)) : Nat) : Int))), (4, (.int .u64 ((bN bs 2 2 : Nat) : Int))), (5, (.int .u64 ((bN bs 4 3 : Nat) : Int)))]) (cs := [(.int .u64 ((0 : Nat) : Int)), (.int .u64 ((4 * (nb bs 0) : Nat) : Int)), (.int .u64 ((bitN (decide (((nb bs 1) &&& 128) ≠ 0)) : Nat) : Int)), (.int .u64 ((bitN (decide (((nb bs 1) &&& 64) ≠ 0)) : Nat) : Int)), (.int .u64 ((bN bs 2 2 : Nat) : Int)), (.int .u64 ((bN bs 4 3 : Nat) : Int))]) (by decide) rfl (fun _ => by kernel_rfl) fun b44 => ⟨(fun _ h => (h.wk [(0, [])] rfl)), ?_⟩)
    refine dtake (f := 1) [21] (by kernel_rfl) (St.closed _ _ _ _) (fun _ h => (h.wk [(0, [])] rfl)) (by kernel_rfl) ?_
    refine dq rfl (q_call (vs := [(.slice none 0 0), (.slice (some ⟨b44, 0, none⟩) 6 6)]) (v := (.agg #[(.slice (some ⟨b44, 0, none⟩) 6 6), (.slice none 0 0), (.slice none 0 0), (.slice none 0 0)])) rfl ca_33 (fun w h => layerC w none 0 0 (some ⟨b44, 0, none⟩) 6 6  (St.enter (sp := []) (Kc := []) (bi := []) h rfl rfl rfl))) ?_
    refine QL.nil ?_
    refine RG.step1 23 (by kernel_rfl) ?_
    refine dop rfl (l_storeAgg (b := b6) (off := 0) (j := 1) (vs := [(.slice (some ⟨b44, 0, none⟩) 6 6), (.slice none 0 0), (.slice none 0 0), (.slice none 0 0)]) rfl rfl aggs_29 (by simp [Value.one1]) rfl rfl rfl (Nat.le_of_ble_eq_true rfl) ⟨(fun _ h => (h.wk [(0, [])] rfl)), ?_⟩)
    refine dend (by kernel_rfl) ?_
    refine eseq ?_
    refine HT.seq ?_
    refine HT.seq ?_
    refine HT.plain ?_
    refine sMv rfl rfl ?_
    refine sMv rfl rfl ?_
    refine sqS (q_len (len := n) rfl Tryz.underlying22) rfl ?_
    refine sqS (q_sub (p := n) (q := 8) rfl rfl (by omega) (show n < 9223372036854775808 by omega)) rfl ?_
    refine sqS (q_F (q_gt (p := 4 * (nb bs 0)) (q := n - 8) rfl rfl) (by have := nb_lt bs 0; omega)) rfl ?_
    refine send ?_
    refine eseq ?_
    refine HT.no rfl ?_
    refine HT.skip ?_
    refine eseq ?_
    refine HT.seq ?_
    refine HT.plain ?_
    refine sMv rfl rfl ?_
    refine sMv rfl rfl ?_
    refine sqS (q_add (p := 8) (q := 4 * (nb bs 0)) rfl rfl (show 8 + (4 * (nb bs 0)) < 9223372036854775808 by have := nb_lt bs 0; omega)) rfl ?_
    refine sqS (q_slice (lo := 8) (hi := 8 + (4 * (nb bs 0))) rfl Tryz.underlying22 nagg_5 (.inr ⟨_, _, rfl, rfl⟩) (.inr ⟨_, _, rfl, rfl⟩) (by have := nb_lt bs 0; omega) (by have := nb_lt bs 0; omega)) rfl ?_
    refine sAs rfl rfl ?_
    refine send ?_
    refine eseq ?_
    refine HT.seq ?_
    refine HT.block ?_
    refine HT.loop (ι := {p : Nat × Option Addr × Nat × Value × List Kb × List (NI × BI) // PSt w.heap.size (Byt A n c bs) (fun j => ([bN bs (vof bs j) 2, nb bs (vof bs j + 2), nb bs (vof bs j + 3) / 16, 4 + 4 * (nb bs (vof bs j + 3) % 16)], sl bs (vof bs j + 4) (vof bs (j + 1)))) (fun j => vof bs j) (8 + (4 * (nb bs 0))) bs N p.1 p.2.1 p.2.2.1 p.2.2.2.1 p.2.2.2.2.1 p.2.2.2.2.2}) (fun p => [(0, (.slice A n c)), (2, (.pointer (some ⟨b2, 0, none⟩))), (5, (.int .i64 ((4 * (nb bs 0) : Nat) : Int))), (6, (.pointer (some ⟨b6, 0, none⟩))), (7, (.slice p.1.2.1 (8 + (4 * (nb bs 0)) - (vof bs p.1.1)) p.1.2.2.1))]) (fun p => St w [] ([(geneve_s6_k2 b2), ⟨b6, 29, [some (.slice (some ⟨b44, 0, none⟩) 6 6), some (.slice none 0 0), some p.1.2.2.2.1, some (.slice none 0 0)], true⟩, (geneve_s6_k0 b44 bs)] ++ p.1.2.2.2.2.1) [Byt A n c bs, Byt p.1.2.1 (8 + (4 * (nb bs 0)) - (vof bs p.1.1)) p.1.2.2.1 (sl bs (vof bs p.1.1) (8 + (4 * (nb bs 0)))), psF p.1.2.2.2.2.2]) (fun p => N - p.1.1) ⟨(0, cutA A c 8, c - 8, .slice none 0 0, [], []), PSt.nil (fun x hx => Byt.cut_fp (lo := 8) (hi := 8 + (4 * (nb bs 0))) hx.1 hx) (show 8 + (4 * (nb bs 0)) - 8 ≤ c - 8 by omega)⟩ ⟨rfl, rfl, rfl, rfl, rfl, trivial⟩ (fun _ h => psF_nil (B := [Byt A n c bs, Byt (cutA A c 8) (8 + (4 * (nb bs 0)) - 8) (c - 8) (sl bs 8 (8 + (4 * (nb bs 0))))]) (h.cut (j := 0) (lo := 8) (hi := 8 + (4 * (nb bs 0))) rfl (by omega) (by omega))) fun ⟨⟨i, Ai, ci, v, Kr, ps⟩, hp⟩ => ?_
    replace hp : PSt w.heap.size (Byt A n c bs) (fun j => ([bN bs (vof bs j) 2, nb bs (vof bs j + 2), nb bs (vof bs j + 3) / 16, 4 + 4 * (nb bs (vof bs j + 3) % 16)], sl bs (vof bs j + 4) (vof bs (j + 1)))) (fun j => vof bs j) (8 + (4 * (nb bs 0))) bs N i Ai ci v Kr ps := hp
    have hil : i ≤ N := hp.le
    have hr : RowS 49 2 i (psV ps) v Kr := hp.row
    have hcp : 8 + (4 * (nb bs 0)) - vof bs i ≤ ci := hp.cap
    have ho := vof_succ bs i
    have hge := vof_ge bs i
    have hmo := vof_mod bs i
    have hmo2 := vof_mod bs (i + 1)
    have hma := vof_many bs i
    have h256 := nb_lt bs (vof bs i + 3)
    have hal := vof_le (e := 8 + 4 * nb bs 0) (by omega) (fun j hj => (hd j hj).2.1) i (by omega)
    have hc := hd i
    have hz : i = N → vof bs i = 8 + 4 * nb bs 0 := fun e => by rw [e]; exact he
    have hz31 := zm31 (nb bs (vof bs i + 3))
    have hzb := zb16 (nb bs (vof bs i + 3))
    show HT _ _ _ [(0, (.slice A n c)), (2, (.pointer (some ⟨b2, 0, none⟩))), (5, (.int .i64 ((4 * (nb bs 0) : Nat) : Int))), (6, (.pointer (some ⟨b6, 0, none⟩))), (7, (.slice Ai ((8 + (4 * (nb bs 0))) - (vof bs i)) ci))] (St w [] ([(geneve_s6_k2 b2), (geneve_s6_k4 b6 b44 v), (geneve_s6_k0 b44 bs)] ++ Kr) [Byt A n c bs, Byt Ai ((8 + (4 * (nb bs 0))) - (vof bs i)) ci (sl bs (vof bs i) (8 + (4 * (nb bs 0)))), psF ps]) _
    refine HT.seq ?_
    refine HT.seq ?_
    refine HT.plain ?_
    refine sMv rfl rfl ?_
    refine sqS (q_len (len := (8 + (4 * (nb bs 0))) - (vof bs i)) rfl Tryz.underlying22) rfl ?_
    by_cases h2 : 0 < (8 + (4 * (nb bs 0))) - (vof bs i)
    · refine sqS (q_T (q_gt (p := (8 + (4 * (nb bs 0))) - (vof bs i)) (q := 0) rfl rfl) h2) rfl ?_
      refine send ?_
      refine eseq ?_
      refine HT.yes rfl ?_
      refine HT.skip ?_
      refine eseq ?_
      refine HT.block ?_
      refine HT.seq ?_
      refine HT.plain ?_
      refine sMv rfl rfl ?_
      refine sqS (q_index (i := 3) (j := 1) rfl rfl Tryz.underlying22 nagg_5 (fun _ h => h) rfl (by omega)) rfl ?_
      refine sqS (q_N (q_byte (i := 3) (j := 1) rfl nagg_5 (fun _ h => h) rfl (by omega)) (a := nb (sl bs (vof bs i) (8 + (4 * (nb bs 0)))) 3) (b := nb bs ((vof bs i) + 3)) (nb_sl (by omega))) rfl ?_
      refine sqS (q_and (p := nb bs ((vof bs i) + 3)) (q := 31) rfl rfl rfl (show nb bs ((vof bs i) + 3) < 256 by have := nb_lt bs ((vof bs i) + 3); omega) (by decide)) rfl ?_
      refine sqS (q_convn (p := (nb bs ((vof bs i) + 3)) &&& 31) rfl Tryz.underlying5 Tryz.underlying3 (show (nb bs ((vof bs i) + 3)) &&& 31 < 9223372036854775808 by have := nb_lt bs ((vof bs i) + 3); have := zm31 (nb bs ((vof bs i) + 3)); have := Nat.and_le_left (n := nb bs ((vof bs i) + 3)) (m := 31); have := Nat.and_le_right (n := nb bs ((vof bs i) + 3)) (m := 31); omega)) rfl ?_
      refine sqS (q_mul (p := 4) (q := (nb bs ((vof bs i) + 3)) &&& 31) rfl rfl (show 4 * ((nb bs ((vof bs i) + 3)) &&& 31) < 9223372036854775808 by have := nb_lt bs ((vof bs i) + 3); have := zm31 (nb bs ((vof bs i) + 3)); have := Nat.and_le_left (n := nb bs ((vof bs i) + 3)) (m := 31); have := Nat.and_le_right (n := nb bs ((vof bs i) + 3)) (m := 31); omega)) rfl ?_
      refine sqS (q_add (p := 4) (q := 4 * ((nb bs ((vof bs i) + 3)) &&& 31)) rfl rfl (show 4 + (4 * ((nb bs ((vof bs i) + 3)) &&& 31)) < 9223372036854775808 by have := nb_lt bs ((vof bs i) + 3); have := zm31 (nb bs ((vof bs i) + 3)); have := Nat.and_le_left (n := nb bs ((vof bs i) + 3)) (m := 31); have := Nat.and_le_right (n := nb bs ((vof bs i) + 3)) (m := 31); omega)) rfl ?_
      refine sAs rfl rfl ?_
      refine send ?_
      refine eseq ?_
      refine HT.seq ?_
      refine HT.seq ?_
      refine HT.plain ?_
      refine sMv rfl rfl ?_
      refine sMv rfl rfl ?_
      refine sqS (q_len (len := (8 + (4 * (nb bs 0))) - (vof bs i)) rfl Tryz.underlying22) rfl ?_
      refine sqS (q_F (q_gt (p := 4 + (4 * ((nb bs ((vof bs i) + 3)) &&& 31))) (q := (8 + (4 * (nb bs 0))) - (vof bs i)) rfl rfl) (by have := nb_lt bs ((vof bs i) + 3); have := zm31 (nb bs ((vof bs i) + 3)); have := Nat.and_le_left (n := nb bs ((vof bs i) + 3)) (m := 31); have := Nat.and_le_right (n := nb bs ((vof bs i) + 3)) (m := 31); omega)) rfl ?_
      refine sMv rfl rfl ?_
      refine sgqS rfl (q_move rfl) rfl ?_
      refine sgqS rfl (q_index (i := 3) (j := 1) rfl rfl Tryz.underlying22 nagg_5 (fun _ h => h) rfl (by omega)) rfl ?_
      refine sgqS rfl (q_N (q_byte (i := 3) (j := 1) rfl nagg_5 (fun _ h => h) rfl (by omega)) (a := nb (sl bs (vof bs i) (8 + (4 * (nb bs 0)))) 3) (b := nb bs ((vof bs i) + 3)) (nb_sl (by omega))) rfl ?_
      refine sgqS rfl (q_and (p := nb bs ((vof bs i) + 3)) (q := 16) rfl rfl rfl (show nb bs ((vof bs i) + 3) < 256 by have := nb_lt bs ((vof bs i) + 3); omega) (by decide)) rfl ?_
      refine sgqS rfl (q_F (q_ne (p := (nb bs ((vof bs i) + 3)) &&& 16) (q := 0) rfl rfl) (by have := nb_lt bs ((vof bs i) + 3); have := zb16 (nb bs ((vof bs i) + 3)); have := Nat.and_le_left (n := nb bs ((vof bs i) + 3)) (m := 16); have := Nat.and_le_right (n := nb bs ((vof bs i) + 3)) (m := 16); omega)) rfl ?_
      refine sqS (q_pick rfl (fun h => nomatch h) (fun _ => rfl)) rfl ?_
      refine send ?_
      refine eseq ?_
      refine HT.no rfl ?_
      refine HT.skip ?_
      refine eseq ?_
      refine HT.seq ?_
      refine HT.drawn mixed (St.closed _ _ _ _) (St w [] [(geneve_s6_k2 b2), ⟨b6, 29, [some (.slice (some ⟨b44, 0, none⟩) 6 6), some (.slice none 0 0), none, some (.slice none 0 0)], true⟩, (geneve_s6_k0 b44 bs)] [Byt A n c bs, Byt Ai ((8 + (4 * (nb bs 0))) - (vof bs i)) ci (sl bs (vof bs i) (8 + (4 * (nb bs 0)))), psF ps]) ?_
      refine dtake (f := 7) [0, 2, 3, 4, 5, 6, 7, 8, 9, 10, 11, 12, 13, 14, 15, 17, 18, 19] (by kernel_rfl) (St.closed _ _ _ _) (fun _ h => (St.wk (St.untail (K := [(geneve_s6_k2 b2), (geneve_s6_k4 b6 b44 v), (geneve_s6_k0 b44 bs)]) (Kr := Kr) h) [(0, []), (1, [2]), (2, [])] rfl)) (by kernel_rfl) ?_
      refine dq rfl (q_field (b := b6) (off := 0) rfl fo_29_2) ?_
      refine dq rfl (q_move rfl) ?_
      refine dq rfl (q_slice (lo := 0) (hi := 2) rfl Tryz.underlying22 nagg_5 (.inl ⟨rfl, rfl⟩) (.inr ⟨_, _, rfl, rfl⟩) (by omega) (by omega)) ?_
      refine dq rfl (q_N (q_call (vs := [(.slice (cutA Ai ci 0) (2 - 0) (ci - 0))]) (v := (.int .u64 ((bN (sl bs (vof bs i) (8 + (4 * (nb bs 0)))) 0 2 : Nat) : Int))) rfl ca_34 (fun w h => NumberC w Ai ((8 + (4 * (nb bs 0))) - (vof bs i)) ci (sl bs (vof bs i) (8 + (4 * (nb bs 0)))) (lo := 0) (hi := 2) (h.fact (j := 1) rfl) (k := 2) rfl (by decide) (by omega) (by omega))) (a := bN (sl bs (vof bs i) (8 + (4 * (nb bs 0)))) 0 2) (b := bN bs (vof bs i) 2) (bN_sl 0 2 (by omega))) ?_
      refine dq rfl (q_move rfl) ?_
      refine dq rfl (q_index (i := 2) (j := 1) rfl rfl Tryz.underlying22 nagg_5 (fun _ h => h) rfl (by omega)) ?_
      refine dq rfl (q_N (q_byte (i := 2) (j := 1) rfl nagg_5 (fun _ h => h) rfl (by omega)) (a := nb (sl bs (vof bs i) (8 + (4 * (nb bs 0)))) 2) (b := nb bs ((vof bs i) + 2)) (nb_sl (by omega))) ?_
      refine dq rfl (q_convn (p := nb bs ((vof bs i) + 2)) rfl Tryz.underlying5 Tryz.underlying39 (show nb bs ((vof bs i) + 2) < 18446744073709551616 by have := nb_lt bs ((vof bs i) + 2); omega)) ?_
      refine dq rfl (q_move rfl) ?_
      refine dq rfl (q_index (i := 3) (j := 1) rfl rfl Tryz.underlying22 nagg_5 (fun _ h => h) rfl (by omega)) ?_
      refine dq rfl (q_N (q_byte (i := 3) (j := 1) rfl nagg_5 (fun _ h => h) rfl (by omega)) (a := nb (sl bs (vof bs i) (8 + (4 * (nb bs 0)))) 3) (b := nb bs ((vof bs i) + 3)) (nb_sl (by omega))) ?_
      refine dq rfl (q_shr (p := nb bs ((vof bs i) + 3)) (e := 4) (N := 16) rfl rfl (by decide) rfl) ?_
      refine dq rfl (q_convn (p := (nb bs ((vof bs i) + 3)) / 16) rfl Tryz.underlying5 Tryz.underlying39 (show (nb bs ((vof bs i) + 3)) / 16 < 18446744073709551616 by have := nb_lt bs ((vof bs i) + 3); omega)) ?_
      refine dq rfl (q_move rfl) ?_
      refine dq rfl (q_convn (p := 4 + (4 * ((nb bs ((vof bs i) + 3)) &&& 31))) rfl Tryz.underlying3 Tryz.underlying39 (show 4 + (4 * ((nb bs ((vof bs i) + 3)) &&& 31)) < 18446744073709551616 by have := nb_lt bs ((vof bs i) + 3); have := zm31 (nb bs ((vof bs i) + 3)); have := Nat.and_le_left (n := nb bs ((vof bs i) + 3)) (m := 31); have := Nat.and_le_right (n := nb bs ((vof bs i) + 3)) (m := 31); omega)) ?_
      refine dq rfl (q_move rfl) ?_
      refine dq rfl (q_move rfl) ?_
      refine dq rfl (q_slice (lo := 4) (hi := 4 + (4 * ((nb bs ((vof bs i) + 3)) &&& 31))) rfl Tryz.underlying22 nagg_5 (.inr ⟨_, _, rfl, rfl⟩) (.inr ⟨_, _, rfl, rfl⟩) (by have := nb_lt bs ((vof bs i) + 3); have := zm31 (nb bs ((vof bs i) + 3)); have := Nat.and_le_left (n := nb bs ((vof bs i) + 3)) (m := 31); have := Nat.and_le_right (n := nb bs ((vof bs i) + 3)) (m := 31); omega) (by have := nb_lt bs ((vof bs i) + 3); have := zm31 (nb bs ((vof bs i) + 3)); have := Nat.and_le_left (n := nb bs ((vof bs i) + 3)) (m := 31); have := Nat.and_le_right (n := nb bs ((vof bs i) + 3)) (m := 31); omega)) ?_
      refine QL.nil ?_
      refine RG.step2 1 16 (by kernel_rfl) ?_ ?_
      · refine dop rfl (l_q _ (by simp) (St.closed _ _ _ _) (q_load (b := b6) (off := 2) (j := 1) rfl nagg_27 (fun _ h => h) rfl rfl rfl) ⟨(fun _ h => (St.wk (St.untail (K := [(geneve_s6_k2 b2), (geneve_s6_k4 b6 b44 v), (geneve_s6_k0 b44 bs)]) (Kr := Kr) h) [(0, []), (1, [2]), (2, [])] rfl)), ?_⟩)
        refine RG.step1 16 (by kernel_rfl) ?_
        refine dop rfl (l_buildSliceT (K := [(geneve_s6_k2 b2), (geneve_s6_k4 b6 b44 v), (geneve_s6_k0 b44 bs)]) (Kr := Kr) (e := 39) (vs := [(0, (.int .u64 ((bN bs (vof bs i) 2 : Nat) : Int))), (1, (.int .u64 ((nb bs ((vof bs i) + 2) : Nat) : Int))), (2, (.int .u64 (((nb bs ((vof bs i) + 3)) / 16 : Nat) : Int))), (3, (.int .u64 ((4 + (4 * ((nb bs ((vof bs i) + 3)) &&& 31)) : Nat) : Int)))]) (cs := [(.int .u64 ((bN bs (vof bs i) 2 : Nat) : Int)), (.int .u64 ((nb bs ((vof bs i) + 2) : Nat) : Int)), (.int .u64 (((nb bs ((vof bs i) + 3)) / 16 : Nat) : Int)), (.int .u64 ((4 + (4 * ((nb bs ((vof bs i) + 3)) &&& 31)) : Nat) : Int))]) (by decide) rfl (fun _ => by kernel_rfl) fun b94 => ⟨(fun _ h => (St.wk (St.untail (K := [(geneve_s6_k2 b2), (geneve_s6_k4 b6 b44 v), (geneve_s6_k0 b44 bs), (geneve_s6_k1 b94 bs i)]) (Kr := Kr) h) [(0, []), (1, [2]), (2, [])] rfl)), ?_⟩)
        refine dtake (f := 4) [20] (by kernel_rfl) (St.closed _ _ _ _) (fun _ h => (St.wk (St.untail (K := [(geneve_s6_k2 b2), (geneve_s6_k4 b6 b44 v), (geneve_s6_k0 b44 bs), (geneve_s6_k1 b94 bs i)]) (Kr := Kr) h) [(0, []), (1, [2]), (2, [])] rfl)) (by kernel_rfl) ?_
        refine dq rfl (q_build (vs := [(0, (.slice (some ⟨b94, 0, none⟩) 4 4)), (1, (.slice (cutA Ai ci 4) ((4 + (4 * ((nb bs ((vof bs i) + 3)) &&& 31))) - 4) (ci - 4)))]) (v := (.agg #[(.slice (some ⟨b94, 0, none⟩) 4 4), (.slice (cutA Ai ci 4) ((4 + (4 * ((nb bs ((vof bs i) + 3)) &&& 31))) - 4) (ci - 4))])) rfl (fun _ => by kernel_rfl)) ?_
        refine QL.nil ?_
        refine RG.step1 21 (by kernel_rfl) ?_
        refine dop rfl (l_buildSliceT (K := [(geneve_s6_k2 b2), (geneve_s6_k4 b6 b44 v), (geneve_s6_k0 b44 bs), (geneve_s6_k1 b94 bs i)]) (Kr := Kr) (e := 49) (vs := [(0, (.agg #[(.slice (some ⟨b94, 0, none⟩) 4 4), (.slice (cutA Ai ci 4) ((4 + (4 * ((nb bs ((vof bs i) + 3)) &&& 31))) - 4) (ci - 4))]))]) (cs := [(.slice (some ⟨b94, 0, none⟩) 4 4), (.slice (cutA Ai ci 4) ((4 + (4 * ((nb bs ((vof bs i) + 3)) &&& 31))) - 4) (ci - 4))]) (by decide) rfl (fun _ => by kernel_rfl) fun b99 => ⟨(fun _ h => (St.wk (St.untail (K := [(geneve_s6_k2 b2), (geneve_s6_k4 b6 b44 v), (geneve_s6_k0 b44 bs), (geneve_s6_k1 b94 bs i), (geneve_s6_k3 b99 b94 Ai ci bs i)]) (Kr := Kr) h) [(0, []), (1, [2]), (2, [])] rfl)), ?_⟩)
        refine RG.step1 22 (by kernel_rfl) ?_
        refine dop rfl (l_appendR (K0 := [(geneve_s6_k2 b2), (geneve_s6_k4 b6 b44 v), (geneve_s6_k0 b44 bs), (geneve_s6_k1 b94 bs i), (geneve_s6_k3 b99 b94 Ai ci bs i)]) (Kr := Kr) (k := i) (xs := (psV ps)) (jq := 4) (news := [(.slice (some ⟨b94, 0, none⟩) 4 4), (.slice (cutA Ai ci 4) ((4 + (4 * ((nb bs ((vof bs i) + 3)) &&& 31))) - 4) (ci - 4))]) (by decide) rfl rfl Tryz.underlying27 rowT_49 (by decide) hr (by have := hil; omega) rfl rfl (by simp [Value.one1]) fun v100 Kr100 hr100 => ⟨(fun _ h => (St.wk (St.untail (K := [(geneve_s6_k2 b2), (geneve_s6_k4 b6 b44 v), (geneve_s6_k0 b44 bs), (geneve_s6_k1 b94 bs i), (geneve_s6_k3 b99 b94 Ai ci bs i)]) (Kr := Kr100) h) [(0, []), (1, [2]), (2, [])] rfl)), ?_⟩)
        refine dtake (f := 1) [23] (by kernel_rfl) (St.closed _ _ _ _) (fun _ h => (St.wk (St.untail (K := [(geneve_s6_k2 b2), (geneve_s6_k4 b6 b44 v), (geneve_s6_k0 b44 bs), (geneve_s6_k1 b94 bs i), (geneve_s6_k3 b99 b94 Ai ci bs i)]) (Kr := Kr100) h) [(0, []), (1, [2]), (2, [])] rfl)) (by kernel_rfl) ?_
        refine dq rfl (q_field (b := b6) (off := 0) rfl fo_29_2) ?_
        refine QL.nil ?_
        refine RG.step1 24 (by kernel_rfl) ?_
        refine dop rfl (l_store (b := b6) (off := 2) (j := 1) rfl rfl nagg_27 hr100.one rfl rfl rfl (dlt rfl) ⟨(fun _ h => (St.wk (St.untail (K := [(geneve_s6_k2 b2), (geneve_s6_k5 b6 b44 v100), (geneve_s6_k0 b44 bs), (geneve_s6_k1 b94 bs i), (geneve_s6_k3 b99 b94 Ai ci bs i)]) (Kr := Kr100) h) [(0, []), (1, [2]), (2, [])] rfl)), ?_⟩)
        refine dend (by kernel_rfl) ?_
        refine eseq ?_
        refine HT.norm ([(geneve_s6_k2 b2), (geneve_s6_k5 b6 b44 v100), (geneve_s6_k0 b44 bs), (geneve_s6_k1 b94 bs i), (geneve_s6_k3 b99 b94 Ai ci bs i)] ++ Kr100) [Byt A n c bs, Byt Ai ((8 + (4 * (nb bs 0))) - (vof bs i)) ci (sl bs (vof bs i) (8 + (4 * (nb bs 0)))), psF ps] rfl rfl ?_
        refine HT.plain ?_
        refine sMv rfl rfl ?_
        refine sMv rfl rfl ?_
        refine sqS (q_slice (lo := 4 + (4 * ((nb bs ((vof bs i) + 3)) &&& 31))) (hi := (8 + (4 * (nb bs 0))) - (vof bs i)) rfl Tryz.underlying22 nagg_5 (.inr ⟨_, _, rfl, rfl⟩) (.inl ⟨rfl, rfl⟩) (by have := nb_lt bs ((vof bs i) + 3); have := zm31 (nb bs ((vof bs i) + 3)); have := Nat.and_le_left (n := nb bs ((vof bs i) + 3)) (m := 31); have := Nat.and_le_right (n := nb bs ((vof bs i) + 3)) (m := 31); omega) (by omega)) rfl ?_
        refine sAs rfl rfl ?_
        refine send ?_
        refine ein ?_
        exact fun a ha w' hw => by
          obtain ⟨hp2, hs2⟩ := PSt.step hp (X := [(geneve_s6_k2 b2), (geneve_s6_k5 b6 b44 v100), (geneve_s6_k0 b44 bs)]) (Y := [(geneve_s6_k3 b99 b94 Ai ci bs i)]) (k := (geneve_s6_k1 b94 bs i)) (B := [Byt A n c bs]) (r := []) (cnt := 4) (cap := 4) (xs := [bN bs (vof bs i) 2, nb bs ((vof bs i) + 2), (nb bs ((vof bs i) + 3)) / 16, 4 + (4 * ((nb bs ((vof bs i) + 3)) &&& 31))]) (lo := 4) (hi := 4 + (4 * ((nb bs ((vof bs i) + 3)) &&& 31))) (sz := 4 + (4 * ((nb bs ((vof bs i) + 3)) &&& 31))) hw (by omega) rfl rfl (Nat.le_refl _) rfl hr100 (by omega) (by omega) (by omega) (by omega) (pdt (lc rfl (lc (show nb bs ((vof bs i) + 2) = nb bs (vof bs i + 2) from by omega) (lc (show (nb bs ((vof bs i) + 3)) / 16 = nb bs (vof bs i + 3) / 16 from by omega) (lc (show 4 + (4 * ((nb bs ((vof bs i) + 3)) &&& 31)) = 4 + 4 * (nb bs (vof bs i + 3) % 16) from by omega) rfl)))) (by omega) (by omega))
          exact eround2 ⟨(i + 1, _, _, _, _, _), hp2⟩ (show N - (i + 1) < N - i by omega) (ha.sub ⟨rfl, rfl, rfl, rfl, slc (n' := 8 + (4 * (nb bs 0)) - vof bs (i + 1)) (by omega), trivial⟩) hs2
      · refine dop rfl (l_buildSliceT (K := [(geneve_s6_k2 b2), (geneve_s6_k4 b6 b44 v), (geneve_s6_k0 b44 bs)]) (Kr := Kr) (e := 39) (vs := [(0, (.int .u64 ((bN bs (vof bs i) 2 : Nat) : Int))), (1, (.int .u64 ((nb bs ((vof bs i) + 2) : Nat) : Int))), (2, (.int .u64 (((nb bs ((vof bs i) + 3)) / 16 : Nat) : Int))), (3, (.int .u64 ((4 + (4 * ((nb bs ((vof bs i) + 3)) &&& 31)) : Nat) : Int)))]) (cs := [(.int .u64 ((bN bs (vof bs i) 2 : Nat) : Int)), (.int .u64 ((nb bs ((vof bs i) + 2) : Nat) : Int)), (.int .u64 (((nb bs ((vof bs i) + 3)) / 16 : Nat) : Int)), (.int .u64 ((4 + (4 * ((nb bs ((vof bs i) + 3)) &&& 31)) : Nat) : Int))]) (by decide) rfl (fun _ => by kernel_rfl) fun b94 => ⟨(fun _ h => (St.wk (St.untail (K := [(geneve_s6_k2 b2), (geneve_s6_k4 b6 b44 v), (geneve_s6_k0 b44 bs), (geneve_s6_k1 b94 bs i)]) (Kr := Kr) h) [(0, []), (1, [2]), (2, [])] rfl)), ?_⟩)
        refine dtake (f := 5) [20] (by kernel_rfl) (St.closed _ _ _ _) (fun _ h => (St.wk (St.untail (K := [(geneve_s6_k2 b2), (geneve_s6_k4 b6 b44 v), (geneve_s6_k0 b44 bs), (geneve_s6_k1 b94 bs i)]) (Kr := Kr) h) [(0, []), (1, [2]), (2, [])] rfl)) (by kernel_rfl) ?_
        refine dq rfl (q_build (vs := [(0, (.slice (some ⟨b94, 0, none⟩) 4 4)), (1, (.slice (cutA Ai ci 4) ((4 + (4 * ((nb bs ((vof bs i) + 3)) &&& 31))) - 4) (ci - 4)))]) (v := (.agg #[(.slice (some ⟨b94, 0, none⟩) 4 4), (.slice (cutA Ai ci 4) ((4 + (4 * ((nb bs ((vof bs i) + 3)) &&& 31))) - 4) (ci - 4))])) rfl (fun _ => by kernel_rfl)) ?_
        refine QL.nil ?_
        refine RG.step2 1 21 (by kernel_rfl) ?_ ?_
        · refine dop rfl (l_q _ (by simp) (St.closed _ _ _ _) (q_load (b := b6) (off := 2) (j := 1) rfl nagg_27 (fun _ h => h) rfl rfl rfl) ⟨(fun _ h => (St.wk (St.untail (K := [(geneve_s6_k2 b2), (geneve_s6_k4 b6 b44 v), (geneve_s6_k0 b44 bs), (geneve_s6_k1 b94 bs i)]) (Kr := Kr) h) [(0, []), (1, [2]), (2, [])] rfl)), ?_⟩)
          refine RG.step1 21 (by kernel_rfl) ?_
          refine dop rfl (l_buildSliceT (K := [(geneve_s6_k2 b2), (geneve_s6_k4 b6 b44 v), (geneve_s6_k0 b44 bs), (geneve_s6_k1 b94 bs i)]) (Kr := Kr) (e := 49) (vs := [(0, (.agg #[(.slice (some ⟨b94, 0, none⟩) 4 4), (.slice (cutA Ai ci 4) ((4 + (4 * ((nb bs ((vof bs i) + 3)) &&& 31))) - 4) (ci - 4))]))]) (cs := [(.slice (some ⟨b94, 0, none⟩) 4 4), (.slice (cutA Ai ci 4) ((4 + (4 * ((nb bs ((vof bs i) + 3)) &&& 31))) - 4) (ci - 4))]) (by decide) rfl (fun _ => by kernel_rfl) fun b99 => ⟨(fun _ h => (St.wk (St.untail (K := [(geneve_s6_k2 b2), (geneve_s6_k4 b6 b44 v), (geneve_s6_k0 b44 bs), (geneve_s6_k1 b94 bs i), (geneve_s6_k3 b99 b94 Ai ci bs i)]) (Kr := Kr) h) [(0, []), (1, [2]), (2, [])] rfl)), ?_⟩)
          refine RG.step1 22 (by kernel_rfl) ?_
          refine dop rfl (l_appendR (K0 := [(geneve_s6_k2 b2), (geneve_s6_k4 b6 b44 v), (geneve_s6_k0 b44 bs), (geneve_s6_k1 b94 bs i), (geneve_s6_k3 b99 b94 Ai ci bs i)]) (Kr := Kr) (k := i) (xs := (psV ps)) (jq := 4) (news := [(.slice (some ⟨b94, 0, none⟩) 4 4), (.slice (cutA Ai ci 4) ((4 + (4 * ((nb bs ((vof bs i) + 3)) &&& 31))) - 4) (ci - 4))]) (by decide) rfl rfl Tryz.underlying27 rowT_49 (by decide) hr (by have := hil; omega) rfl rfl (by simp [Value.one1]) fun v100 Kr100 hr100 => ⟨(fun _ h => (St.wk (St.untail (K := [(geneve_s6_k2 b2), (geneve_s6_k4 b6 b44 v), (geneve_s6_k0 b44 bs), (geneve_s6_k1 b94 bs i), (geneve_s6_k3 b99 b94 Ai ci bs i)]) (Kr := Kr100) h) [(0, []), (1, [2]), (2, [])] rfl)), ?_⟩)
          refine dtake (f := 1) [23] (by kernel_rfl) (St.closed _ _ _ _) (fun _ h => (St.wk (St.untail (K := [(geneve_s6_k2 b2), (geneve_s6_k4 b6 b44 v), (geneve_s6_k0 b44 bs), (geneve_s6_k1 b94 bs i), (geneve_s6_k3 b99 b94 Ai ci bs i)]) (Kr := Kr100) h) [(0, []), (1, [2]), (2, [])] rfl)) (by kernel_rfl) ?_
          refine dq rfl (q_field (b := b6) (off := 0) rfl fo_29_2) ?_
          refine QL.nil ?_
          refine RG.step1 24 (by kernel_rfl) ?_
          refine dop rfl (l_store (b := b6) (off := 2) (j := 1) rfl rfl nagg_27 hr100.one rfl rfl rfl (dlt rfl) ⟨(fun _ h => (St.wk (St.untail (K := [(geneve_s6_k2 b2), (geneve_s6_k5 b6 b44 v100), (geneve_s6_k0 b44 bs), (geneve_s6_k1 b94 bs i), (geneve_s6_k3 b99 b94 Ai ci bs i)]) (Kr := Kr100) h) [(0, []), (1, [2]), (2, [])] rfl)), ?_⟩)
          refine dend (by kernel_rfl) ?_
          refine eseq ?_
          refine HT.norm ([(geneve_s6_k2 b2), (geneve_s6_k5 b6 b44 v100), (geneve_s6_k0 b44 bs), (geneve_s6_k1 b94 bs i), (geneve_s6_k3 b99 b94 Ai ci bs i)] ++ Kr100) [Byt A n c bs, Byt Ai ((8 + (4 * (nb bs 0))) - (vof bs i)) ci (sl bs (vof bs i) (8 + (4 * (nb bs 0)))), psF ps] rfl rfl ?_
          refine HT.plain ?_
          refine sMv rfl rfl ?_
          refine sMv rfl rfl ?_
          refine sqS (q_slice (lo := 4 + (4 * ((nb bs ((vof bs i) + 3)) &&& 31))) (hi := (8 + (4 * (nb bs 0))) - (vof bs i)) rfl Tryz.underlying22 nagg_5 (.inr ⟨_, _, rfl, rfl⟩) (.inl ⟨rfl, rfl⟩) (by have := nb_lt bs ((vof bs i) + 3); have := zm31 (nb bs ((vof bs i) + 3)); have := Nat.and_le_left (n := nb bs ((vof bs i) + 3)) (m := 31); have := Nat.and_le_right (n := nb bs ((vof bs i) + 3)) (m := 31); omega) (by omega)) rfl ?_
          refine sAs rfl rfl ?_
          refine send ?_
          refine ein ?_
          exact fun a ha w' hw => by
            obtain ⟨hp2, hs2⟩ := PSt.step hp (X := [(geneve_s6_k2 b2), (geneve_s6_k5 b6 b44 v100), (geneve_s6_k0 b44 bs)]) (Y := [(geneve_s6_k3 b99 b94 Ai ci bs i)]) (k := (geneve_s6_k1 b94 bs i)) (B := [Byt A n c bs]) (r := []) (cnt := 4) (cap := 4) (xs := [bN bs (vof bs i) 2, nb bs ((vof bs i) + 2), (nb bs ((vof bs i) + 3)) / 16, 4 + (4 * ((nb bs ((vof bs i) + 3)) &&& 31))]) (lo := 4) (hi := 4 + (4 * ((nb bs ((vof bs i) + 3)) &&& 31))) (sz := 4 + (4 * ((nb bs ((vof bs i) + 3)) &&& 31))) hw (by omega) rfl rfl (Nat.le_refl _) rfl hr100 (by omega) (by omega) (by omega) (by omega) (pdt (lc rfl (lc (show nb bs ((vof bs i) + 2) = nb bs (vof bs i + 2) from by omega) (lc (show (nb bs ((vof bs i) + 3)) / 16 = nb bs (vof bs i + 3) / 16 from by omega) (lc (show 4 + (4 * ((nb bs ((vof bs i) + 3)) &&& 31)) = 4 + 4 * (nb bs (vof bs i + 3) % 16) from by omega) rfl)))) (by omega) (by omega))
            exact eround2 ⟨(i + 1, _, _, _, _, _), hp2⟩ (show N - (i + 1) < N - i by omega) (ha.sub ⟨rfl, rfl, rfl, rfl, slc (n' := 8 + (4 * (nb bs 0)) - vof bs (i + 1)) (by omega), trivial⟩) hs2
        · refine dop rfl (l_buildSliceT (K := [(geneve_s6_k2 b2), (geneve_s6_k4 b6 b44 v), (geneve_s6_k0 b44 bs), (geneve_s6_k1 b94 bs i)]) (Kr := Kr) (e := 49) (vs := [(0, (.agg #[(.slice (some ⟨b94, 0, none⟩) 4 4), (.slice (cutA Ai ci 4) ((4 + (4 * ((nb bs ((vof bs i) + 3)) &&& 31))) - 4) (ci - 4))]))]) (cs := [(.slice (some ⟨b94, 0, none⟩) 4 4), (.slice (cutA Ai ci 4) ((4 + (4 * ((nb bs ((vof bs i) + 3)) &&& 31))) - 4) (ci - 4))]) (by decide) rfl (fun _ => by kernel_rfl) fun b99 => ⟨(fun _ h => (St.wk (St.untail (K := [(geneve_s6_k2 b2), (geneve_s6_k4 b6 b44 v), (geneve_s6_k0 b44 bs), (geneve_s6_k1 b94 bs i), (geneve_s6_k3 b99 b94 Ai ci bs i)]) (Kr := Kr) h) [(0, []), (1, [2]), (2, [])] rfl)), ?_⟩)
          refine RG.step1 1 (by kernel_rfl) ?_
          refine dop rfl (l_q _ (by simp) (St.closed _ _ _ _) (q_load (b := b6) (off := 2) (j := 1) rfl nagg_27 (fun _ h => h) rfl rfl rfl) ⟨(fun _ h => (St.wk (St.untail (K := [(geneve_s6_k2 b2), (geneve_s6_k4 b6 b44 v), (geneve_s6_k0 b44 bs), (geneve_s6_k1 b94 bs i), (geneve_s6_k3 b99 b94 Ai ci bs i)]) (Kr := Kr) h) [(0, []), (1, [2]), (2, [])] rfl)), ?_⟩)
          refine RG.step1 22 (by kernel_rfl) ?_
          refine dop rfl (l_appendR (K0 := [(geneve_s6_k2 b2), (geneve_s6_k4 b6 b44 v), (geneve_s6_k0 b44 bs), (geneve_s6_k1 b94 bs i), (geneve_s6_k3 b99 b94 Ai ci bs i)]) (Kr := Kr) (k := i) (xs := (psV ps)) (jq := 4) (news := [(.slice (some ⟨b94, 0, none⟩) 4 4), (.slice (cutA Ai ci 4) ((4 + (4 * ((nb bs ((vof bs i) + 3)) &&& 31))) - 4) (ci - 4))]) (by decide) rfl rfl Tryz.underlying27 rowT_49 (by decide) hr (by have := hil; omega) rfl rfl (by simp [Value.one1]) fun v100 Kr100 hr100 => ⟨(fun _ h => (St.wk (St.untail (K := [(geneve_s6_k2 b2), (geneve_s6_k4 b6 b44 v), (geneve_s6_k0 b44 bs), (geneve_s6_k1 b94 bs i), (geneve_s6_k3 b99 b94 Ai ci bs i)]) (Kr := Kr100) h) [(0, []), (1, [2]), (2, [])] rfl)), ?_⟩)
          refine dtake (f := 1) [23] (by kernel_rfl) (St.closed _ _ _ _) (fun _ h => (St.wk (St.untail (K := [(geneve_s6_k2 b2), (geneve_s6_k4 b6 b44 v), (geneve_s6_k0 b44 bs), (geneve_s6_k1 b94 bs i), (geneve_s6_k3 b99 b94 Ai ci bs i)]) (Kr := Kr100) h) [(0, []), (1, [2]), (2, [])] rfl)) (by kernel_rfl) ?_
          refine dq rfl (q_field (b := b6) (off := 0) rfl fo_29_2) ?_
          refine QL.nil ?_
          refine RG.step1 24 (by kernel_rfl) ?_
          refine dop rfl (l_store (b := b6) (off := 2) (j := 1) rfl rfl nagg_27 hr100.one rfl rfl rfl (dlt rfl) ⟨(fun _ h => (St.wk (St.untail (K := [(geneve_s6_k2 b2), (geneve_s6_k5 b6 b44 v100), (geneve_s6_k0 b44 bs), (geneve_s6_k1 b94 bs i), (geneve_s6_k3 b99 b94 Ai ci bs i)]) (Kr := Kr100) h) [(0, []), (1, [2]), (2, [])] rfl)), ?_⟩)
          refine dend (by kernel_rfl) ?_
          refine eseq ?_
          refine HT.norm ([(geneve_s6_k2 b2), (geneve_s6_k5 b6 b44 v100), (geneve_s6_k0 b44 bs), (geneve_s6_k1 b94 bs i), (geneve_s6_k3 b99 b94 Ai ci bs i)] ++ Kr100) [Byt A n c bs, Byt Ai ((8 + (4 * (nb bs 0))) - (vof bs i)) ci (sl bs (vof bs i) (8 + (4 * (nb bs 0)))), psF ps] rfl rfl ?_
          refine HT.plain ?_
          refine sMv rfl rfl ?_
          refine sMv rfl rfl ?_
          refine sqS (q_slice (lo := 4 + (4 * ((nb bs ((vof bs i) + 3)) &&& 31))) (hi := (8 + (4 * (nb bs 0))) - (vof bs i)) rfl Tryz.underlying22 nagg_5 (.inr ⟨_, _, rfl, rfl⟩) (.inl ⟨rfl, rfl⟩) (by have := nb_lt bs ((vof bs i) + 3); have := zm31 (nb bs ((vof bs i) + 3)); have := Nat.and_le_left (n := nb bs ((vof bs i) + 3)) (m := 31); have := Nat.and_le_right (n := nb bs ((vof bs i) + 3)) (m := 31); omega) (by omega)) rfl ?_
          refine sAs rfl rfl ?_
          refine send ?_
          refine ein ?_
          exact fun a ha w' hw => by
            obtain ⟨hp2, hs2⟩ := PSt.step hp (X := [(geneve_s6_k2 b2), (geneve_s6_k5 b6 b44 v100), (geneve_s6_k0 b44 bs)]) (Y := [(geneve_s6_k3 b99 b94 Ai ci bs i)]) (k := (geneve_s6_k1 b94 bs i)) (B := [Byt A n c bs]) (r := []) (cnt := 4) (cap := 4) (xs := [bN bs (vof bs i) 2, nb bs ((vof bs i) + 2), (nb bs ((vof bs i) + 3)) / 16, 4 + (4 * ((nb bs ((vof bs i) + 3)) &&& 31))]) (lo := 4) (hi := 4 + (4 * ((nb bs ((vof bs i) + 3)) &&& 31))) (sz := 4 + (4 * ((nb bs ((vof bs i) + 3)) &&& 31))) hw (by omega) rfl rfl (Nat.le_refl _) rfl hr100 (by omega) (by omega) (by omega) (by omega) (pdt (lc rfl (lc (show nb bs ((vof bs i) + 2) = nb bs (vof bs i + 2) from by omega) (lc (show (nb bs ((vof bs i) + 3)) / 16 = nb bs (vof bs i + 3) / 16 from by omega) (lc (show 4 + (4 * ((nb bs ((vof bs i) + 3)) &&& 31)) = 4 + 4 * (nb bs (vof bs i + 3) % 16) from by omega) rfl)))) (by omega) (by omega))
            exact eround2 ⟨(i + 1, _, _, _, _, _), hp2⟩ (show N - (i + 1) < N - i by omega) (ha.sub ⟨rfl, rfl, rfl, rfl, slc (n' := 8 + (4 * (nb bs 0)) - vof bs (i + 1)) (by omega), trivial⟩) hs2
    · refine sqS (q_F (q_gt (p := (8 + (4 * (nb bs 0))) - (vof bs i)) (q := 0) rfl rfl) h2) rfl ?_
      refine send ?_
      refine eseq ?_
      refine HT.no rfl ?_
      refine HT.exit ?_
      refine ex_then ?_
      refine ex_then ?_
      refine ex_in ?_
      refine eseq ?_
      have hiN : N = i := by omega
      subst hiN
      refine HT.rowFact (K := [(geneve_s6_k2 b2), (geneve_s6_k4 b6 b44 v), (geneve_s6_k0 b44 bs)]) (Kr := Kr) hr (fun _ h => nomatch h) fun AQ cQ hvQ hncQ hfQ => ?_
      subst hvQ
      refine HT.seq ?_
      refine HT.plain ?_
      refine sMv rfl rfl ?_
      refine sMv rfl rfl ?_
      refine sqS (q_add (p := 8) (q := 4 * (nb bs 0)) rfl rfl (show 8 + (4 * (nb bs 0)) < 9223372036854775808 by have := nb_lt bs 0; omega)) rfl ?_
      refine sqS (q_slice (lo := 8 + (4 * (nb bs 0))) (hi := n) rfl Tryz.underlying22 nagg_5 (.inr ⟨_, _, rfl, rfl⟩) (.inl ⟨rfl, rfl⟩) (by have := nb_lt bs 0; omega) (by omega)) rfl ?_
      refine sqS (q_field (b := b6) (off := 0) rfl fo_29_3) rfl ?_
      refine sl_ (l_store (b := b6) (off := 3) (j := 1) rfl rfl nagg_22 rfl rfl rfl rfl (dlt rfl) ?_)
      refine send ?_
      refine eseq ?_
      refine HT.seq ?_
      refine HT.plain ?_
      refine sqS (q_loadAgg (b := b6) (off := 0) (j := 1) (vs := [(.slice (some ⟨b44, 0, none⟩) 6 6), (.slice none 0 0), (.slice AQ N cQ), (.slice (cutA A c (8 + (4 * (nb bs 0)))) (n - (8 + (4 * (nb bs 0)))) (c - (8 + (4 * (nb bs 0)))))]) rfl aggs_29 (fun _ h => h) rfl rfl rfl) rfl ?_
      refine sl_ (l_storeAgg (b := b2) (off := 0) (j := 0) (vs := [(.slice (some ⟨b44, 0, none⟩) 6 6), (.slice none 0 0), (.slice AQ N cQ), (.slice (cutA A c (8 + (4 * (nb bs 0)))) (n - (8 + (4 * (nb bs 0)))) (c - (8 + (4 * (nb bs 0)))))]) rfl rfl aggs_29 (by simp [Value.one1]) rfl rfl rfl (Nat.le_of_ble_eq_true rfl) ?_)
      refine sAs rfl rfl ?_
      refine sAs rfl rfl ?_
      refine send ?_
      refine eseq ?_
      refine HT.ret ?_
      exact fun a ha w' hw => fin_ ha (resc3 ha Tryz.results39 rfl (ld_ aggs_29 hw (j := 0) rfl rfl (vs := [(.slice (some ⟨b44, 0, none⟩) 6 6), (.slice none 0 0), (.slice AQ N cQ), (.slice (cutA A c (8 + (4 * (nb bs 0)))) (n - (8 + (4 * (nb bs 0)))) (c - (8 + (4 * (nb bs 0)))))]) rfl) rfl rfl) ⟨⟨⟨some ⟨b44, 0, none⟩, 6, 6, [0, 4 * (nb bs 0), bitN (decide (((nb bs 1) &&& 128) ≠ 0)), bitN (decide (((nb bs 1) &&& 64) ≠ 0)), bN bs 2 2, bN bs 4 3]⟩, none, 0, 0, [], AQ, N, cQ, ps, ⟨cutA A c (8 + (4 * (nb bs 0))), n - (8 + (4 * (nb bs 0))), c - (8 + (4 * (nb bs 0))), sl bs (8 + (4 * (nb bs 0))) n⟩⟩, rfl, hw.pres, Own.lay6 (Own.cel hw (j := 2) (sz := 1) (r := []) rfl rfl rfl rfl (Nat.le_refl _)) (Own.nilCel 1) (Own.byt hw (j := 3) rfl (fun i h => .inl (hfQ i h))) (Own.cut hw (j := 0) (lo := 8 + (4 * (nb bs 0))) (hi := n) rfl (fun _ h => .inr h) (by omega) (by omega)) (fun _ h => nomatch h) (psOwnQ hw (j := 2) rfl hp.tol.own), LD_eq rfl rfl hp.tol.data rfl⟩

theorem geneve_S6 (w : World) (A : Option Addr) (n : Nat) (c : Nat) (bs : List UInt8) (N : Nat) (hn : n ≤ 2147483647) (ha : 8 ≤ n) (hb : nb bs 0 ≤ 61) (hc : 4 * nb bs 0 ≤ n - 8) (hd : ∀ i, i < N → vof bs i < 8 + 4 * nb bs 0 ∧ vof bs (i + 1) ≤ 8 + 4 * nb bs 0 ∧ nb bs (vof bs i + 3) / 16 % 2 = 0) (he : vof bs N = 8 + 4 * nb bs 0) (hst : St w [] [] [Byt A n c bs] w) : Calls Tryz.prog 26 #[(.string ⟨#[103, 101, 110, 101, 118, 101]⟩), (.slice A n c)] w (SP w (Byt A n c bs) (some (some ⟨[0, 4 * (nb bs 0), bitN (decide (((nb bs 1) &&& 128) ≠ 0)), bitN (decide (((nb bs 1) &&& 64) ≠ 0)), bN bs 2 2, bN bs 4 3], [], ((List.range N).map (fun j => ([bN bs (vof bs j) 2, nb bs (vof bs j + 2), nb bs (vof bs j + 3) / 16, 4 + 4 * (nb bs (vof bs j + 3) % 16)], sl bs (vof bs j + 4) (vof bs (j + 1))))), sl bs (8 + (4 * (nb bs 0))) n⟩))) := by
  have hnc00 : n ≤ c := (hst.fact (j := 0) rfl).2.1
  refine enter (vs := [(.string ⟨#[103, 101, 110, 101, 118, 101]⟩), (.slice A n c)]) Tryz.func26 rfl rfl rfl hst ?_
  refine HT.seq ?_
  refine HT.plain ?_
  refine sl_ (l_alloc (by decide) zero_29 fun b4 => ?_)
  refine sAs rfl rfl ?_
  refine sAs rfl rfl ?_
  refine send ?_
  refine eseq ?_
  refine HT.seq ?_
  refine HT.plain ?_
  refine sl_ (l_makeMap (by decide) fun b13 => ?_)
  refine sl_ (l_insert (es := es0) (ck := 0) rfl rfl rfl Tryz.underlying36 Tryz.underlying9 fi0 ?_)
  refine sl_ (l_insert (es := es1) (ck := 1) rfl rfl rfl Tryz.underlying36 Tryz.underlying9 fi1 ?_)
  refine sl_ (l_insert (es := es2) (ck := 2) rfl rfl rfl Tryz.underlying36 Tryz.underlying9 fi2 ?_)
  refine sl_ (l_insert (es := es3) (ck := 3) rfl rfl rfl Tryz.underlying36 Tryz.underlying9 fi3 ?_)
  refine sl_ (l_insert (es := es4) (ck := 4) rfl rfl rfl Tryz.underlying36 Tryz.underlying9 fi4 ?_)
  refine sl_ (l_insert (es := es5) (ck := 5) rfl rfl rfl Tryz.underlying36 Tryz.underlying9 fi5 ?_)
  refine sl_ (l_insert (es := es6) (ck := 6) rfl rfl rfl Tryz.underlying36 Tryz.underlying9 fi6 ?_)
  refine sl_ (l_insert (es := es7) (ck := 7) rfl rfl rfl Tryz.underlying36 Tryz.underlying9 fi7 ?_)
  refine sl_ (l_insert (es := es8) (ck := 8) rfl rfl rfl Tryz.underlying36 Tryz.underlying9 fi8 ?_)
  refine sl_ (l_insert (es := es9) (ck := 9) rfl rfl rfl Tryz.underlying36 Tryz.underlying9 fi9 ?_)
  refine sl_ (l_insert (es := es10) (ck := 10) rfl rfl rfl Tryz.underlying36 Tryz.underlying9 fi10 ?_)
  refine sl_ (l_insert (es := es11) (ck := 11) rfl rfl rfl Tryz.underlying36 Tryz.underlying9 fi11 ?_)
  refine sl_ (l_insert (es := es12) (ck := 12) rfl rfl rfl Tryz.underlying36 Tryz.underlying9 fi12 ?_)
  refine sl_ (l_insert (es := es13) (ck := 13) rfl rfl rfl Tryz.underlying36 Tryz.underlying9 fi13 ?_)
  refine sl_ (l_insert (es := es14) (ck := 14) rfl rfl rfl Tryz.underlying36 Tryz.underlying9 fi14 ?_)
  refine sl_ (l_insert (es := es15) (ck := 15) rfl rfl rfl Tryz.underlying36 Tryz.underlying9 fi15 ?_)
  refine sl_ (l_insert (es := es16) (ck := 16) rfl rfl rfl Tryz.underlying36 Tryz.underlying9 fi16 ?_)
  refine sl_ (l_insert (es := es17) (ck := 17) rfl rfl rfl Tryz.underlying36 Tryz.underlying9 fi17 ?_)
  refine sl_ (l_insert (es := es18) (ck := 18) rfl rfl rfl Tryz.underlying36 Tryz.underlying9 fi18 ?_)
  refine sl_ (l_insert (es := es19) (ck := 19) rfl rfl rfl Tryz.underlying36 Tryz.underlying9 fi19 ?_)
  refine sl_ (l_insert (es := es20) (ck := 20) rfl rfl rfl Tryz.underlying36 Tryz.underlying9 fi20 ?_)
  refine sq (SM.closed) (q_move rfl) rfl ?_
  refine sq (SM.closed) (q_move rfl) rfl ?_
  refine sq (SM.closed) (q_lookup (es := es21) (i := 10) (v := (.int .i64 ((8 : Nat) : Int))) (fun _ h => h) rfl rfl Tryz.underlying36 Tryz.underlying9 (by kernel_rfl)) rfl ?_
  refine sq (SM.closed) (q_assign rfl) rfl ?_
  refine send ?_
  refine eseq ?_
  refine HT.unmap ?_
  refine HT.seq ?_
  refine HT.seq ?_
  refine HT.plain ?_
  refine sMv rfl rfl ?_
  refine sqS (q_len (len := n) rfl Tryz.underlying22) rfl ?_
  refine sMv rfl rfl ?_
  refine sqS (q_F (q_lt (p := n) (q := 8) rfl rfl) (by omega)) rfl ?_
  refine send ?_
  refine eseq ?_
  refine HT.no rfl ?_
  refine HT.skip ?_
  refine eseq ?_
  refine HT.seq ?_
  refine HT.seq ?_
  refine HT.plain ?_
  refine sMv rfl rfl ?_
  refine send ?_
  refine eseq ?_
  refine HT.block ?_
  refine HT.seq ?_
  refine HT.plain ?_
  refine sqS (q_eqs rfl rfl (r := false) (by kernel_rfl)) rfl ?_
  refine sAs rfl rfl ?_
  refine send ?_
  refine eseq ?_
  refine HT.no rfl ?_
  refine HT.seq ?_
  refine HT.plain ?_
  refine sqS (q_eqs rfl rfl (r := false) (by kernel_rfl)) rfl ?_
  refine sAs rfl rfl ?_
  refine send ?_
  refine eseq ?_
  refine HT.no rfl ?_
  refine HT.seq ?_
  refine HT.plain ?_
  refine sqS (q_eqs rfl rfl (r := false) (by kernel_rfl)) rfl ?_
  refine sAs rfl rfl ?_
  refine send ?_
  refine eseq ?_
  refine HT.no rfl ?_
  refine HT.seq ?_
  refine HT.plain ?_
  refine sqS (q_eqs rfl rfl (r := false) (by kernel_rfl)) rfl ?_
  refine sAs rfl rfl ?_
  refine send ?_
  refine eseq ?_
  refine HT.no rfl ?_
  refine HT.seq ?_
  refine HT.plain ?_
  refine sqS (q_eqs rfl rfl (r := false) (by kernel_rfl)) rfl ?_
  refine sAs rfl rfl ?_
  refine send ?_
  refine eseq ?_
  refine HT.no rfl ?_
  refine HT.seq ?_
  refine HT.plain ?_
  refine sqS (q_eqs rfl rfl (r := false) (by kernel_rfl)) rfl ?_
  refine sAs rfl rfl ?_
  refine send ?_
  refine eseq ?_
  refine HT.no rfl ?_
  refine HT.seq ?_
  refine HT.plain ?_
  refine sqS (q_eqs rfl rfl (r := false) (by kernel_rfl)) rfl ?_
  refine sAs rfl rfl ?_
  refine send ?_
  refine eseq ?_
  refine HT.no rfl ?_
  refine HT.seq ?_
  refine HT.plain ?_
  refine sqS (q_eqs rfl rfl (r := false) (by kernel_rfl)) rfl ?_
  refine sAs rfl rfl ?_
  refine send ?_
  refine eseq ?_
  refine HT.no rfl ?_
  refine HT.seq ?_
  refine HT.plain ?_
  refine sqS (q_eqs rfl rfl (r := false) (by kernel_rfl)) rfl ?_
  refine sAs rfl rfl ?_
  refine send ?_
  refine eseq ?_
  refine HT.no rfl ?_
  refine HT.seq ?_
  refine HT.plain ?_
  refine sqS (q_eqs rfl rfl (r := false) (by kernel_rfl)) rfl ?_
  refine sAs rfl rfl ?_
  refine send ?_
  refine eseq ?_
  refine HT.no rfl ?_
  refine HT.seq ?_
  refine HT.plain ?_
  refine sqS (q_eqs rfl rfl (r := true) (by kernel_rfl)) rfl ?_
  refine sAs rfl rfl ?_
  refine send ?_
  refine eseq ?_
  refine HT.yes rfl ?_
  refine HT.seq ?_
  refine HT.plain ?_
  refine sMv rfl rfl ?_
  refine sl_ (l_callLay (vs := [(.slice A n c)]) (tup := fun L => .tuple #[L.val, .bool true, .bool true]) 0 (by decide) rfl ca_39 rfl (fun w h => geneve_s6 w A n c bs N (by omega) (by omega) (by omega) (by omega) hd (by omega) (St.enter (sp := []) (Kc := []) (bi := [0]) h rfl rfl rfl)) fun L hfL hdL hoL => ?_)
  refine sqS (q_extract (vs := [(.agg #[(.slice L.nums.A L.nums.n L.nums.c), (.slice L.dA L.dn L.dc), (.slice L.pA L.pn L.pc), (.slice L.pay.A L.pay.n L.pay.c)]), (.bool true), (.bool true)]) (i := 0) rfl rfl) rfl ?_
  refine sqS (q_extract (vs := [(.agg #[(.slice L.nums.A L.nums.n L.nums.c), (.slice L.dA L.dn L.dc), (.slice L.pA L.pn L.pc), (.slice L.pay.A L.pay.n L.pay.c)]), (.bool true), (.bool true)]) (i := 1) rfl rfl) rfl ?_
  refine sqS (q_extract (vs := [(.agg #[(.slice L.nums.A L.nums.n L.nums.c), (.slice L.dA L.dn L.dc), (.slice L.pA L.pn L.pc), (.slice L.pay.A L.pay.n L.pay.c)]), (.bool true), (.bool true)]) (i := 2) rfl rfl) rfl ?_
  refine sl_ (l_storeAgg (b := b4) (off := 0) (j := 0) (vs := [(.slice L.nums.A L.nums.n L.nums.c), (.slice L.dA L.dn L.dc), (.slice L.pA L.pn L.pc), (.slice L.pay.A L.pay.n L.pay.c)]) rfl rfl aggs_29 (by simp [Value.one1]) rfl rfl rfl (Nat.le_of_ble_eq_true rfl) ?_)
  refine sAs rfl rfl ?_
  refine sAs rfl rfl ?_
  refine send ?_
  refine eseq ?_
  refine HT.ret ?_
  refine rt_in ?_
  refine rt_then ?_
  exact fun a ha w' hw => fin_ ha (resc3 ha Tryz.results26 rfl (ld_ aggs_29 hw (j := 0) rfl rfl (vs := [(.slice L.nums.A L.nums.n L.nums.c), (.slice L.dA L.dn L.dc), (.slice L.pA L.pn L.pc), (.slice L.pay.A L.pay.n L.pay.c)]) rfl) rfl rfl) ⟨L, rfl, hw.pres, ⟨hw.fact (j := 1) rfl, hfL⟩, hdL⟩

abbrev geneve_s7_k0 (b44 : Nat) (bs : List UInt8) : Kb := ⟨b44, 39, [some (.int .u64 ((0 : Nat) : Int)), some (.int .u64 ((4 * (nb bs 0) : Nat) : Int)), some (.int .u64 ((bitN (decide (((nb bs 1) &&& 128) ≠ 0)) : Nat) : Int)), some (.int .u64 ((bitN (decide (((nb bs 1) &&& 64) ≠ 0)) : Nat) : Int)), some (.int .u64 ((bN bs 2 2 : Nat) : Int)), some (.int .u64 ((bN bs 4 3 : Nat) : Int))], true⟩
abbrev geneve_s7_k1 (b94 : Nat) (bs : List UInt8) (i : Nat) : Kb := ⟨b94, 39, [some (.int .u64 ((bN bs (vof bs i) 2 : Nat) : Int)), some (.int .u64 ((nb bs ((vof bs i) + 2) : Nat) : Int)), some (.int .u64 (((nb bs ((vof bs i) + 3)) / 16 : Nat) : Int)), some (.int .u64 ((4 + (4 * ((nb bs ((vof bs i) + 3)) &&& 31)) : Nat) : Int))], true⟩
abbrev geneve_s7_k2 (b2 : Nat) : Kb := ⟨b2, 29, [some (.slice none 0 0), some (.slice none 0 0), some (.slice none 0 0), some (.slice none 0 0)], true⟩
abbrev geneve_s7_k3 (b99 : Nat) (b94 : Nat) (Ai : Option Addr) (ci : Nat) (bs : List UInt8) (i : Nat) : Kb := ⟨b99, 49, [some (.slice (some ⟨b94, 0, none⟩) 4 4), some (.slice (cutA Ai ci 4) ((4 + (4 * ((nb bs ((vof bs i) + 3)) &&& 31))) - 4) (ci - 4))], true⟩
abbrev geneve_s7_k4 (b6 : Nat) (b44 : Nat) (v : Value) : Kb := ⟨b6, 29, [some (.slice (some ⟨b44, 0, none⟩) 6 6), some (.slice none 0 0), some v, some (.slice none 0 0)], true⟩
abbrev geneve_s7_k5 (b6 : Nat) (b44 : Nat) (v100 : Value) : Kb := ⟨b6, 29, [some (.slice (some ⟨b44, 0, none⟩) 6 6), some (.slice none 0 0), some v100, some (.slice none 0 0)], true⟩
abbrev geneve_s7_k6 (b6 : Nat) (b44 : Nat) (Av : Option Addr) (i : Nat) (cv : Nat) : Kb := ⟨b6, 29, [some (.slice (some ⟨b44, 0, none⟩) 6 6), some (.slice none 0 0), some (.slice Av i cv), some (.slice none 0 0)], true⟩

theorem geneve_s7 (w : World) (A : Option Addr) (n : Nat) (c : Nat) (bs : List UInt8) (N : Nat) (hn : n ≤ 2147483647) (ha : 8 ≤ n) (hb : nb bs 0 ≤ 61) (hc : 4 * nb bs 0 ≤ n - 8) (hd : ∀ i, i < N → vof bs i < 8 + 4 * nb bs 0 ∧ vof bs (i + 1) ≤ 8 + 4 * nb bs 0 ∧ nb bs (vof bs i + 3) / 16 % 2 = 0) (he : vof bs N < 8 + 4 * nb bs 0) (hf : 8 + 4 * nb bs 0 < vof bs (N + 1) ∨ nb bs (vof bs N + 3) / 16 % 2 ≠ 0) (hst : St w [] [] [Byt A n c bs] w) : Calls Tryz.prog 39 #[(.slice A n c)] w (CP w [] [Byt A n c bs] (ι := BI × BI × BI × BI) (fun u => .tuple #[.agg #[u.1.val, u.2.1.val, u.2.2.1.val, u.2.2.2.val], .bool false, .bool false]) (fun _ => []) (fun _ => [])) := by
  have hnc00 : n ≤ c := (hst.fact (j := 0) rfl).2.1
  refine enter (vs := [(.slice A n c)]) Tryz.func39 rfl rfl rfl hst ?_
  refine HT.seq ?_
  refine HT.plain ?_
  refine sl_ (l_alloc (by decide) zero_29 fun b2 => ?_)
  refine sAs rfl rfl ?_
  refine sAs rfl rfl ?_
  refine send ?_
  refine eseq ?_
  refine HT.seq ?_
  refine HT.plain ?_
  refine sMv rfl rfl ?_
  refine sqS (q_index (i := 0) (j := 0) rfl rfl Tryz.underlying22 nagg_5 (fun _ h => h) rfl (by omega)) rfl ?_
  refine sqS (q_byte (i := 0) (j := 0) rfl nagg_5 (fun _ h => h) rfl (by omega)) rfl ?_
  refine sqS (q_N (q_and (p := nb bs 0) (q := 63) rfl rfl rfl (show nb bs 0 < 256 by have := nb_lt bs 0; omega) (by decide)) (a := (nb bs 0) &&& 63) (b := nb bs 0) (by have := zm63 (nb bs 0); omega)) rfl ?_
  refine sqS (q_convn (p := nb bs 0) rfl Tryz.underlying5 Tryz.underlying3 (show nb bs 0 < 9223372036854775808 by have := nb_lt bs 0; omega)) rfl ?_
  refine sqS (q_mul (p := 4) (q := nb bs 0) rfl rfl (show 4 * (nb bs 0) < 9223372036854775808 by have := nb_lt bs 0; omega)) rfl ?_
  refine sAs rfl rfl ?_
  refine send ?_
  refine eseq ?_
  refine HT.seq ?_
  refine HT.seq ?_
  refine HT.plain ?_
  refine sMv rfl rfl ?_
  refine sqS (q_index (i := 0) (j := 0) rfl rfl Tryz.underlying22 nagg_5 (fun _ h => h) rfl (by omega)) rfl ?_
  refine sqS (q_byte (i := 0) (j := 0) rfl nagg_5 (fun _ h => h) rfl (by omega)) rfl ?_
  refine sqS (q_F (q_ge (p := nb bs 0) (q := 64) rfl rfl) (by have := nb_lt bs 0; omega)) rfl ?_
  refine sMv rfl rfl ?_
  refine sgqS rfl (q_move rfl) rfl ?_
  refine sgqS rfl (q_F (q_gt (p := 4 * (nb bs 0)) (q := 244) rfl rfl) (by have := nb_lt bs 0; omega)) rfl ?_
  refine sqS (q_pick rfl (fun h => nomatch h) (fun _ => rfl)) rfl ?_
  refine send ?_
  refine eseq ?_
  refine HT.no rfl ?_
  refine HT.skip ?_
  refine eseq ?_
  refine HT.seq ?_
  refine HT.drawnS mixed (St.closed _ _ _ _) ?_
  refine dtake (f := 4) [0, 1, 2, 3, 4, 5, 6, 7, 8, 9, 10, 11, 12, 13, 14, 15, 16, 17, 18, 19] (by kernel_rfl) (St.closed _ _ _ _) (fun _ h => h) (by kernel_rfl) ?_
  refine dq rfl (q_move rfl) ?_
  refine dq rfl (q_convn (p := 4 * (nb bs 0)) rfl Tryz.underlying3 Tryz.underlying39 (show 4 * (nb bs 0) < 18446744073709551616 by have := nb_lt bs 0; omega)) ?_
  refine dq rfl (q_move rfl) ?_
  refine dq rfl (q_index (i := 1) (j := 0) rfl rfl Tryz.underlying22 nagg_5 (fun _ h => h) rfl (by omega)) ?_
  refine dq rfl (q_byte (i := 1) (j := 0) rfl nagg_5 (fun _ h => h) rfl (by omega)) ?_
  refine dq rfl (q_and (p := nb bs 1) (q := 128) rfl rfl rfl (show nb bs 1 < 256 by have := nb_lt bs 1; omega) (by decide)) ?_
  refine dq rfl (q_convn (p := (nb bs 1) &&& 128) rfl Tryz.underlying5 Tryz.underlying39 (show (nb bs 1) &&& 128 < 18446744073709551616 by have := nb_lt bs 1; have := zb128 (nb bs 1); have := Nat.and_le_left (n := nb bs 1) (m := 128); have := Nat.and_le_right (n := nb bs 1) (m := 128); omega)) ?_
  refine dq rfl (q_call (vs := [(.int .u64 (((nb bs 1) &&& 128 : Nat) : Int))]) (v := (.int .u64 ((bitN (decide (((nb bs 1) &&& 128) ≠ 0)) : Nat) : Int))) rfl ca_54 (fun w h => truthC w ((nb bs 1) &&& 128)  (St.enter (sp := []) (Kc := []) (bi := []) h rfl rfl rfl))) ?_
  refine dq rfl (q_move rfl) ?_
  refine dq rfl (q_index (i := 1) (j := 0) rfl rfl Tryz.underlying22 nagg_5 (fun _ h => h) rfl (by omega)) ?_
  refine dq rfl (q_byte (i := 1) (j := 0) rfl nagg_5 (fun _ h => h) rfl (by omega)) ?_
  refine dq rfl (q_and (p := nb bs 1) (q := 64) rfl rfl rfl (show nb bs 1 < 256 by have := nb_lt bs 1; omega) (by decide)) ?_
  refine dq rfl (q_convn (p := (nb bs 1) &&& 64) rfl Tryz.underlying5 Tryz.underlying39 (show (nb bs 1) &&& 64 < 18446744073709551616 by have := nb_lt bs 1; have := zb64 (nb bs 1); have := Nat.and_le_left (n := nb bs 1) (m := 64); have := Nat.and_le_right (n := nb bs 1) (m := 64); omega)) ?_
  refine dq rfl (q_call (vs := [(.int .u64 (((nb bs 1) &&& 64 : Nat) : Int))]) (v := (.int .u64 ((bitN (decide (((nb bs 1) &&& 64) ≠ 0)) : Nat) : Int))) rfl ca_54 (fun w h => truthC w ((nb bs 1) &&& 64)  (St.enter (sp := []) (Kc := []) (bi := []) h rfl rfl rfl))) ?_
  refine dq rfl (q_move rfl) ?_
  refine dq rfl (q_slice (lo := 2) (hi := 4) rfl Tryz.underlying22 nagg_5 (.inr ⟨_, _, rfl, rfl⟩) (.inr ⟨_, _, rfl, rfl⟩) (by omega) (by omega)) ?_
  refine dq rfl (q_call (vs := [(.slice (cutA A c 2) (4 - 2) (c - 2))]) (v := (.int .u64 ((bN bs 2 2 : Nat) : Int))) rfl ca_34 (fun w h => NumberC w A n c bs (lo := 2) (hi := 4) (h.fact (j := 0) rfl) (k := 2) rfl (by decide) (by omega) (by omega))) ?_
  refine dq rfl (q_move rfl) ?_
  refine dq rfl (q_slice (lo := 4) (hi := 7) rfl Tryz.underlying22 nagg_5 (.inr ⟨_, _, rfl, rfl⟩) (.inr ⟨_, _, rfl, rfl⟩) (by omega) (by omega)) ?_
  refine dq rfl (q_call (vs := [(.slice (cutA A c 4) (7 - 4) (c - 4))]) (v := (.int .u64 ((bN bs 4 3 : Nat) : Int))) rfl ca_34 (fun w h => NumberC w A n c bs (lo := 4) (hi := 7) (h.fact (j := 0) rfl) (k := 3) rfl (by decide) (by omega) (by omega))) ?_
  refine QL.nil ?_
  refine RG.step2 20 22 (by kernel_rfl) ?_ ?_
  · refine dop rfl (l_buildSlice (e := 39) (vs := [(0, (.int .u64 ((0 : Nat) : Int))), (1, (.int .u64 ((4 * (nb bs 0) : Nat) : Int))), (2, (.int .u64 ((bitN (decide (((nb bs 1) &&& 128) ≠ 0)) : Nat) : Int))), (3, (.int .u64 ((bitN (decide (((nb bs 1) &&& 64) ≠ 0)) : Nat) : Int))), (4, (.int .u64 ((bN bs 2 2 : Nat) : Int))), (5, (.int .u64 ((bN bs 4 3 : Nat) : Int)))]) (cs := [(.int .u64 ((0 : Nat) : Int)), (.int .u64 ((4 * (nb bs 0) : Nat) : Int)), (.int .u64 ((bitN (decide (((nb bs 1) &&& 128) ≠ 0)) : Nat) : Int)), (.int .u64 ((bitN (decide (((nb bs 1) &&& 64) ≠ 0)) : Nat) : Int)), (.int .u64 ((bN bs 2 2 : Nat) : Int)), (.int .u64 ((bN bs 4 3 : Nat) : Int))]) (by decide) rfl (fun _ => by kernel_rfl) fun b44 => ⟨(fun _ h => (h.wk [(0, [])] rfl)), ?_⟩)
    refine dtake (f := 2) [21] (by kernel_rfl) (St.closed _ _ _ _) (fun _ h => (h.wk [(0, [])] rfl)) (by kernel_rfl) ?_
    refine dq rfl (q_call (vs := [(.slice none 0 0), (.slice (some ⟨b44, 0, none⟩) 6 6)]) (v := (.agg #[(.slice (some ⟨b44, 0, none⟩) 6 6), (.slice none 0 0), (.slice none 0 0), (.slice none 0 0)])) rfl ca_33 (fun w h => layerC w none 0 0 (some ⟨b44, 0, none⟩) 6 6  (St.enter (sp := []) (Kc := []) (bi := []) h rfl rfl rfl))) ?_
    refine QL.nil ?_
    refine RG.step1 22 (by kernel_rfl) ?_
    refine dop rfl (l_alloc (by decide) zero_29 fun b6 => ⟨(fun _ h => (h.wk [(0, [])] rfl)), ?_⟩)
    refine RG.step1 23 (by kernel_rfl) ?_
    refine dop rfl (l_storeAgg (b := b6) (off := 0) (j := 2) (vs := [(.slice (some ⟨b44, 0, none⟩) 6 6), (.slice none 0 0), (.slice none 0 0), (.slice none 0 0)]) rfl rfl aggs_29 (by simp [Value.one1]) rfl rfl rfl (Nat.le_of_ble_eq_true rfl) ⟨(fun _ h => (h.wk [(0, [])] rfl)), ?_⟩)
    refine dend (by kernel_rfl) ?_
    refine eseq ?_
    refine HT.seq ?_
    refine HT.seq ?_
    refine HT.plain ?_
    refine sMv rfl rfl ?_
    refine sMv rfl rfl ?_
    refine sqS (q_len (len := n) rfl Tryz.underlying22) rfl ?_
    refine sqS (q_sub (p := n) (q := 8) rfl rfl (by omega) (show n < 9223372036854775808 by omega)) rfl ?_
    refine sqS (q_F (q_gt (p := 4 * (nb bs 0)) (q := n - 8) rfl rfl) (by have := nb_lt bs 0; omega)) rfl ?_
    refine send ?_
    refine eseq ?_
    refine HT.no rfl ?_
    refine HT.skip ?_
    refine eseq ?_
    refine HT.seq ?_
    refine HT.plain ?_
    refine sMv rfl rfl ?_
    refine sMv rfl rfl ?_
    refine sqS (q_add (p := 8) (q := 4 * (nb bs 0)) rfl rfl (show 8 + (4 * (nb bs 0)) < 9223372036854775808 by have := nb_lt bs 0; omega)) rfl ?_
    refine sqS (q_slice (lo := 8) (hi := 8 + (4 * (nb bs 0))) rfl Tryz.underlying22 nagg_5 (.inr ⟨_, _, rfl, rfl⟩) (.inr ⟨_, _, rfl, rfl⟩) (by have := nb_lt bs 0; omega) (by have := nb_lt bs 0; omega)) rfl ?_
    refine sAs rfl rfl ?_
    refine send ?_
    refine eseq ?_
    refine HT.seq ?_
    refine HT.block ?_
    refine HT.loop (ι := {p : Nat × Option Addr × Nat × Value × List Kb × List (NI × BI) // PSt w.heap.size (Byt A n c bs) (fun j => ([bN bs (vof bs j) 2, nb bs (vof bs j + 2), nb bs (vof bs j + 3) / 16, 4 + 4 * (nb bs (vof bs j + 3) % 16)], sl bs (vof bs j + 4) (vof bs (j + 1)))) (fun j => vof bs j) (8 + (4 * (nb bs 0))) bs N p.1 p.2.1 p.2.2.1 p.2.2.2.1 p.2.2.2.2.1 p.2.2.2.2.2}) (fun p => [(0, (.slice A n c)), (2, (.pointer (some ⟨b2, 0, none⟩))), (5, (.int .i64 ((4 * (nb bs 0) : Nat) : Int))), (6, (.pointer (some ⟨b6, 0, none⟩))), (7, (.slice p.1.2.1 (8 + (4 * (nb bs 0)) - (vof bs p.1.1)) p.1.2.2.1))]) (fun p => St w [] ([(geneve_s7_k2 b2), (geneve_s7_k0 b44 bs), ⟨b6, 29, [some (.slice (some ⟨b44, 0, none⟩) 6 6), some (.slice none 0 0), some p.1.2.2.2.1, some (.slice none 0 0)], true⟩] ++ p.1.2.2.2.2.1) [Byt A n c bs, Byt p.1.2.1 (8 + (4 * (nb bs 0)) - (vof bs p.1.1)) p.1.2.2.1 (sl bs (vof bs p.1.1) (8 + (4 * (nb bs 0)))), psF p.1.2.2.2.2.2]) (fun p => N - p.1.1) ⟨(0, cutA A c 8, c - 8, .slice none 0 0, [], []), PSt.nil (fun x hx => Byt.cut_fp (lo := 8) (hi := 8 + (4 * (nb bs 0))) hx.1 hx) (show 8 + (4 * (nb bs 0)) - 8 ≤ c - 8 by omega)⟩ ⟨rfl, rfl, rfl, rfl, rfl, trivial⟩ (fun _ h => psF_nil (B := [Byt A n c bs, Byt (cutA A c 8) (8 + (4 * (nb bs 0)) - 8) (c - 8) (sl bs 8 (8 + (4 * (nb bs 0))))]) (h.cut (j := 0) (lo := 8) (hi := 8 + (4 * (nb bs 0))) rfl (by omega) (by omega))) fun ⟨⟨i, Ai, ci, v, Kr, ps⟩, hp⟩ => ?_
    replace hp : PSt w.heap.size (Byt A n c bs) (fun j => ([bN bs (vof bs j) 2, nb bs (vof bs j + 2), nb bs (vof bs j + 3) / 16, 4 + 4 * (nb bs (vof bs j + 3) % 16)], sl bs (vof bs j + 4) (vof bs (j + 1)))) (fun j => vof bs j) (8 + (4 * (nb bs 0))) bs N i Ai ci v Kr ps := hp
    have hil : i ≤ N := hp.le
    have hr : RowS 49 2 i (psV ps) v Kr := hp.row
    have hcp : 8 + (4 * (nb bs 0)) - vof bs i ≤ ci := hp.cap
    have ho := vof_succ bs i
    have hge := vof_ge bs i
    have hmo := vof_mod bs i
    have hmo2 := vof_mod bs (i + 1)
    have hma := vof_many bs i
    have h256 := nb_lt bs (vof bs i + 3)
    have hal := vof_le (e := 8 + 4 * nb bs 0) (by omega) (fun j hj => (hd j hj).2.1) i (by omega)
    have hc := hd i
    have hz : i = N → vof bs i < 8 + 4 * nb bs 0 ∧ (8 + 4 * nb bs 0 < vof bs (i + 1) ∨ nb bs (vof bs i + 3) / 16 % 2 ≠ 0) := fun e => by rw [e]; exact ⟨he, hf⟩
    have hz31 := zm31 (nb bs (vof bs i + 3))
    have hzb := zb16 (nb bs (vof bs i + 3))
    show HT _ _ _ [(0, (.slice A n c)), (2, (.pointer (some ⟨b2, 0, none⟩))), (5, (.int .i64 ((4 * (nb bs 0) : Nat) : Int))), (6, (.pointer (some ⟨b6, 0, none⟩))), (7, (.slice Ai ((8 + (4 * (nb bs 0))) - (vof bs i)) ci))] (St w [] ([(geneve_s7_k2 b2), (geneve_s7_k0 b44 bs), (geneve_s7_k4 b6 b44 v)] ++ Kr) [Byt A n c bs, Byt Ai ((8 + (4 * (nb bs 0))) - (vof bs i)) ci (sl bs (vof bs i) (8 + (4 * (nb bs 0)))), psF ps]) _
    refine HT.seq ?_
    refine HT.seq ?_
    refine HT.plain ?_
    refine sMv rfl rfl ?_
    refine sqS (q_len (len := (8 + (4 * (nb bs 0))) - (vof bs i)) rfl Tryz.underlying22) rfl ?_
    refine sqS (q_T (q_gt (p := (8 + (4 * (nb bs 0))) - (vof bs i)) (q := 0) rfl rfl) (by omega)) rfl ?_
    refine send ?_
    refine eseq ?_
    refine HT.yes rfl ?_
    refine HT.skip ?_
    refine eseq ?_
    refine HT.block ?_
    refine HT.seq ?_
    refine HT.plain ?_
    refine sMv rfl rfl ?_
    refine sqS (q_index (i := 3) (j := 1) rfl rfl Tryz.underlying22 nagg_5 (fun _ h => h) rfl (by omega)) rfl ?_
    refine sqS (q_N (q_byte (i := 3) (j := 1) rfl nagg_5 (fun _ h => h) rfl (by omega)) (a := nb (sl bs (vof bs i) (8 + (4 * (nb bs 0)))) 3) (b := nb bs ((vof bs i) + 3)) (nb_sl (by omega))) rfl ?_
    refine sqS (q_and (p := nb bs ((vof bs i) + 3)) (q := 31) rfl rfl rfl (show nb bs ((vof bs i) + 3) < 256 by have := nb_lt bs ((vof bs i) + 3); omega) (by decide)) rfl ?_
    refine sqS (q_convn (p := (nb bs ((vof bs i) + 3)) &&& 31) rfl Tryz.underlying5 Tryz.underlying3 (show (nb bs ((vof bs i) + 3)) &&& 31 < 9223372036854775808 by have := nb_lt bs ((vof bs i) + 3); have := zm31 (nb bs ((vof bs i) + 3)); have := Nat.and_le_left (n := nb bs ((vof bs i) + 3)) (m := 31); have := Nat.and_le_right (n := nb bs ((vof bs i) + 3)) (m := 31); omega)) rfl ?_
    refine sqS (q_mul (p := 4) (q := (nb bs ((vof bs i) + 3)) &&& 31) rfl rfl (show 4 * ((nb bs ((vof bs i) + 3)) &&& 31) < 9223372036854775808 by have := nb_lt bs ((vof bs i) + 3); have := zm31 (nb bs ((vof bs i) + 3)); have := Nat.and_le_left (n := nb bs ((vof bs i) + 3)) (m := 31); have := Nat.and_le_right (n := nb bs ((vof bs i) + 3)) (m := 31); omega)) rfl ?_
    refine sqS (q_add (p := 4) (q := 4 * ((nb bs ((vof bs i) + 3)) &&& 31)) rfl rfl (show 4 + (4 * ((nb bs ((vof bs i) + 3)) &&& 31)) < 9223372036854775808 by have := nb_lt bs ((vof bs i) + 3); have := zm31 (nb bs ((vof bs i) + 3)); have := Nat.and_le_left (n := nb bs ((vof bs i) + 3)) (m := 31); have := Nat.and_le_right (n := nb bs ((vof bs i) + 3)) (m := 31); omega)) rfl ?_
    refine sAs rfl rfl ?_
    refine send ?_
    refine eseq ?_
    refine HT.seq ?_
    refine HT.seq ?_
    refine HT.plain ?_
    refine sMv rfl rfl ?_
    refine sMv rfl rfl ?_
    refine sqS (q_len (len := (8 + (4 * (nb bs 0))) - (vof bs i)) rfl Tryz.underlying22) rfl ?_
    by_cases h1 : (8 + (4 * (nb bs 0))) - (vof bs i) < 4 + (4 * ((nb bs ((vof bs i) + 3)) &&& 31))
    · refine sqS (q_T (q_gt (p := 4 + (4 * ((nb bs ((vof bs i) + 3)) &&& 31))) (q := (8 + (4 * (nb bs 0))) - (vof bs i)) rfl rfl) h1) rfl ?_
      refine sMv rfl rfl ?_
      refine sskip rfl rfl ?_
      refine sskip rfl rfl ?_
      refine sskip rfl rfl ?_
      refine sskip rfl rfl ?_
      refine sskip rfl rfl ?_
      refine sqS (q_pick rfl (fun _ => rfl) (fun h => nomatch h)) rfl ?_
      refine send ?_
      refine eseq ?_
      refine HT.yes rfl ?_
      refine HT.seq ?_
      refine HT.plain ?_
      refine sqS (q_build (vs := []) (v := (.agg #[(.slice none 0 0), (.slice none 0 0), (.slice none 0 0), (.slice none 0 0)])) rfl (fun _ => by kernel_rfl)) rfl ?_
      refine sl_ (l_storeAgg (b := b2) (off := 0) (j := 0) (vs := [(.slice none 0 0), (.slice none 0 0), (.slice none 0 0), (.slice none 0 0)]) rfl rfl aggs_29 (by simp [Value.one1]) rfl rfl rfl (Nat.le_of_ble_eq_true rfl) ?_)
      refine sAs rfl rfl ?_
      refine sAs rfl rfl ?_
      refine send ?_
      refine eseq ?_
      refine HT.ret ?_
      refine rt_then ?_
      refine rt_in ?_
      refine rt_then ?_
      refine rt_in ?_
      refine rt_then ?_
      obtain ⟨Av, cv, hv⟩ := hr.val
      subst hv
      exact fun a ha w' hw => fin_ ha (resc3 ha Tryz.results39 rfl (ld_ aggs_29 hw (j := 0) rfl rfl (vs := [(.slice none 0 0), (.slice none 0 0), (.slice none 0 0), (.slice none 0 0)]) rfl) rfl rfl) ⟨(⟨none, 0, 0, []⟩, ⟨none, 0, 0, []⟩, ⟨none, 0, 0, []⟩, ⟨none, 0, 0, []⟩), rfl, (((St.untail (K := [(geneve_s7_k2 b2), (geneve_s7_k0 b44 bs), (geneve_s7_k6 b6 b44 Av i cv)]) (Kr := Kr) hw).wk [] rfl).selF [0] rfl), fr0⟩
    · refine sqS (q_F (q_gt (p := 4 + (4 * ((nb bs ((vof bs i) + 3)) &&& 31))) (q := (8 + (4 * (nb bs 0))) - (vof bs i)) rfl rfl) h1) rfl ?_
      refine sMv rfl rfl ?_
      refine sgqS rfl (q_move rfl) rfl ?_
      refine sgqS rfl (q_index (i := 3) (j := 1) rfl rfl Tryz.underlying22 nagg_5 (fun _ h => h) rfl (by omega)) rfl ?_
      refine sgqS rfl (q_N (q_byte (i := 3) (j := 1) rfl nagg_5 (fun _ h => h) rfl (by omega)) (a := nb (sl bs (vof bs i) (8 + (4 * (nb bs 0)))) 3) (b := nb bs ((vof bs i) + 3)) (nb_sl (by omega))) rfl ?_
      refine sgqS rfl (q_and (p := nb bs ((vof bs i) + 3)) (q := 16) rfl rfl rfl (show nb bs ((vof bs i) + 3) < 256 by have := nb_lt bs ((vof bs i) + 3); omega) (by decide)) rfl ?_
      by_cases h2 : (nb bs ((vof bs i) + 3)) &&& 16 ≠ 0
      · refine sgqS rfl (q_T (q_ne (p := (nb bs ((vof bs i) + 3)) &&& 16) (q := 0) rfl rfl) h2) rfl ?_
        refine sqS (q_pick rfl (fun h => nomatch h) (fun _ => rfl)) rfl ?_
        refine send ?_
        refine eseq ?_
        refine HT.yes rfl ?_
        refine HT.seq ?_
        refine HT.plain ?_
        refine sqS (q_build (vs := []) (v := (.agg #[(.slice none 0 0), (.slice none 0 0), (.slice none 0 0), (.slice none 0 0)])) rfl (fun _ => by kernel_rfl)) rfl ?_
        refine sl_ (l_storeAgg (b := b2) (off := 0) (j := 0) (vs := [(.slice none 0 0), (.slice none 0 0), (.slice none 0 0), (.slice none 0 0)]) rfl rfl aggs_29 (by simp [Value.one1]) rfl rfl rfl (Nat.le_of_ble_eq_true rfl) ?_)
        refine sAs rfl rfl ?_
        refine sAs rfl rfl ?_
        refine send ?_
        refine eseq ?_
        refine HT.ret ?_
        refine rt_then ?_
        refine rt_in ?_
        refine rt_then ?_
        refine rt_in ?_
        refine rt_then ?_
        obtain ⟨Av, cv, hv⟩ := hr.val
        subst hv
        exact fun a ha w' hw => fin_ ha (resc3 ha Tryz.results39 rfl (ld_ aggs_29 hw (j := 0) rfl rfl (vs := [(.slice none 0 0), (.slice none 0 0), (.slice none 0 0), (.slice none 0 0)]) rfl) rfl rfl) ⟨(⟨none, 0, 0, []⟩, ⟨none, 0, 0, []⟩, ⟨none, 0, 0, []⟩, ⟨none, 0, 0, []⟩), rfl, (((St.untail (K := [(geneve_s7_k2 b2), (geneve_s7_k0 b44 bs), (geneve_s7_k6 b6 b44 Av i cv)]) (Kr := Kr) hw).wk [] rfl).selF [0] rfl), fr0⟩
      · refine sgqS rfl (q_F (q_ne (p := (nb bs ((vof bs i) + 3)) &&& 16) (q := 0) rfl rfl) h2) rfl ?_
        refine sqS (q_pick rfl (fun h => nomatch h) (fun _ => rfl)) rfl ?_
        refine send ?_
        refine eseq ?_
        refine HT.no rfl ?_
        refine HT.skip ?_
        refine eseq ?_
        refine HT.seq ?_
        refine HT.drawn mixed (St.closed _ _ _ _) (St w [] [(geneve_s7_k2 b2), (geneve_s7_k0 b44 bs), ⟨b6, 29, [some (.slice (some ⟨b44, 0, none⟩) 6 6), some (.slice none 0 0), none, some (.slice none 0 0)], true⟩] [Byt A n c bs, Byt Ai ((8 + (4 * (nb bs 0))) - (vof bs i)) ci (sl bs (vof bs i) (8 + (4 * (nb bs 0)))), psF ps]) ?_
        refine dtake (f := 7) [0, 2, 3, 4, 5, 6, 7, 8, 9, 10, 11, 12, 13, 14, 15, 17, 18, 19] (by kernel_rfl) (St.closed _ _ _ _) (fun _ h => (St.wk (St.untail (K := [(geneve_s7_k2 b2), (geneve_s7_k0 b44 bs), (geneve_s7_k4 b6 b44 v)]) (Kr := Kr) h) [(0, []), (1, []), (2, [2])] rfl)) (by kernel_rfl) ?_
        refine dq rfl (q_field (b := b6) (off := 0) rfl fo_29_2) ?_
        refine dq rfl (q_move rfl) ?_
        refine dq rfl (q_slice (lo := 0) (hi := 2) rfl Tryz.underlying22 nagg_5 (.inl ⟨rfl, rfl⟩) (.inr ⟨_, _, rfl, rfl⟩) (by omega) (by omega)) ?_
        refine dq rfl (q_N (q_call (vs := [(.slice (cutA Ai ci 0) (2 - 0) (ci - 0))]) (v := (.int .u64 ((bN (sl bs (vof bs i) (8 + (4 * (nb bs 0)))) 0 2 : Nat) : Int))) rfl ca_34 (fun w h => NumberC w Ai ((8 + (4 * (nb bs 0))) - (vof bs i)) ci (sl bs (vof bs i) (8 + (4 * (nb bs 0)))) (lo := 0) (hi := 2) (h.fact (j := 1) rfl) (k := 2) rfl (by decide) (by omega) (by omega))) (a := bN (sl bs (vof bs i) (8 + (4 * (nb bs 0)))) 0 2) (b := bN bs (vof bs i) 2) (bN_sl 0 2 (by omega))) ?_
        refine dq rfl (q_move rfl) ?_
        refine dq rfl (q_index (i := 2) (j := 1) rfl rfl Tryz.underlying22 nagg_5 (fun _ h => h) rfl (by omega)) ?_
        refine dq rfl (q_N (q_byte (i := 2) (j := 1) rfl nagg_5 (fun _ h => h) rfl (by omega)) (a := nb (sl bs (vof bs i) (8 + (4 * (nb bs 0)))) 2) (b := nb bs ((vof bs i) + 2)) (nb_sl (by omega))) ?_
        refine dq rfl (q_convn (p := nb bs ((vof bs i) + 2)) rfl Tryz.underlying5 Tryz.underlying39 (show nb bs ((vof bs i) + 2) < 18446744073709551616 by have := nb_lt bs ((vof bs i) + 2); omega)) ?_
        refine dq rfl (q_move rfl) ?_
        refine dq rfl (q_index (i := 3) (j := 1) rfl rfl Tryz.underlying22 nagg_5 (fun _ h => h) rfl (by omega)) ?_
        refine dq rfl (q_N (q_byte (i := 3) (j := 1) rfl nagg_5 (fun _ h => h) rfl (by omega)) (a := nb (sl bs (vof bs i) (8 + (4 * (nb bs 0)))) 3) (b := nb bs ((vof bs i) + 3)) (nb_sl (by omega))) ?_
        refine dq rfl (q_shr (p := nb bs ((vof bs i) + 3)) (e := 4) (N := 16) rfl rfl (by decide) rfl) ?_
        refine dq rfl (q_convn (p := (nb bs ((vof bs i) + 3)) / 16) rfl Tryz.underlying5 Tryz.underlying39 (show (nb bs ((vof bs i) + 3)) / 16 < 18446744073709551616 by have := nb_lt bs ((vof bs i) + 3); omega)) ?_
        refine dq rfl (q_move rfl) ?_
        refine dq rfl (q_convn (p := 4 + (4 * ((nb bs ((vof bs i) + 3)) &&& 31))) rfl Tryz.underlying3 Tryz.underlying39 (show 4 + (4 * ((nb bs ((vof bs i) + 3)) &&& 31)) < 18446744073709551616 by have := nb_lt bs ((vof bs i) + 3); have := zm31 (nb bs ((vof bs i) + 3)); have := Nat.and_le_left (n := nb bs ((vof bs i) + 3)) (m := 31); have := Nat.and_le_right (n := nb bs ((vof bs i) + 3)) (m := 31); omega)) ?_
        refine dq rfl (q_move rfl) ?_
        refine dq rfl (q_move rfl) ?_
        refine dq rfl (q_slice (lo := 4) (hi := 4 + (4 * ((nb bs ((vof bs i) + 3)) &&& 31))) rfl Tryz.underlying22 nagg_5 (.inr ⟨_, _, rfl, rfl⟩) (.inr ⟨_, _, rfl, rfl⟩) (by have := nb_lt bs ((vof bs i) + 3); have := zm31 (nb bs ((vof bs i) + 3)); have := Nat.and_le_left (n := nb bs ((vof bs i) + 3)) (m := 31); have := Nat.and_le_right (n := nb bs ((vof bs i) + 3)) (m := 31); omega) (by have := nb_lt bs ((vof bs i) + 3); have := zm31 (nb bs ((vof bs i) + 3)); have := Nat.and_le_left (n := nb bs ((vof bs i) + 3)) (m := 31); have := Nat.and_le_right (n := nb bs ((vof bs i) + 3)) (m := 31); omega)) ?_
        refine QL.nil ?_
        refine RG.step2 1 16 (by kernel_rfl) ?_ ?_
        · refine dop rfl (l_q _ (by simp) (St.closed _ _ _ _) (q_load (b := b6) (off := 2) (j := 2) rfl nagg_27 (fun _ h => h) rfl rfl rfl) ⟨(fun _ h => (St.wk (St.untail (K := [(geneve_s7_k2 b2), (geneve_s7_k0 b44 bs), (geneve_s7_k4 b6 b44 v)]) (Kr := Kr) h) [(0, []), (1, []), (2, [2])] rfl)), ?_⟩)
          refine RG.step1 16 (by kernel_rfl) ?_
          refine dop rfl (l_buildSliceT (K := [(geneve_s7_k2 b2), (geneve_s7_k0 b44 bs), (geneve_s7_k4 b6 b44 v)]) (Kr := Kr) (e := 39) (vs := [(0, (.int .u64 ((bN bs (vof bs i) 2 : Nat) : Int))), (1, (.int .u64 ((nb bs ((vof bs i) + 2) : Nat) : Int))), (2, (.int .u64 (((nb bs ((vof bs i) + 3)) / 16 : Nat) : Int))), (3, (.int .u64 ((4 + (4 * ((nb bs ((vof bs i) + 3)) &&& 31)) : Nat) : Int)))]) (cs := [(.int .u64 ((bN bs (vof bs i) 2 : Nat) : Int)), (.int .u64 ((nb bs ((vof bs i) + 2) : Nat) : Int)), (.int .u64 (((nb bs ((vof bs i) + 3)) / 16 : Nat) : Int)), (.int .u64 ((4 + (4 * ((nb bs ((vof bs i) + 3)) &&& 31)) : Nat) : Int))]) (by decide) rfl (fun _ => by kernel_rfl) fun b94 => ⟨(fun _ h => (St.wk (St.untail (K := [(geneve_s7_k2 b2), (geneve_s7_k0 b44 bs), (geneve_s7_k4 b6 b44 v), (geneve_s7_k1 b94 bs i)]) (Kr := Kr) h) [(0, []), (1, []), (2, [2])] rfl)), ?_⟩)
          refine dtake (f := 4) [20] (by kernel_rfl) (St.closed _ _ _ _) (fun _ h => (St.wk (St.untail (K := [(geneve_s7_k2 b2), (geneve_s7_k0 b44 bs), (geneve_s7_k4 b6 b44 v), (geneve_s7_k1 b94 bs i)]) (Kr := Kr) h) [(0, []), (1, []), (2, [2])] rfl)) (by kernel_rfl) ?_
          refine dq rfl (q_build (vs := [(0, (.slice (some ⟨b94, 0, none⟩) 4 4)), (1, (.slice (cutA Ai ci 4) ((4 + (4 * ((nb bs ((vof bs i) + 3)) &&& 31))) - 4) (ci - 4)))]) (v := (.agg #[(.slice (some ⟨b94, 0, none⟩) 4 4), (.slice (cutA Ai ci 4) ((4 + (4 * ((nb bs ((vof bs i) + 3)) &&& 31))) - 4) (ci - 4))])) rfl (fun _ => by kernel_rfl)) ?_
          refine QL.nil ?_
          refine RG.step1 21 (by kernel_rfl) ?_
          refine dop rfl (l_buildSliceT (K := [(geneve_s7_k2 b2), (geneve_s7_k0 b44 bs), (geneve_s7_k4 b6 b44 v), (geneve_s7_k1 b94 bs i)]) (Kr := Kr) (e := 49) (vs := [(0, (.agg #[(.slice (some ⟨b94, 0, none⟩) 4 4), (.slice (cutA Ai ci 4) ((4 + (4 * ((nb bs ((vof bs i) + 3)) &&& 31))) - 4) (ci - 4))]))]) (cs := [(.slice (some ⟨b94, 0, none⟩) 4 4), (.slice (cutA Ai ci 4) ((4 + (4 * ((nb bs ((vof bs i) + 3)) &&& 31))) - 4) (ci - 4))]) (by decide) rfl (fun _ => by kernel_rfl) fun b99 => ⟨(fun _ h => (St.wk (St.untail (K := [(geneve_s7_k2 b2), (geneve_s7_k0 b44 bs), (geneve_s7_k4 b6 b44 v), (geneve_s7_k1 b94 bs i), (geneve_s7_k3 b99 b94 Ai ci bs i)]) (Kr := Kr) h) [(0, []), (1, []), (2, [2])] rfl)), ?_⟩)
          refine RG.step1 22 (by kernel_rfl) ?_
          refine dop rfl (l_appendR (K0 := [(geneve_s7_k2 b2), (geneve_s7_k0 b44 bs), (geneve_s7_k4 b6 b44 v), (geneve_s7_k1 b94 bs i), (geneve_s7_k3 b99 b94 Ai ci bs i)]) (Kr := Kr) (k := i) (xs := (psV ps)) (jq := 4) (news := [(.slice (some ⟨b94, 0, none⟩) 4 4), (.slice (cutA Ai ci 4) ((4 + (4 * ((nb bs ((vof bs i) + 3)) &&& 31))) - 4) (ci - 4))]) (by decide) rfl rfl Tryz.underlying27 rowT_49 (by decide) hr (by have := hil; omega) rfl rfl (by simp [Value.one1]) fun v100 Kr100 hr100 => ⟨(fun _ h => (St.wk (St.untail (K := [(geneve_s7_k2 b2), (geneve_s7_k0 b44 bs), (geneve_s7_k4 b6 b44 v), (geneve_s7_k1 b94 bs i), (geneve_s7_k3 b99 b94 Ai ci bs i)]) (Kr := Kr100) h) [(0, []), (1, []), (2, [2])] rfl)), ?_⟩)
          refine dtake (f := 1) [23] (by kernel_rfl) (St.closed _ _ _ _) (fun _ h => (St.wk (St.untail (K := [(geneve_s7_k2 b2), (geneve_s7_k0 b44 bs), (geneve_s7_k4 b6 b44 v), (geneve_s7_k1 b94 bs i), (geneve_s7_k3 b99 b94 Ai ci bs i)]) (Kr := Kr100) h) [(0, []), (1, []), (2, [2])] rfl)) (by kernel_rfl) ?_
          refine dq rfl (q_field (b := b6) (off := 0) rfl fo_29_2) ?_
          refine QL.nil ?_
          refine RG.step1 24 (by kernel_rfl) ?_
          refine dop rfl (l_store (b := b6) (off := 2) (j := 2) rfl rfl nagg_27 hr100.one rfl rfl rfl (dlt rfl) ⟨(fun _ h => (St.wk (St.untail (K := [(geneve_s7_k2 b2), (geneve_s7_k0 b44 bs), (geneve_s7_k5 b6 b44 v100), (geneve_s7_k1 b94 bs i), (geneve_s7_k3 b99 b94 Ai ci bs i)]) (Kr := Kr100) h) [(0, []), (1, []), (2, [2])] rfl)), ?_⟩)
          refine dend (by kernel_rfl) ?_
          refine eseq ?_
          refine HT.norm ([(geneve_s7_k2 b2), (geneve_s7_k0 b44 bs), (geneve_s7_k5 b6 b44 v100), (geneve_s7_k1 b94 bs i), (geneve_s7_k3 b99 b94 Ai ci bs i)] ++ Kr100) [Byt A n c bs, Byt Ai ((8 + (4 * (nb bs 0))) - (vof bs i)) ci (sl bs (vof bs i) (8 + (4 * (nb bs 0)))), psF ps] rfl rfl ?_
          refine HT.plain ?_
          refine sMv rfl rfl ?_
          refine sMv rfl rfl ?_
          refine sqS (q_slice (lo := 4 + (4 * ((nb bs ((vof bs i) + 3)) &&& 31))) (hi := (8 + (4 * (nb bs 0))) - (vof bs i)) rfl Tryz.underlying22 nagg_5 (.inr ⟨_, _, rfl, rfl⟩) (.inl ⟨rfl, rfl⟩) (by have := nb_lt bs ((vof bs i) + 3); have := zm31 (nb bs ((vof bs i) + 3)); have := Nat.and_le_left (n := nb bs ((vof bs i) + 3)) (m := 31); have := Nat.and_le_right (n := nb bs ((vof bs i) + 3)) (m := 31); omega) (by omega)) rfl ?_
          refine sAs rfl rfl ?_
          refine send ?_
          refine ein ?_
          exact fun a ha w' hw => by
            obtain ⟨hp2, hs2⟩ := PSt.step hp (X := [(geneve_s7_k2 b2), (geneve_s7_k0 b44 bs), (geneve_s7_k5 b6 b44 v100)]) (Y := [(geneve_s7_k3 b99 b94 Ai ci bs i)]) (k := (geneve_s7_k1 b94 bs i)) (B := [Byt A n c bs]) (r := []) (cnt := 4) (cap := 4) (xs := [bN bs (vof bs i) 2, nb bs ((vof bs i) + 2), (nb bs ((vof bs i) + 3)) / 16, 4 + (4 * ((nb bs ((vof bs i) + 3)) &&& 31))]) (lo := 4) (hi := 4 + (4 * ((nb bs ((vof bs i) + 3)) &&& 31))) (sz := 4 + (4 * ((nb bs ((vof bs i) + 3)) &&& 31))) hw (by omega) rfl rfl (Nat.le_refl _) rfl hr100 (by omega) (by omega) (by omega) (by omega) (pdt (lc rfl (lc (show nb bs ((vof bs i) + 2) = nb bs (vof bs i + 2) from by omega) (lc (show (nb bs ((vof bs i) + 3)) / 16 = nb bs (vof bs i + 3) / 16 from by omega) (lc (show 4 + (4 * ((nb bs ((vof bs i) + 3)) &&& 31)) = 4 + 4 * (nb bs (vof bs i + 3) % 16) from by omega) rfl)))) (by omega) (by omega))
            exact eround2 ⟨(i + 1, _, _, _, _, _), hp2⟩ (show N - (i + 1) < N - i by omega) (ha.sub ⟨rfl, rfl, rfl, rfl, slc (n' := 8 + (4 * (nb bs 0)) - vof bs (i + 1)) (by omega), trivial⟩) hs2
        · refine dop rfl (l_buildSliceT (K := [(geneve_s7_k2 b2), (geneve_s7_k0 b44 bs), (geneve_s7_k4 b6 b44 v)]) (Kr := Kr) (e := 39) (vs := [(0, (.int .u64 ((bN bs (vof bs i) 2 : Nat) : Int))), (1, (.int .u64 ((nb bs ((vof bs i) + 2) : Nat) : Int))), (2, (.int .u64 (((nb bs ((vof bs i) + 3)) / 16 : Nat) : Int))), (3, (.int .u64 ((4 + (4 * ((nb bs ((vof bs i) + 3)) &&& 31)) : Nat) : Int)))]) (cs := [(.int .u64 ((bN bs (vof bs i) 2 : Nat) : Int)), (.int .u64 ((nb bs ((vof bs i) + 2) : Nat) : Int)), (.int .u64 (((nb bs ((vof bs i) + 3)) / 16 : Nat) : Int)), (.int .u64 ((4 + (4 * ((nb bs ((vof bs i) + 3)) &&& 31)) : Nat) : Int))]) (by decide) rfl (fun _ => by kernel_rfl) fun b94 => ⟨(fun _ h => (St.wk (St.untail (K := [(geneve_s7_k2 b2), (geneve_s7_k0 b44 bs), (geneve_s7_k4 b6 b44 v), (geneve_s7_k1 b94 bs i)]) (Kr := Kr) h) [(0, []), (1, []), (2, [2])] rfl)), ?_⟩)
          refine dtake (f := 5) [20] (by kernel_rfl) (St.closed _ _ _ _) (fun _ h => (St.wk (St.untail (K := [(geneve_s7_k2 b2), (geneve_s7_k0 b44 bs), (geneve_s7_k4 b6 b44 v), (geneve_s7_k1 b94 bs i)]) (Kr := Kr) h) [(0, []), (1, []), (2, [2])] rfl)) (by kernel_rfl) ?_
          refine dq rfl (q_build (vs := [(0, (.slice (some ⟨b94, 0, none⟩) 4 4)), (1, (.slice (cutA Ai ci 4) ((4 + (4 * ((nb bs ((vof bs i) + 3)) &&& 31))) - 4) (ci - 4)))]) (v := (.agg #[(.slice (some ⟨b94, 0, none⟩) 4 4), (.slice (cutA Ai ci 4) ((4 + (4 * ((nb bs ((vof bs i) + 3)) &&& 31))) - 4) (ci - 4))])) rfl (fun _ => by kernel_rfl)) ?_
          refine QL.nil ?_
          refine RG.step2 1 21 (by kernel_rfl) ?_ ?_
          · refine dop rfl (l_q _ (by simp) (St.closed _ _ _ _) (q_load (b := b6) (off := 2) (j := 2) rfl nagg_27 (fun _ h => h) rfl rfl rfl) ⟨(fun _ h => (St.wk (St.untail (K := [(geneve_s7_k2 b2), (geneve_s7_k0 b44 bs), (geneve_s7_k4 b6 b44 v), (geneve_s7_k1 b94 bs i)]) (Kr := Kr) h) [(0, []), (1, []), (2, [2])] rfl)), ?_⟩)
            refine RG.step1 21 (by kernel_rfl) ?_
            refine dop rfl (l_buildSliceT (K := [(geneve_s7_k2 b2), (geneve_s7_k0 b44 bs), (geneve_s7_k4 b6 b44 v), (geneve_s7_k1 b94 bs i)]) (Kr := Kr) (e := 49) (vs := [(0, (.agg #[(.slice (some ⟨b94, 0, none⟩) 4 4), (.slice (cutA Ai ci 4) ((4 + (4 * ((nb bs ((vof bs i) + 3)) &&& 31))) - 4) (ci - 4))]))]) (cs := [(.slice (some ⟨b94, 0, none⟩) 4 4), (.slice (cutA Ai ci 4) ((4 + (4 * ((nb bs ((vof bs i) + 3)) &&& 31))) - 4) (ci - 4))]) (by decide) rfl (fun _ => by kernel_rfl) fun b99 => ⟨(fun _ h => (St.wk (St.untail (K := [(geneve_s7_k2 b2), (geneve_s7_k0 b44 bs), (geneve_s7_k4 b6 b44 v), (geneve_s7_k1 b94 bs i), (geneve_s7_k3 b99 b94 Ai ci bs i)]) (Kr := Kr) h) [(0, []), (1, []), (2, [2])] rfl)), ?_⟩)
            refine RG.step1 22 (by kernel_rfl) ?_
            refine dop rfl (l_appendR (K0 := [(geneve_s7_k2 b2), (geneve_s7_k0 b44 bs), (geneve_s7_k4 b6 b44 v), (geneve_s7_k1 b94 bs i), (geneve_s7_k3 b99 b94 Ai ci bs i)]) (Kr := Kr) (k := i) (xs := (psV ps)) (jq := 4) (news := [(.slice (some ⟨b94, 0, none⟩) 4 4), (.slice (cutA Ai ci 4) ((4 + (4 * ((nb bs ((vof bs i) + 3)) &&& 31))) - 4) (ci - 4))]) (by decide) rfl rfl Tryz.underlying27 rowT_49 (by decide) hr (by have := hil; omega) rfl rfl (by simp [Value.one1]) fun v100 Kr100 hr100 => ⟨(fun _ h => (St.wk (St.untail (K := [(geneve_s7_k2 b2), (geneve_s7_k0 b44 bs), (geneve_s7_k4 b6 b44 v), (geneve_s7_k1 b94 bs i), (geneve_s7_k3 b99 b94 Ai ci bs i)]) (Kr := Kr100) h) [(0, []), (1, []), (2, [2])] rfl)), ?_⟩)
            refine dtake (f := 1) [23] (by kernel_rfl) (St.closed _ _ _ _) (fun _ h => (St.wk (St.untail (K := [(geneve_s7_k2 b2), (geneve_s7_k0 b44 bs), (geneve_s7_k4 b6 b44 v), (geneve_s7_k1 b94 bs i), (geneve_s7_k3 b99 b94 Ai ci bs i)]) (Kr := Kr100) h) [(0, []), (1, []), (2, [2])] rfl)) (by kernel_rfl) ?_
            refine dq rfl (q_field (b := b6) (off := 0) rfl fo_29_2) ?_
            refine QL.nil ?_
            refine RG.step1 24 (by kernel_rfl) ?_
            refine dop rfl (l_store (b := b6) (off := 2) (j := 2) rfl rfl nagg_27 hr100.one rfl rfl rfl (dlt rfl) ⟨(fun _ h => (St.wk (St.untail (K := [(geneve_s7_k2 b2), (geneve_s7_k0 b44 bs), (geneve_s7_k5 b6 b44 v100), (geneve_s7_k1 b94 bs i), (geneve_s7_k3 b99 b94 Ai ci bs i)]) (Kr := Kr100) h) [(0, []), (1, []), (2, [2])] rfl)), ?_⟩)
            refine dend (by kernel_rfl) ?_
            refine eseq ?_
            refine HT.norm ([(geneve_s7_k2 b2), (geneve_s7_k0 b44 bs), (geneve_s7_k5 b6 b44 v100), (geneve_s7_k1 b94 bs i), (geneve_s7_k3 b99 b94 Ai ci bs i)] ++ Kr100) [Byt A n c bs, Byt Ai ((8 + (4 * (nb bs 0))) - (vof bs i)) ci (sl bs (vof bs i) (8 + (4 * (nb bs 0)))), psF ps] rfl rfl ?_
            refine HT.plain ?_
            refine sMv rfl rfl ?_
            refine sMv rfl rfl ?_
            refine sqS (q_slice (lo := 4 + (4 * ((nb bs ((vof bs i) + 3)) &&& 31))) (hi := (8 + (4 * (nb bs 0))) - (vof bs i)) rfl Tryz.underlying22 nagg_5 (.inr ⟨_, _, rfl, rfl⟩) (.inl ⟨rfl, rfl⟩) (by have := nb_lt bs ((vof bs i) + 3); have := zm31 (nb bs ((vof bs i) + 3)); have := Nat.and_le_left (n := nb bs ((vof bs i) + 3)) (m := 31); have := Nat.and_le_right (n := nb bs ((vof bs i) + 3)) (m := 31); omega) (by omega)) rfl ?_
            refine sAs rfl rfl ?_
            refine send ?_
            refine ein ?_
            exact fun a ha w' hw => by
              obtain ⟨hp2, hs2⟩ := PSt.step hp (X := [(geneve_s7_k2 b2), (geneve_s7_k0 b44 bs), (geneve_s7_k5 b6 b44 v100)]) (Y := [(geneve_s7_k3 b99 b94 Ai ci bs i)]) (k := (geneve_s7_k1 b94 bs i)) (B := [Byt A n c bs]) (r := []) (cnt := 4) (cap := 4) (xs := [bN bs (vof bs i) 2, nb bs ((vof bs i) + 2), (nb bs ((vof bs i) + 3)) / 16, 4 + (4 * ((nb bs ((vof bs i) + 3)) &&& 31))]) (lo := 4) (hi := 4 + (4 * ((nb bs ((vof bs i) + 3)) &&& 31))) (sz := 4 + (4 * ((nb bs ((vof bs i) + 3)) &&& 31))) hw (by omega) rfl rfl (Nat.le_refl _) rfl hr100 (by omega) (by omega) (by omega) (by omega) (pdt (lc rfl (lc (show nb bs ((vof bs i) + 2) = nb bs (vof bs i + 2) from by omega) (lc (show (nb bs ((vof bs i) + 3)) / 16 = nb bs (vof bs i + 3) / 16 from by omega) (lc (show 4 + (4 * ((nb bs ((vof bs i) + 3)) &&& 31)) = 4 + 4 * (nb bs (vof bs i + 3) % 16) from by omega) rfl)))) (by omega) (by omega))
              exact eround2 ⟨(i + 1, _, _, _, _, _), hp2⟩ (show N - (i + 1) < N - i by omega) (ha.sub ⟨rfl, rfl, rfl, rfl, slc (n' := 8 + (4 * (nb bs 0)) - vof bs (i + 1)) (by omega), trivial⟩) hs2
          · refine dop rfl (l_buildSliceT (K := [(geneve_s7_k2 b2), (geneve_s7_k0 b44 bs), (geneve_s7_k4 b6 b44 v), (geneve_s7_k1 b94 bs i)]) (Kr := Kr) (e := 49) (vs := [(0, (.agg #[(.slice (some ⟨b94, 0, none⟩) 4 4), (.slice (cutA Ai ci 4) ((4 + (4 * ((nb bs ((vof bs i) + 3)) &&& 31))) - 4) (ci - 4))]))]) (cs := [(.slice (some ⟨b94, 0, none⟩) 4 4), (.slice (cutA Ai ci 4) ((4 + (4 * ((nb bs ((vof bs i) + 3)) &&& 31))) - 4) (ci - 4))]) (by decide) rfl (fun _ => by kernel_rfl) fun b99 => ⟨(fun _ h => (St.wk (St.untail (K := [(geneve_s7_k2 b2), (geneve_s7_k0 b44 bs), (geneve_s7_k4 b6 b44 v), (geneve_s7_k1 b94 bs i), (geneve_s7_k3 b99 b94 Ai ci bs i)]) (Kr := Kr) h) [(0, []), (1, []), (2, [2])] rfl)), ?_⟩)
            refine RG.step1 1 (by kernel_rfl) ?_
            refine dop rfl (l_q _ (by simp) (St.closed _ _ _ _) (q_load (b := b6) (off := 2) (j := 2) rfl nagg_27 (fun _ h => h) rfl rfl rfl) ⟨(fun _ h => (St.wk (St.untail (K := [(geneve_s7_k2 b2), (geneve_s7_k0 b44 bs), (geneve_s7_k4 b6 b44 v), (geneve_s7_k1 b94 bs i), (geneve_s7_k3 b99 b94 Ai ci bs i)]) (Kr := Kr) h) [(0, []), (1, []), (2, [2])] rfl)), ?_⟩)
            refine RG.step1 22 (by kernel_rfl) ?_
            refine dop rfl (l_appendR (K0 := [(geneve_s7_k2 b2), (geneve_s7_k0 b44 bs), (geneve_s7_k4 b6 b44 v), (geneve_s7_k1 b94 bs i), (geneve_s7_k3 b99 b94 Ai ci bs i)]) (Kr := Kr) (k := i) (xs := (psV ps)) (jq := 4) (news := [(.slice (some ⟨b94, 0, none⟩) 4 4), (.slice (cutA Ai ci 4) ((4 + (4 * ((nb bs ((vof bs i) + 3)) &&& 31))) - 4) (ci - 4))]) (by decide) rfl rfl Tryz.underlying27 rowT_49 (by decide) hr (by have := hil; omega) rfl rfl (by simp [Value.one1]) fun v100 Kr100 hr100 => ⟨(fun _ h => (St.wk (St.untail (K := [(geneve_s7_k2 b2), (geneve_s7_k0 b44 bs), (geneve_s7_k4 b6 b44 v), (geneve_s7_k1 b94 bs i), (geneve_s7_k3 b99 b94 Ai ci bs i)]) (Kr := Kr100) h) [(0, []), (1, []), (2, [2])] rfl)), ?_⟩)
            refine dtake (f := 1) [23] (by kernel_rfl) (St.closed _ _ _ _) (fun _ h => (St.wk (St.untail (K := [(geneve_s7_k2 b2), (geneve_s7_k0 b44 bs), (geneve_s7_k4 b6 b44 v), (geneve_s7_k1 b94 bs i), (geneve_s7_k3 b99 b94 Ai ci bs i)]) (Kr := Kr100) h) [(0, []), (1, []), (2, [2])] rfl)) (by kernel_rfl) ?_
            refine dq rfl (q_field (b := b6) (off := 0) rfl fo_29_2) ?_
            refine QL.nil ?_
            refine RG.step1 24 (by kernel_rfl) ?_
            refine dop rfl (l_store (b := b6) (off := 2) (j := 2) rfl rfl nagg_27 hr100.one rfl rfl rfl (dlt rfl) ⟨(fun _ h => (St.wk (St.untail (K := [(geneve_s7_k2 b2), (geneve_s7_k0 b44 bs), (geneve_s7_k5 b6 b44 v100), (geneve_s7_k1 b94 bs i), (geneve_s7_k3 b99 b94 Ai ci bs i)]) (Kr := Kr100) h) [(0, []), (1, []), (2, [2])] rfl)), ?_⟩)
            refine dend (by kernel_rfl) ?_
            refine eseq ?_
            refine HT.norm ([(geneve_s7_k2 b2), (geneve_s7_k0 b44 bs), (geneve_s7_k5 b6 b44 v100), (geneve_s7_k1 b94 bs i), (geneve_s7_k3 b99 b94 Ai ci bs i)] ++ Kr100) [Byt A n c bs, Byt Ai ((8 + (4 * (nb bs 0))) - (vof bs i)) ci (sl bs (vof bs i) (8 + (4 * (nb bs 0)))), psF ps] rfl rfl ?_
            refine HT.plain ?_
            refine sMv rfl rfl ?_
            refine sMv rfl rfl ?_
            refine sqS (q_slice (lo := 4 + (4 * ((nb bs ((vof bs i) + 3)) &&& 31))) (hi := (8 + (4 * (nb bs 0))) - (vof bs i)) rfl Tryz.underlying22 nagg_5 (.inr ⟨_, _, rfl, rfl⟩) (.inl ⟨rfl, rfl⟩) (by have := nb_lt bs ((vof bs i) + 3); have := zm31 (nb bs ((vof bs i) + 3)); have := Nat.and_le_left (n := nb bs ((vof bs i) + 3)) (m := 31); have := Nat.and_le_right (n := nb bs ((vof bs i) + 3)) (m := 31); omega) (by omega)) rfl ?_
            refine sAs rfl rfl ?_
            refine send ?_
            refine ein ?_
            exact fun a ha w' hw => by
              obtain ⟨hp2, hs2⟩ := PSt.step hp (X := [(geneve_s7_k2 b2), (geneve_s7_k0 b44 bs), (geneve_s7_k5 b6 b44 v100)]) (Y := [(geneve_s7_k3 b99 b94 Ai ci bs i)]) (k := (geneve_s7_k1 b94 bs i)) (B := [Byt A n c bs]) (r := []) (cnt := 4) (cap := 4) (xs := [bN bs (vof bs i) 2, nb bs ((vof bs i) + 2), (nb bs ((vof bs i) + 3)) / 16, 4 + (4 * ((nb bs ((vof bs i) + 3)) &&& 31))]) (lo := 4) (hi := 4 + (4 * ((nb bs ((vof bs i) + 3)) &&& 31))) (sz := 4 + (4 * ((nb bs ((vof bs i) + 3)) &&& 31))) hw (by omega) rfl rfl (Nat.le_refl _) rfl hr100 (by omega) (by omega) (by omega) (by omega) (pdt (lc rfl (lc (show nb bs ((vof bs i) + 2) = nb bs (vof bs i + 2) from by omega) (lc (show (nb bs ((vof bs i) + 3)) / 16 = nb bs (vof bs i + 3) / 16 from by omega) (lc (show 4 + (4 * ((nb bs ((vof bs i) + 3)) &&& 31)) = 4 + 4 * (nb bs (vof bs i + 3) % 16) from by omega) rfl)))) (by omega) (by omega))
              exact eround2 ⟨(i + 1, _, _, _, _, _), hp2⟩ (show N - (i + 1) < N - i by omega) (ha.sub ⟨rfl, rfl, rfl, rfl, slc (n' := 8 + (4 * (nb bs 0)) - vof bs (i + 1)) (by omega), trivial⟩) hs2
  · refine dop rfl (l_alloc (by decide) zero_29 fun b6 => ⟨(fun _ h => (h.wk [(0, [])] rfl)), ?_⟩)
    refine RG.step1 20 (by kernel_rfl) ?_
    refine dop rfl (l_buildSlice (e := 39) (vs := [(0, (.int .u64 ((0 : Nat) : Int))), (1, (.int .u64 ((4 * (nb bs 0) : Nat) : Int))), (2, (.int .u64 ((bitN (decide (((nb bs 1) &&& 128) ≠ 0)) : Nat) : Int))), (3, (.int .u64 ((bitN (decide (((nb bs 1) &&& 64) ≠ 0)) : Nat) : Int))), (4, (.int .u64 ((bN bs 2 2 : Nat) : Int))), (5, (.int .u64 ((bN bs 4 3 : Nat) : Int)))]) (cs := [(.int .u64 ((0 : Nat) : Int)), (.int .u64 ((4 * (nb bs 0) : Nat) : Int)), (.int .u64 ((bitN (decide (((nb bs 1) &&& 128) ≠ 0)) : Nat) : Int)), (.int .u64 ((bitN (decide (((nb bs 1) &&& 64) ≠ 0)) : Nat) : Int)), (.int .u64 ((bN bs 2 2 : Nat) : Int)), (.int .u64 ((bN bs 4 3 : Nat) : Int))]) (by decide) rfl (fun _ => by kernel_rfl) fun b44 => ⟨(fun _ h => (h.wk [(0, [])] rfl)), ?_⟩)
    refine dtake (f := 1) [21] (by kernel_rfl) (St.closed _ _ _ _) (fun _ h => (h.wk [(0, [])] rfl)) (by kernel_rfl) ?_
    refine dq rfl (q_call (vs := [(.slice none 0 0), (.slice (some ⟨b44, 0, none⟩) 6 6)]) (v := (.agg #[(.slice (some ⟨b44, 0, none⟩) 6 6), (.slice none 0 0), (.slice none 0 0), (.slice none 0 0)])) rfl ca_33 (fun w h => layerC w none 0 0 (some ⟨b44, 0, none⟩) 6 6  (St.enter (sp := []) (Kc := []) (bi := []) h rfl rfl rfl))) ?_
    refine QL.nil ?_
    refine RG.step1 23 (by kernel_rfl) ?_
    refine dop rfl (l_storeAgg (b := b6) (off := 0) (j := 1) (vs := [(.slice (some ⟨b44, 0, none⟩) 6 6), (.slice none 0 0), (.slice none 0 0), (.slice none 0 0)]) rfl rfl aggs_29 (by simp [Value.one1]) rfl rfl rfl (Nat.le_of_ble_eq_true rfl) ⟨(fun _ h => (h.wk [(0, [])] rfl)), ?_⟩)
    refine dend (by kernel_rfl) ?_
    refine eseq ?_
    refine HT.seq ?_
    refine HT.seq ?_
    refine HT.plain ?_
    refine sMv rfl rfl ?_
    refine sMv rfl rfl ?_
    refine sqS (q_len (len := n) rfl Tryz.underlying22) rfl ?_
    refine sqS (q_sub (p := n) (q := 8) rfl rfl (by omega) (show n < 9223372036854775808 by omega)) rfl ?_
    refine sqS (q_F (q_gt (p := 4 * (nb bs 0)) (q := n - 8) rfl rfl) (by have := nb_lt bs 0; omega)) rfl ?_
    refine send ?_
    refine eseq ?_
    refine HT.no rfl ?_
    refine HT.skip ?_
    refine eseq ?_
    refine HT.seq ?_
    refine HT.plain ?_
    refine sMv rfl rfl ?_
    refine sMv rfl rfl ?_
    refine sqS (q_add (p := 8) (q := 4 * (nb bs 0)) rfl rfl (show 8 + (4 * (nb bs 0)) < 9223372036854775808 by have := nb_lt bs 0; omega)) rfl ?_
    refine sqS (q_slice (lo := 8) (hi := 8 + (4 * (nb bs 0))) rfl Tryz.underlying22 nagg_5 (.inr ⟨_, _, rfl, rfl⟩) (.inr ⟨_, _, rfl, rfl⟩) (by have := nb_lt bs 0; omega) (by have := nb_lt bs 0; omega)) rfl ?_
    refine sAs rfl rfl ?_
    refine send ?_
    refine eseq ?_
    refine HT.seq ?_
    refine HT.block ?_
    refine HT.loop (ι := {p : Nat × Option Addr × Nat × Value × List Kb × List (NI × BI) // PSt w.heap.size (Byt A n c bs) (fun j => ([bN bs (vof bs j) 2, nb bs (vof bs j + 2), nb bs (vof bs j + 3) / 16, 4 + 4 * (nb bs (vof bs j + 3) % 16)], sl bs (vof bs j + 4) (vof bs (j + 1)))) (fun j => vof bs j) (8 + (4 * (nb bs 0))) bs N p.1 p.2.1 p.2.2.1 p.2.2.2.1 p.2.2.2.2.1 p.2.2.2.2.2}) (fun p => [(0, (.slice A n c)), (2, (.pointer (some ⟨b2, 0, none⟩))), (5, (.int .i64 ((4 * (nb bs 0) : Nat) : Int))), (6, (.pointer (some ⟨b6, 0, none⟩))), (7, (.slice p.1.2.1 (8 + (4 * (nb bs 0)) - (vof bs p.1.1)) p.1.2.2.1))]) (fun p => St w [] ([(geneve_s7_k2 b2), ⟨b6, 29, [some (.slice (some ⟨b44, 0, none⟩) 6 6), some (.slice none 0 0), some p.1.2.2.2.1, some (.slice none 0 0)], true⟩, (geneve_s7_k0 b44 bs)] ++ p.1.2.2.2.2.1) [Byt A n c bs, Byt p.1.2.1 (8 + (4 * (nb bs 0)) - (vof bs p.1.1)) p.1.2.2.1 (sl bs (vof bs p.1.1) (8 + (4 * (nb bs 0)))), psF p.1.2.2.2.2.2]) (fun p => N - p.1.1) ⟨(0, cutA A c 8, c - 8, .slice none 0 0, [], []), PSt.nil (fun x hx => Byt.cut_fp (lo := 8) (hi := 8 + (4 * (nb bs 0))) hx.1 hx) (show 8 + (4 * (nb bs 0)) - 8 ≤ c - 8 by omega)⟩ ⟨rfl, rfl, rfl, rfl, rfl, trivial⟩ (fun _ h => psF_nil (B := [Byt A n c bs, Byt (cutA A c 8) (8 + (4 * (nb bs 0)) - 8) (c - 8) (sl bs 8 (8 + (4 * (nb bs 0))))]) (h.cut (j := 0) (lo := 8) (hi := 8 + (4 * (nb bs 0))) rfl (by omega) (by omega))) fun ⟨⟨i, Ai, ci, v, Kr, ps⟩, hp⟩ => ?_
    replace hp : PSt w.heap.size (Byt A n c bs) (fun j => ([bN bs (vof bs j) 2, nb bs (vof bs j + 2), nb bs (vof bs j + 3) / 16, 4 + 4 * (nb bs (vof bs j + 3) % 16)], sl bs (vof bs j + 4) (vof bs (j + 1)))) (fun j => vof bs j) (8 + (4 * (nb bs 0))) bs N i Ai ci v Kr ps := hp
    have hil : i ≤ N := hp.le
    have hr : RowS 49 2 i (psV ps) v Kr := hp.row
    have hcp : 8 + (4 * (nb bs 0)) - vof bs i ≤ ci := hp.cap
    have ho := vof_succ bs i
    have hge := vof_ge bs i
    have hmo := vof_mod bs i
    have hmo2 := vof_mod bs (i + 1)
    have hma := vof_many bs i
    have h256 := nb_lt bs (vof bs i + 3)
    have hal := vof_le (e := 8 + 4 * nb bs 0) (by omega) (fun j hj => (hd j hj).2.1) i (by omega)
    have hc := hd i
    have hz : i = N → vof bs i < 8 + 4 * nb bs 0 ∧ (8 + 4 * nb bs 0 < vof bs (i + 1) ∨ nb bs (vof bs i + 3) / 16 % 2 ≠ 0) := fun e => by rw [e]; exact ⟨he, hf⟩
    have hz31 := zm31 (nb bs (vof bs i + 3))
    have hzb := zb16 (nb bs (vof bs i + 3))
    show HT _ _ _ [(0, (.slice A n c)), (2, (.pointer (some ⟨b2, 0, none⟩))), (5, (.int .i64 ((4 * (nb bs 0) : Nat) : Int))), (6, (.pointer (some ⟨b6, 0, none⟩))), (7, (.slice Ai ((8 + (4 * (nb bs 0))) - (vof bs i)) ci))] (St w [] ([(geneve_s7_k2 b2), (geneve_s7_k4 b6 b44 v), (geneve_s7_k0 b44 bs)] ++ Kr) [Byt A n c bs, Byt Ai ((8 + (4 * (nb bs 0))) - (vof bs i)) ci (sl bs (vof bs i) (8 + (4 * (nb bs 0)))), psF ps]) _
    refine HT.seq ?_
    refine HT.seq ?_
    refine HT.plain ?_
    refine sMv rfl rfl ?_
    refine sqS (q_len (len := (8 + (4 * (nb bs 0))) - (vof bs i)) rfl Tryz.underlying22) rfl ?_
    refine sqS (q_T (q_gt (p := (8 + (4 * (nb bs 0))) - (vof bs i)) (q := 0) rfl rfl) (by omega)) rfl ?_
    refine send ?_
    refine eseq ?_
    refine HT.yes rfl ?_
    refine HT.skip ?_
    refine eseq ?_
    refine HT.block ?_
    refine HT.seq ?_
    refine HT.plain ?_
    refine sMv rfl rfl ?_
    refine sqS (q_index (i := 3) (j := 1) rfl rfl Tryz.underlying22 nagg_5 (fun _ h => h) rfl (by omega)) rfl ?_
    refine sqS (q_N (q_byte (i := 3) (j := 1) rfl nagg_5 (fun _ h => h) rfl (by omega)) (a := nb (sl bs (vof bs i) (8 + (4 * (nb bs 0)))) 3) (b := nb bs ((vof bs i) + 3)) (nb_sl (by omega))) rfl ?_
    refine sqS (q_and (p := nb bs ((vof bs i) + 3)) (q := 31) rfl rfl rfl (show nb bs ((vof bs i) + 3) < 256 by have := nb_lt bs ((vof bs i) + 3); omega) (by decide)) rfl ?_
    refine sqS (q_convn (p := (nb bs ((vof bs i) + 3)) &&& 31) rfl Tryz.underlying5 Tryz.underlying3 (show (nb bs ((vof bs i) + 3)) &&& 31 < 9223372036854775808 by have := nb_lt bs ((vof bs i) + 3); have := zm31 (nb bs ((vof bs i) + 3)); have := Nat.and_le_left (n := nb bs ((vof bs i) + 3)) (m := 31); have := Nat.and_le_right (n := nb bs ((vof bs i) + 3)) (m := 31); omega)) rfl ?_
    refine sqS (q_mul (p := 4) (q := (nb bs ((vof bs i) + 3)) &&& 31) rfl rfl (show 4 * ((nb bs ((vof bs i) + 3)) &&& 31) < 9223372036854775808 by have := nb_lt bs ((vof bs i) + 3); have := zm31 (nb bs ((vof bs i) + 3)); have := Nat.and_le_left (n := nb bs ((vof bs i) + 3)) (m := 31); have := Nat.and_le_right (n := nb bs ((vof bs i) + 3)) (m := 31); omega)) rfl ?_
    refine sqS (q_add (p := 4) (q := 4 * ((nb bs ((vof bs i) + 3)) &&& 31)) rfl rfl (show 4 + (4 * ((nb bs ((vof bs i) + 3)) &&& 31)) < 9223372036854775808 by have := nb_lt bs ((vof bs i) + 3); have := zm31 (nb bs ((vof bs i) + 3)); have := Nat.and_le_left (n := nb bs ((vof bs i) + 3)) (m := 31); have := Nat.and_le_right (n := nb bs ((vof bs i) + 3)) (m := 31); omega)) rfl ?_
    refine sAs rfl rfl ?_
    refine send ?_
    refine eseq ?_
    refine HT.seq ?_
    refine HT.seq ?_
    refine HT.plain ?_
    refine sMv rfl rfl ?_
    refine sMv rfl rfl ?_
    refine sqS (q_len (len := (8 + (4 * (nb bs 0))) - (vof bs i)) rfl Tryz.underlying22) rfl ?_
    by_cases h3 : (8 + (4 * (nb bs 0))) - (vof bs i) < 4 + (4 * ((nb bs ((vof bs i) + 3)) &&& 31))
    · refine sqS (q_T (q_gt (p := 4 + (4 * ((nb bs ((vof bs i) + 3)) &&& 31))) (q := (8 + (4 * (nb bs 0))) - (vof bs i)) rfl rfl) h3) rfl ?_
      refine sMv rfl rfl ?_
      refine sskip rfl rfl ?_
      refine sskip rfl rfl ?_
      refine sskip rfl rfl ?_
      refine sskip rfl rfl ?_
      refine sskip rfl rfl ?_
      refine sqS (q_pick rfl (fun _ => rfl) (fun h => nomatch h)) rfl ?_
      refine send ?_
      refine eseq ?_
      refine HT.yes rfl ?_
      refine HT.seq ?_
      refine HT.plain ?_
      refine sqS (q_build (vs := []) (v := (.agg #[(.slice none 0 0), (.slice none 0 0), (.slice none 0 0), (.slice none 0 0)])) rfl (fun _ => by kernel_rfl)) rfl ?_
      refine sl_ (l_storeAgg (b := b2) (off := 0) (j := 0) (vs := [(.slice none 0 0), (.slice none 0 0), (.slice none 0 0), (.slice none 0 0)]) rfl rfl aggs_29 (by simp [Value.one1]) rfl rfl rfl (Nat.le_of_ble_eq_true rfl) ?_)
      refine sAs rfl rfl ?_
      refine sAs rfl rfl ?_
      refine send ?_
      refine eseq ?_
      refine HT.ret ?_
      refine rt_then ?_
      refine rt_in ?_
      refine rt_then ?_
      refine rt_in ?_
      refine rt_then ?_
      obtain ⟨Av, cv, hv⟩ := hr.val
      subst hv
      exact fun a ha w' hw => fin_ ha (resc3 ha Tryz.results39 rfl (ld_ aggs_29 hw (j := 0) rfl rfl (vs := [(.slice none 0 0), (.slice none 0 0), (.slice none 0 0), (.slice none 0 0)]) rfl) rfl rfl) ⟨(⟨none, 0, 0, []⟩, ⟨none, 0, 0, []⟩, ⟨none, 0, 0, []⟩, ⟨none, 0, 0, []⟩), rfl, (((St.untail (K := [(geneve_s7_k2 b2), (geneve_s7_k6 b6 b44 Av i cv), (geneve_s7_k0 b44 bs)]) (Kr := Kr) hw).wk [] rfl).selF [0] rfl), fr0⟩
    · refine sqS (q_F (q_gt (p := 4 + (4 * ((nb bs ((vof bs i) + 3)) &&& 31))) (q := (8 + (4 * (nb bs 0))) - (vof bs i)) rfl rfl) h3) rfl ?_
      refine sMv rfl rfl ?_
      refine sgqS rfl (q_move rfl) rfl ?_
      refine sgqS rfl (q_index (i := 3) (j := 1) rfl rfl Tryz.underlying22 nagg_5 (fun _ h => h) rfl (by omega)) rfl ?_
      refine sgqS rfl (q_N (q_byte (i := 3) (j := 1) rfl nagg_5 (fun _ h => h) rfl (by omega)) (a := nb (sl bs (vof bs i) (8 + (4 * (nb bs 0)))) 3) (b := nb bs ((vof bs i) + 3)) (nb_sl (by omega))) rfl ?_
      refine sgqS rfl (q_and (p := nb bs ((vof bs i) + 3)) (q := 16) rfl rfl rfl (show nb bs ((vof bs i) + 3) < 256 by have := nb_lt bs ((vof bs i) + 3); omega) (by decide)) rfl ?_
      by_cases h4 : (nb bs ((vof bs i) + 3)) &&& 16 ≠ 0
      · refine sgqS rfl (q_T (q_ne (p := (nb bs ((vof bs i) + 3)) &&& 16) (q := 0) rfl rfl) h4) rfl ?_
        refine sqS (q_pick rfl (fun h => nomatch h) (fun _ => rfl)) rfl ?_
        refine send ?_
        refine eseq ?_
        refine HT.yes rfl ?_
        refine HT.seq ?_
        refine HT.plain ?_
        refine sqS (q_build (vs := []) (v := (.agg #[(.slice none 0 0), (.slice none 0 0), (.slice none 0 0), (.slice none 0 0)])) rfl (fun _ => by kernel_rfl)) rfl ?_
        refine sl_ (l_storeAgg (b := b2) (off := 0) (j := 0) (vs := [(.slice none 0 0), (.slice none 0 0), (.slice none 0 0), (.slice none 0 0)]) rfl rfl aggs_29 (by simp [Value.one1]) rfl rfl rfl (Nat.le_of_ble_eq_true rfl) ?_)
        refine sAs rfl rfl ?_
        refine sAs rfl rfl ?_
        refine send ?_
        refine eseq ?_
        refine HT.ret ?_
        refine rt_then ?_
        refine rt_in ?_
        refine rt_then ?_
        refine rt_in ?_
        refine rt_then ?_
        obtain ⟨Av, cv, hv⟩ := hr.val
        subst hv
        exact fun a ha w' hw => fin_ ha (resc3 ha Tryz.results39 rfl (ld_ aggs_29 hw (j := 0) rfl rfl (vs := [(.slice none 0 0), (.slice none 0 0), (.slice none 0 0), (.slice none 0 0)]) rfl) rfl rfl) ⟨(⟨none, 0, 0, []⟩, ⟨none, 0, 0, []⟩, ⟨none, 0, 0, []⟩, ⟨none, 0, 0, []⟩), rfl, (((St.untail (K := [(geneve_s7_k2 b2), (geneve_s7_k6 b6 b44 Av i cv), (geneve_s7_k0 b44 bs)]) (Kr := Kr) hw).wk [] rfl).selF [0] rfl), fr0⟩
      · refine sgqS rfl (q_F (q_ne (p := (nb bs ((vof bs i) + 3)) &&& 16) (q := 0) rfl rfl) h4) rfl ?_
        refine sqS (q_pick rfl (fun h => nomatch h) (fun _ => rfl)) rfl ?_
        refine send ?_
        refine eseq ?_
        refine HT.no rfl ?_
        refine HT.skip ?_
        refine eseq ?_
        refine HT.seq ?_
        refine HT.drawn mixed (St.closed _ _ _ _) (St w [] [(geneve_s7_k2 b2), ⟨b6, 29, [some (.slice (some ⟨b44, 0, none⟩) 6 6), some (.slice none 0 0), none, some (.slice none 0 0)], true⟩, (geneve_s7_k0 b44 bs)] [Byt A n c bs, Byt Ai ((8 + (4 * (nb bs 0))) - (vof bs i)) ci (sl bs (vof bs i) (8 + (4 * (nb bs 0)))), psF ps]) ?_
        refine dtake (f := 7) [0, 2, 3, 4, 5, 6, 7, 8, 9, 10, 11, 12, 13, 14, 15, 17, 18, 19] (by kernel_rfl) (St.closed _ _ _ _) (fun _ h => (St.wk (St.untail (K := [(geneve_s7_k2 b2), (geneve_s7_k4 b6 b44 v), (geneve_s7_k0 b44 bs)]) (Kr := Kr) h) [(0, []), (1, [2]), (2, [])] rfl)) (by kernel_rfl) ?_
        refine dq rfl (q_field (b := b6) (off := 0) rfl fo_29_2) ?_
        refine dq rfl (q_move rfl) ?_
        refine dq rfl (q_slice (lo := 0) (hi := 2) rfl Tryz.underlying22 nagg_5 (.inl ⟨rfl, rfl⟩) (.inr ⟨_, _, rfl, rfl⟩) (by omega) (by omega)) ?_
        refine dq rfl (q_N (q_call (vs := [(.slice (cutA Ai ci 0) (2 - 0) (ci - 0))]) (v := (.int .u64 ((bN (sl bs (vof bs i) (8 + (4 * (nb bs 0)))) 0 2 : Nat) : Int))) rfl ca_34 (fun w h => NumberC w Ai ((8 + (4 * (nb bs 0))) - (vof bs i)) ci (sl bs (vof bs i) (8 + (4 * (nb bs 0)))) (lo := 0) (hi := 2) (h.fact (j := 1) rfl) (k := 2) rfl (by decide) (by omega) (by omega))) (a := bN (sl bs (vof bs i) (8 + (4 * (nb bs 0)))) 0 2) (b := bN bs (vof bs i) 2) (bN_sl 0 2 (by omega))) ?_
        refine dq rfl (q_move rfl) ?_
        refine dq rfl (q_index (i := 2) (j := 1) rfl rfl Tryz.underlying22 nagg_5 (fun _ h => h) rfl (by omega)) ?_
        refine dq rfl (q_N (q_byte (i := 2) (j := 1) rfl nagg_5 (fun _ h => h) rfl (by omega)) (a := nb (sl bs (vof bs i) (8 + (4 * (nb bs 0)))) 2) (b := nb bs ((vof bs i) + 2)) (nb_sl (by omega))) ?_
        refine dq rfl (q_convn (p := nb bs ((vof bs i) + 2)) rfl Tryz.underlying5 Tryz.underlying39 (show nb bs ((vof bs i) + 2) < 18446744073709551616 by have := nb_lt bs ((vof bs i) + 2); omega)) ?_
        refine dq rfl (q_move rfl) ?_
        refine dq rfl (q_index (i := 3) (j := 1) rfl rfl Tryz.underlying22 nagg_5 (fun _ h => h) rfl (by omega)) ?_
        refine dq rfl (q_N (q_byte (i := 3) (j := 1) rfl nagg_5 (fun _ h => h) rfl (by omega)) (a := nb (sl bs (vof bs i) (8 + (4 * (nb bs 0)))) 3) (b := nb bs ((vof bs i) + 3)) (nb_sl (by omega))) ?_
        refine dq rfl (q_shr (p := nb bs ((vof bs i) + 3)) (e := 4) (N := 16) rfl rfl (by decide) rfl) ?_
        refine dq rfl (q_convn (p := (nb bs ((vof bs i) + 3)) / 16) rfl Tryz.underlying5 Tryz.underlying39 (show (nb bs ((vof bs i) + 3)) / 16 < 18446744073709551616 by have := nb_lt bs ((vof bs i) + 3); omega)) ?_
        refine dq rfl (q_move rfl) ?_
        refine dq rfl (q_convn (p := 4 + (4 * ((nb bs ((vof bs i) + 3)) &&& 31))) rfl Tryz.underlying3 Tryz.underlying39 (show 4 + (4 * ((nb bs ((vof bs i) + 3)) &&& 31)) < 18446744073709551616 by have := nb_lt bs ((vof bs i) + 3); have := zm31 (nb bs ((vof bs i) + 3)); have := Nat.and_le_left (n := nb bs ((vof bs i) + 3)) (m := 31); have := Nat.and_le_right (n := nb bs ((vof bs i) + 3)) (m := 31); omega)) ?_
        refine dq rfl (q_move rfl) ?_
        refine dq rfl (q_move rfl) ?_
        refine dq rfl (q_slice (lo := 4) (hi := 4 + (4 * ((nb bs ((vof bs i) + 3)) &&& 31))) rfl Tryz.underlying22 nagg_5 (.inr ⟨_, _, rfl, rfl⟩) (.inr ⟨_, _, rfl, rfl⟩) (by have := nb_lt bs ((vof bs i) + 3); have := zm31 (nb bs ((vof bs i) + 3)); have := Nat.and_le_left (n := nb bs ((vof bs i) + 3)) (m := 31); have := Nat.and_le_right (n := nb bs ((vof bs i) + 3)) (m := 31); omega) (by have := nb_lt bs ((vof bs i) + 3); have := zm31 (nb bs ((vof bs i) + 3)); have := Nat.and_le_left (n := nb bs ((vof bs i) + 3)) (m := 31); have := Nat.and_le_right (n := nb bs ((vof bs i) + 3)) (m := 31); omega)) ?_
        refine QL.nil ?_
        refine RG.step2 1 16 (by kernel_rfl) ?_ ?_
        · refine dop rfl (l_q _ (by simp) (St.closed _ _ _ _) (q_load (b := b6) (off := 2) (j := 1) rfl nagg_27 (fun _ h => h) rfl rfl rfl) ⟨(fun _ h => (St.wk (St.untail (K := [(geneve_s7_k2 b2), (geneve_s7_k4 b6 b44 v), (geneve_s7_k0 b44 bs)]) (Kr := Kr) h) [(0, []), (1, [2]), (2, [])] rfl)), ?_⟩)
          refine RG.step1 16 (by kernel_rfl) ?_
          refine dop rfl (l_buildSliceT (K := [(geneve_s7_k2 b2), (geneve_s7_k4 b6 b44 v), (geneve_s7_k0 b44 bs)]) (Kr := Kr) (e := 39) (vs := [(0, (.int .u64 ((bN bs (vof bs i) 2 : Nat) : Int))), (1, (.int .u64 ((nb bs ((vof bs i) + 2) : Nat) : Int))), (2, (.int .u64 (((nb bs ((vof bs i) + 3)) / 16 : Nat) : Int))), (3, (.int .u64 ((4 + (4 * ((nb bs ((vof bs i) + 3)) &&& 31)) : Nat) : Int)))]) (cs := [(.int .u64 ((bN bs (vof bs i) 2 : Nat) : Int)), (.int .u64 ((nb bs ((vof bs i) + 2) : Nat) : Int)), (.int .u64 (((nb bs ((vof bs i) + 3)) / 16 : Nat) : Int)), (.int .u64 ((4 + (4 * ((nb bs ((vof bs i) + 3)) &&& 31)) : Nat) : Int))]) (by decide) rfl (fun _ => by kernel_rfl) fun b94 => ⟨(fun _ h => (St.wk (St.untail (K := [(geneve_s7_k2 b2), (geneve_s7_k4 b6 b44 v), (geneve_s7_k0 b44 bs), (geneve_s7_k1 b94 bs i)]) (Kr := Kr) h) [(0, []), (1, [2]), (2, [])] rfl)), ?_⟩)
          refine dtake (f := 4) [20] (by kernel_rfl) (St.closed _ _ _ _) (fun _ h => (St.wk (St.untail (K := [(geneve_s7_k2 b2), (geneve_s7_k4 b6 b44 v), (geneve_s7_k0 b44 bs), (geneve_s7_k1 b94 bs i)]) (Kr := Kr) h) [(0, []), (1, [2]), (2, [])] rfl)) (by kernel_rfl) ?_
          refine dq rfl (q_build (vs := [(0, (.slice (some ⟨b94, 0, none⟩) 4 4)), (1, (.slice (cutA Ai ci 4) ((4 + (4 * ((nb bs ((vof bs i) + 3)) &&& 31))) - 4) (ci - 4)))]) (v := (.agg #[(.slice (some ⟨b94, 0, none⟩) 4 4), (.slice (cutA Ai ci 4) ((4 + (4 * ((nb bs ((vof bs i) + 3)) &&& 31))) - 4) (ci - 4))])) rfl (fun _ => by kernel_rfl)) ?_
          refine QL.nil ?_
          refine RG.step1 21 (by kernel_rfl) ?_
          refine dop rfl (l_buildSliceT (K := [(geneve_s7_k2 b2), (geneve_s7_k4 b6 b44 v), (geneve_s7_k0 b44 bs), (geneve_s7_k1 b94 bs i)]) (Kr := Kr) (e := 49) (vs := [(0, (.agg #[(.slice (some ⟨b94, 0, none⟩) 4 4), (.slice (cutA Ai ci 4) ((4 + (4 * ((nb bs ((vof bs i) + 3)) &&& 31))) - 4) (ci - 4))]))]) (cs := [(.slice (some ⟨b94, 0, none⟩) 4 4), (.slice (cutA Ai ci 4) ((4 + (4 * ((nb bs ((vof bs i) + 3)) &&& 31))) - 4) (ci - 4))]) (by decide) rfl (fun _ => by kernel_rfl) fun b99 => ⟨(fun _ h => (St.wk (St.untail (K := [(geneve_s7_k2 b2), (geneve_s7_k4 b6 b44 v), (geneve_s7_k0 b44 bs), (geneve_s7_k1 b94 bs i), (geneve_s7_k3 b99 b94 Ai ci bs i)]) (Kr := Kr) h) [(0, []), (1, [2]), (2, [])] rfl)), ?_⟩)
          refine RG.step1 22 (by kernel_rfl) ?_
          refine dop rfl (l_appendR (K0 := [(geneve_s7_k2 b2), (geneve_s7_k4 b6 b44 v), (geneve_s7_k0 b44 bs), (geneve_s7_k1 b94 bs i), (geneve_s7_k3 b99 b94 Ai ci bs i)]) (Kr := Kr) (k := i) (xs := (psV ps)) (jq := 4) (news := [(.slice (some ⟨b94, 0, none⟩) 4 4), (.slice (cutA Ai ci 4) ((4 + (4 * ((nb bs ((vof bs i) + 3)) &&& 31))) - 4) (ci - 4))]) (by decide) rfl rfl Tryz.underlying27 rowT_49 (by decide) hr (by have := hil; omega) rfl rfl (by simp [Value.one1]) fun v100 Kr100 hr100 => ⟨(fun _ h => (St.wk (St.untail (K := [(geneve_s7_k2 b2), (geneve_s7_k4 b6 b44 v), (geneve_s7_k0 b44 bs), (geneve_s7_k1 b94 bs i), (geneve_s7_k3 b99 b94 Ai ci bs i)]) (Kr := Kr100) h) [(0, []), (1, [2]), (2, [])] rfl)), ?_⟩)
          refine dtake (f := 1) [23] (by kernel_rfl) (St.closed _ _ _ _) (fun _ h => (St.wk (St.untail (K := [(geneve_s7_k2 b2), (geneve_s7_k4 b6 b44 v), (geneve_s7_k0 b44 bs), (geneve_s7_k1 b94 bs i), (geneve_s7_k3 b99 b94 Ai ci bs i)]) (Kr := Kr100) h) [(0, []), (1, [2]), (2, [])] rfl)) (by kernel_rfl) ?_
          refine dq rfl (q_field (b := b6) (off := 0) rfl fo_29_2) ?_
          refine QL.nil ?_
          refine RG.step1 24 (by kernel_rfl) ?_
          refine dop rfl (l_store (b := b6) (off := 2) (j := 1) rfl rfl nagg_27 hr100.one rfl rfl rfl (dlt rfl) ⟨(fun _ h => (St.wk (St.untail (K := [(geneve_s7_k2 b2), (geneve_s7_k5 b6 b44 v100), (geneve_s7_k0 b44 bs), (geneve_s7_k1 b94 bs i), (geneve_s7_k3 b99 b94 Ai ci bs i)]) (Kr := Kr100) h) [(0, []), (1, [2]), (2, [])] rfl)), ?_⟩)
          refine dend (by kernel_rfl) ?_
          refine eseq ?_
          refine HT.norm ([(geneve_s7_k2 b2), (geneve_s7_k5 b6 b44 v100), (geneve_s7_k0 b44 bs), (geneve_s7_k1 b94 bs i), (geneve_s7_k3 b99 b94 Ai ci bs i)] ++ Kr100) [Byt A n c bs, Byt Ai ((8 + (4 * (nb bs 0))) - (vof bs i)) ci (sl bs (vof bs i) (8 + (4 * (nb bs 0)))), psF ps] rfl rfl ?_
          refine HT.plain ?_
          refine sMv rfl rfl ?_
          refine sMv rfl rfl ?_
          refine sqS (q_slice (lo := 4 + (4 * ((nb bs ((vof bs i) + 3)) &&& 31))) (hi := (8 + (4 * (nb bs 0))) - (vof bs i)) rfl Tryz.underlying22 nagg_5 (.inr ⟨_, _, rfl, rfl⟩) (.inl ⟨rfl, rfl⟩) (by have := nb_lt bs ((vof bs i) + 3); have := zm31 (nb bs ((vof bs i) + 3)); have := Nat.and_le_left (n := nb bs ((vof bs i) + 3)) (m := 31); have := Nat.and_le_right (n := nb bs ((vof bs i) + 3)) (m := 31); omega) (by omega)) rfl ?_
          refine sAs rfl rfl ?_
          refine send ?_
          refine ein ?_
          exact fun a ha w' hw => by
            obtain ⟨hp2, hs2⟩ := PSt.step hp (X := [(geneve_s7_k2 b2), (geneve_s7_k5 b6 b44 v100), (geneve_s7_k0 b44 bs)]) (Y := [(geneve_s7_k3 b99 b94 Ai ci bs i)]) (k := (geneve_s7_k1 b94 bs i)) (B := [Byt A n c bs]) (r := []) (cnt := 4) (cap := 4) (xs := [bN bs (vof bs i) 2, nb bs ((vof bs i) + 2), (nb bs ((vof bs i) + 3)) / 16, 4 + (4 * ((nb bs ((vof bs i) + 3)) &&& 31))]) (lo := 4) (hi := 4 + (4 * ((nb bs ((vof bs i) + 3)) &&& 31))) (sz := 4 + (4 * ((nb bs ((vof bs i) + 3)) &&& 31))) hw (by omega) rfl rfl (Nat.le_refl _) rfl hr100 (by omega) (by omega) (by omega) (by omega) (pdt (lc rfl (lc (show nb bs ((vof bs i) + 2) = nb bs (vof bs i + 2) from by omega) (lc (show (nb bs ((vof bs i) + 3)) / 16 = nb bs (vof bs i + 3) / 16 from by omega) (lc (show 4 + (4 * ((nb bs ((vof bs i) + 3)) &&& 31)) = 4 + 4 * (nb bs (vof bs i + 3) % 16) from by omega) rfl)))) (by omega) (by omega))
            exact eround2 ⟨(i + 1, _, _, _, _, _), hp2⟩ (show N - (i + 1) < N - i by omega) (ha.sub ⟨rfl, rfl, rfl, rfl, slc (n' := 8 + (4 * (nb bs 0)) - vof bs (i + 1)) (by omega), trivial⟩) hs2
        · refine dop rfl (l_buildSliceT (K := [(geneve_s7_k2 b2), (geneve_s7_k4 b6 b44 v), (geneve_s7_k0 b44 bs)]) (Kr := Kr) (e := 39) (vs := [(0, (.int .u64 ((bN bs (vof bs i) 2 : Nat) : Int))), (1, (.int .u64 ((nb bs ((vof bs i) + 2) : Nat) : Int))), (2, (.int .u64 (((nb bs ((vof bs i) + 3)) / 16 : Nat) : Int))), (3, (.int .u64 ((4 + (4 * ((nb bs ((vof bs i) + 3)) &&& 31)) : Nat) : Int)))]) (cs := [(.int .u64 ((bN bs (vof bs i) 2 : Nat) : Int)), (.int .u64 ((nb bs ((vof bs i) + 2) : Nat) : Int)), (.int .u64 (((nb bs ((vof bs i) + 3)) / 16 : Nat) : Int)), (.int .u64 ((4 + (4 * ((nb bs ((vof bs i) + 3)) &&& 31)) : Nat) : Int))]) (by decide) rfl (fun _ => by kernel_rfl) fun b94 => ⟨(fun _ h => (St.wk (St.untail (K := [(geneve_s7_k2 b2), (geneve_s7_k4 b6 b44 v), (geneve_s7_k0 b44 bs), (geneve_s7_k1 b94 bs i)]) (Kr := Kr) h) [(0, []), (1, [2]), (2, [])] rfl)), ?_⟩)
          refine dtake (f := 5) [20] (by kernel_rfl) (St.closed _ _ _ _) (fun _ h => (St.wk (St.untail (K := [(geneve_s7_k2 b2), (geneve_s7_k4 b6 b44 v), (geneve_s7_k0 b44 bs), (geneve_s7_k1 b94 bs i)]) (Kr := Kr) h) [(0, []), (1, [2]), (2, [])] rfl)) (by kernel_rfl) ?_
          refine dq rfl (q_build (vs := [(0, (.slice (some ⟨b94, 0, none⟩) 4 4)), (1, (.slice (cutA Ai ci 4) ((4 + (4 * ((nb bs ((vof bs i) + 3)) &&& 31))) - 4) (ci - 4)))]) (v := (.agg #[(.slice (some ⟨b94, 0, none⟩) 4 4), (.slice (cutA Ai ci 4) ((4 + (4 * ((nb bs ((vof bs i) + 3)) &&& 31))) - 4) (ci - 4))])) rfl (fun _ => by kernel_rfl)) ?_
          refine QL.nil ?_
          refine RG.step2 1 21 (by kernel_rfl) ?_ ?_
          · refine dop rfl (l_q _ (by simp) (St.closed _ _ _ _) (q_load (b := b6) (off := 2) (j := 1) rfl nagg_27 (fun _ h => h) rfl rfl rfl) ⟨(fun _ h => (St.wk (St.untail (K := [(geneve_s7_k2 b2), (geneve_s7_k4 b6 b44 v), (geneve_s7_k0 b44 bs), (geneve_s7_k1 b94 bs i)]) (Kr := Kr) h) [(0, []), (1, [2]), (2, [])] rfl)), ?_⟩)
            refine RG.step1 21 (by kernel_rfl) ?_
            refine dop rfl (l_buildSliceT (K := [(geneve_s7_k2 b2), (geneve_s7_k4 b6 b44 v), (geneve_s7_k0 b44 bs), (geneve_s7_k1 b94 bs i)]) (Kr := Kr) (e := 49) (vs := [(0, (.agg #[(.slice (some ⟨b94, 0, none⟩) 4 4), (.slice (cutA Ai ci 4) ((4 + (4 * ((nb bs ((vof bs i) + 3)) &&& 31))) - 4) (ci - 4))]))]) (cs := [(.slice (some ⟨b94, 0, none⟩) 4 4), (.slice (cutA Ai ci 4) ((4 + (4 * ((nb bs ((vof bs i) + 3)) &&& 31))) - 4) (ci - 4))]) (by decide) rfl (fun _ => by kernel_rfl) fun b99 => ⟨(fun _ h => (St.wk (St.untail (K := [(geneve_s7_k2 b2), (geneve_s7_k4 b6 b44 v), (geneve_s7_k0 b44 bs), (geneve_s7_k1 b94 bs i), (geneve_s7_k3 b99 b94 Ai ci bs i)]) (Kr := Kr) h) [(0, []), (1, [2]), (2, [])] rfl)), ?_⟩)
            refine RG.step1 22 (by kernel_rfl) ?_
            refine dop rfl (l_appendR (K0 := [(geneve_s7_k2 b2), (geneve_s7_k4 b6 b44 v), (geneve_s7_k0 b44 bs), (geneve_s7_k1 b94 bs i), (geneve_s7_k3 b99 b94 Ai ci bs i)]) (Kr := Kr) (k := i) (xs := (psV ps)) (jq := 4) (news := [(.slice (some ⟨b94, 0, none⟩) 4 4), (.slice (cutA Ai ci 4) ((4 + (4 * ((nb bs ((vof bs i) + 3)) &&& 31))) - 4) (ci - 4))]) (by decide) rfl rfl Tryz.underlying27 rowT_49 (by decide) hr (by have := hil; omega) rfl rfl (by simp [Value.one1]) fun v100 Kr100 hr100 => ⟨(fun _ h => (St.wk (St.untail (K := [(geneve_s7_k2 b2), (geneve_s7_k4 b6 b44 v), (geneve_s7_k0 b44 bs), (geneve_s7_k1 b94 bs i), (geneve_s7_k3 b99 b94 Ai ci bs i)]) (Kr := Kr100) h) [(0, []), (1, [2]), (2, [])] rfl)), ?_⟩)
            refine dtake (f := 1) [23] (by kernel_rfl) (St.closed _ _ _ _) (fun _ h => (St.wk (St.untail (K := [(geneve_s7_k2 b2), (geneve_s7_k4 b6 b44 v), (geneve_s7_k0 b44 bs), (geneve_s7_k1 b94 bs i), (geneve_s7_k3 b99 b94 Ai ci bs i)]) (Kr := Kr100) h) [(0, []), (1, [2]), (2, [])] rfl)) (by kernel_rfl) ?_
            refine dq rfl (q_field (b := b6) (off := 0) rfl fo_29_2) ?_
            refine QL.nil ?_
            refine RG.step1 24 (by kernel_rfl) ?_
            refine dop rfl (l_store (b := b6) (off := 2) (j := 1) rfl rfl nagg_27 hr100.one rfl rfl rfl (dlt rfl) ⟨(fun _ h => (St.wk (St.untail (K := [(geneve_s7_k2 b2), (geneve_s7_k5 b6 b44 v100), (geneve_s7_k0 b44 bs), (geneve_s7_k1 b94 bs i), (geneve_s7_k3 b99 b94 Ai ci bs i)]) (Kr := Kr100) h) [(0, []), (1, [2]), (2, [])] rfl)), ?_⟩)
            refine dend (by kernel_rfl) ?_
            refine eseq ?_
            refine HT.norm ([(geneve_s7_k2 b2), (geneve_s7_k5 b6 b44 v100), (geneve_s7_k0 b44 bs), (geneve_s7_k1 b94 bs i), (geneve_s7_k3 b99 b94 Ai ci bs i)] ++ Kr100) [Byt A n c bs, Byt Ai ((8 + (4 * (nb bs 0))) - (vof bs i)) ci (sl bs (vof bs i) (8 + (4 * (nb bs 0)))), psF ps] rfl rfl ?_
            refine HT.plain ?_
            refine sMv rfl rfl ?_
            refine sMv rfl rfl ?_
            refine sqS (q_slice (lo := 4 + (4 * ((nb bs ((vof bs i) + 3)) &&& 31))) (hi := (8 + (4 * (nb bs 0))) - (vof bs i)) rfl Tryz.underlying22 nagg_5 (.inr ⟨_, _, rfl, rfl⟩) (.inl ⟨rfl, rfl⟩) (by have := nb_lt bs ((vof bs i) + 3); have := zm31 (nb bs ((vof bs i) + 3)); have := Nat.and_le_left (n := nb bs ((vof bs i) + 3)) (m := 31); have := Nat.and_le_right (n := nb bs ((vof bs i) + 3)) (m := 31); omega) (by omega)) rfl ?_
            refine sAs rfl rfl ?_
            refine send ?_
            refine ein ?_
            exact fun a ha w' hw => by
              obtain ⟨hp2, hs2⟩ := PSt.step hp (X := [(geneve_s7_k2 b2), (geneve_s7_k5 b6 b44 v100), (geneve_s7_k0 b44 bs)]) (Y := [(geneve_s7_k3 b99 b94 Ai ci bs i)]) (k := (geneve_s7_k1 b94 bs i)) (B := [Byt A n c bs]) (r := []) (cnt := 4) (cap := 4) (xs := [bN bs (vof bs i) 2, nb bs ((vof bs i) + 2), (nb bs ((vof bs i) + 3)) / 16, 4 + (4 * ((nb bs ((vof bs i) + 3)) &&& 31))]) (lo := 4) (hi := 4 + (4 * ((nb bs ((vof bs i) + 3)) &&& 31))) (sz := 4 + (4 * ((nb bs ((vof bs i) + 3)) &&& 31))) hw (by omega) rfl rfl (Nat.le_refl _) rfl hr100 (by omega) (by omega) (by omega) (by omega) (pdt (lc rfl (lc (show nb bs ((vof bs i) + 2) = nb bs (vof bs i + 2) from by omega) (lc (show (nb bs ((vof bs i) + 3)) / 16 = nb bs (vof bs i + 3) / 16 from by omega) (lc (show 4 + (4 * ((nb bs ((vof bs i) + 3)) &&& 31)) = 4 + 4 * (nb bs (vof bs i + 3) % 16) from by omega) rfl)))) (by omega) (by omega))
              exact eround2 ⟨(i + 1, _, _, _, _, _), hp2⟩ (show N - (i + 1) < N - i by omega) (ha.sub ⟨rfl, rfl, rfl, rfl, slc (n' := 8 + (4 * (nb bs 0)) - vof bs (i + 1)) (by omega), trivial⟩) hs2
          · refine dop rfl (l_buildSliceT (K := [(geneve_s7_k2 b2), (geneve_s7_k4 b6 b44 v), (geneve_s7_k0 b44 bs), (geneve_s7_k1 b94 bs i)]) (Kr := Kr) (e := 49) (vs := [(0, (.agg #[(.slice (some ⟨b94, 0, none⟩) 4 4), (.slice (cutA Ai ci 4) ((4 + (4 * ((nb bs ((vof bs i) + 3)) &&& 31))) - 4) (ci - 4))]))]) (cs := [(.slice (some ⟨b94, 0, none⟩) 4 4), (.slice (cutA Ai ci 4) ((4 + (4 * ((nb bs ((vof bs i) + 3)) &&& 31))) - 4) (ci - 4))]) (by decide) rfl (fun _ => by kernel_rfl) fun b99 => ⟨(fun _ h => (St.wk (St.untail (K := [(geneve_s7_k2 b2), (geneve_s7_k4 b6 b44 v), (geneve_s7_k0 b44 bs), (geneve_s7_k1 b94 bs i), (geneve_s7_k3 b99 b94 Ai ci bs i)]) (Kr := Kr) h) [(0, []), (1, [2]), (2, [])] rfl)), ?_⟩)
            refine RG.step1 1 (by kernel_rfl) ?_
            refine dop rfl (l_q _ (by simp) (St.closed _ _ _ _) (q_load (b := b6) (off := 2) (j := 1) rfl nagg_27 (fun _ h => h) rfl rfl rfl) ⟨(fun _ h => (St.wk (St.untail (K := [(geneve_s7_k2 b2), (geneve_s7_k4 b6 b44 v), (geneve_s7_k0 b44 bs), (geneve_s7_k1 b94 bs i), (geneve_s7_k3 b99 b94 Ai ci bs i)]) (Kr := Kr) h) [(0, []), (1, [2]), (2, [])] rfl)), ?_⟩)
            refine RG.step1 22 (by kernel_rfl) ?_
            refine dop rfl (l_appendR (K0 := [(geneve_s7_k2 b2), (geneve_s7_k4 b6 b44 v), (geneve_s7_k0 b44 bs), (geneve_s7_k1 b94 bs i), (geneve_s7_k3 b99 b94 Ai ci bs i)]) (Kr := Kr) (k := i) (xs := (psV ps)) (jq := 4) (news := [(.slice (some ⟨b94, 0, none⟩) 4 4), (.slice (cutA Ai ci 4) ((4 + (4 * ((nb bs ((vof bs i) + 3)) &&& 31))) - 4) (ci - 4))]) (by decide) rfl rfl Tryz.underlying27 rowT_49 (by decide) hr (by have := hil; omega) rfl rfl (by simp [Value.one1]) fun v100 Kr100 hr100 => ⟨(fun _ h => (St.wk (St.untail (K := [(geneve_s7_k2 b2), (geneve_s7_k4 b6 b44 v), (geneve_s7_k0 b44 bs), (geneve_s7_k1 b94 bs i), (geneve_s7_k3 b99 b94 Ai ci bs i)]) (Kr := Kr100) h) [(0, []), (1, [2]), (2, [])] rfl)), ?_⟩)
            refine dtake (f := 1) [23] (by kernel_rfl) (St.closed _ _ _ _) (fun _ h => (St.wk (St.untail (K := [(geneve_s7_k2 b2), (geneve_s7_k4 b6 b44 v), (geneve_s7_k0 b44 bs), (geneve_s7_k1 b94 bs i), (geneve_s7_k3 b99 b94 Ai ci bs i)]) (Kr := Kr100) h) [(0, []), (1, [2]), (2, [])] rfl)) (by kernel_rfl) ?_
            refine dq rfl (q_field (b := b6) (off := 0) rfl fo_29_2) ?_
            refine QL.nil ?_
            refine RG.step1 24 (by kernel_rfl) ?_
            refine dop rfl (l_store (b := b6) (off := 2) (j := 1) rfl rfl nagg_27 hr100.one rfl rfl rfl (dlt rfl) ⟨(fun _ h => (St.wk (St.untail (K := [(geneve_s7_k2 b2), (geneve_s7_k5 b6 b44 v100), (geneve_s7_k0 b44 bs), (geneve_s7_k1 b94 bs i), (geneve_s7_k3 b99 b94 Ai ci bs i)]) (Kr := Kr100) h) [(0, []), (1, [2]), (2, [])] rfl)), ?_⟩)
            refine dend (by kernel_rfl) ?_
            refine eseq ?_
            refine HT.norm ([(geneve_s7_k2 b2), (geneve_s7_k5 b6 b44 v100), (geneve_s7_k0 b44 bs), (geneve_s7_k1 b94 bs i), (geneve_s7_k3 b99 b94 Ai ci bs i)] ++ Kr100) [Byt A n c bs, Byt Ai ((8 + (4 * (nb bs 0))) - (vof bs i)) ci (sl bs (vof bs i) (8 + (4 * (nb bs 0)))), psF ps] rfl rfl ?_
            refine HT.plain ?_
            refine sMv rfl rfl ?_
            refine sMv rfl rfl ?_
            refine sqS (q_slice (lo := 4 + (4 * ((nb bs ((vof bs i) + 3)) &&& 31))) (hi := (8 + (4 * (nb bs 0))) - (vof bs i)) rfl Tryz.underlying22 nagg_5 (.inr ⟨_, _, rfl, rfl⟩) (.inl ⟨rfl, rfl⟩) (by have := nb_lt bs ((vof bs i) + 3); have := zm31 (nb bs ((vof bs i) + 3)); have := Nat.and_le_left (n := nb bs ((vof bs i) + 3)) (m := 31); have := Nat.and_le_right (n := nb bs ((vof bs i) + 3)) (m := 31); omega) (by omega)) rfl ?_
            refine sAs rfl rfl ?_
            refine send ?_
            refine ein ?_
            exact fun a ha w' hw => by
              obtain ⟨hp2, hs2⟩ := PSt.step hp (X := [(geneve_s7_k2 b2), (geneve_s7_k5 b6 b44 v100), (geneve_s7_k0 b44 bs)]) (Y := [(geneve_s7_k3 b99 b94 Ai ci bs i)]) (k := (geneve_s7_k1 b94 bs i)) (B := [Byt A n c bs]) (r := []) (cnt := 4) (cap := 4) (xs := [bN bs (vof bs i) 2, nb bs ((vof bs i) + 2), (nb bs ((vof bs i) + 3)) / 16, 4 + (4 * ((nb bs ((vof bs i) + 3)) &&& 31))]) (lo := 4) (hi := 4 + (4 * ((nb bs ((vof bs i) + 3)) &&& 31))) (sz := 4 + (4 * ((nb bs ((vof bs i) + 3)) &&& 31))) hw (by omega) rfl rfl (Nat.le_refl _) rfl hr100 (by omega) (by omega) (by omega) (by omega) (pdt (lc rfl (lc (show nb bs ((vof bs i) + 2) = nb bs (vof bs i + 2) from by omega) (lc (show (nb bs ((vof bs i) + 3)) / 16 = nb bs (vof bs i + 3) / 16 from by omega) (lc (show 4 + (4 * ((nb bs ((vof bs i) + 3)) &&& 31)) = 4 + 4 * (nb bs (vof bs i + 3) % 16) from by omega) rfl)))) (by omega) (by omega))
              exact eround2 ⟨(i + 1, _, _, _, _, _), hp2⟩ (show N - (i + 1) < N - i by omega) (ha.sub ⟨rfl, rfl, rfl, rfl, slc (n' := 8 + (4 * (nb bs 0)) - vof bs (i + 1)) (by omega), trivial⟩) hs2

theorem geneve_S7 (w : World) (A : Option Addr) (n : Nat) (c : Nat) (bs : List UInt8) (N : Nat) (hn : n ≤ 2147483647) (ha : 8 ≤ n) (hb : nb bs 0 ≤ 61) (hc : 4 * nb bs 0 ≤ n - 8) (hd : ∀ i, i < N → vof bs i < 8 + 4 * nb bs 0 ∧ vof bs (i + 1) ≤ 8 + 4 * nb bs 0 ∧ nb bs (vof bs i + 3) / 16 % 2 = 0) (he : vof bs N < 8 + 4 * nb bs 0) (hf : 8 + 4 * nb bs 0 < vof bs (N + 1) ∨ nb bs (vof bs N + 3) / 16 % 2 ≠ 0) (hst : St w [] [] [Byt A n c bs] w) : Calls Tryz.prog 26 #[(.string ⟨#[103, 101, 110, 101, 118, 101]⟩), (.slice A n c)] w (SP w (Byt A n c bs) none) := by
  have hnc00 : n ≤ c := (hst.fact (j := 0) rfl).2.1
  refine enter (vs := [(.string ⟨#[103, 101, 110, 101, 118, 101]⟩), (.slice A n c)]) Tryz.func26 rfl rfl rfl hst ?_
  refine HT.seq ?_
  refine HT.plain ?_
  refine sl_ (l_alloc (by decide) zero_29 fun b4 => ?_)
  refine sAs rfl rfl ?_
  refine sAs rfl rfl ?_
  refine send ?_
  refine eseq ?_
  refine HT.seq ?_
  refine HT.plain ?_
  refine sl_ (l_makeMap (by decide) fun b13 => ?_)
  refine sl_ (l_insert (es := es0) (ck := 0) rfl rfl rfl Tryz.underlying36 Tryz.underlying9 fi0 ?_)
  refine sl_ (l_insert (es := es1) (ck := 1) rfl rfl rfl Tryz.underlying36 Tryz.underlying9 fi1 ?_)
  refine sl_ (l_insert (es := es2) (ck := 2) rfl rfl rfl Tryz.underlying36 Tryz.underlying9 fi2 ?_)
  refine sl_ (l_insert (es := es3) (ck := 3) rfl rfl rfl Tryz.underlying36 Tryz.underlying9 fi3 ?_)
  refine sl_ (l_insert (es := es4) (ck := 4) rfl rfl rfl Tryz.underlying36 Tryz.underlying9 fi4 ?_)
  refine sl_ (l_insert (es := es5) (ck := 5) rfl rfl rfl Tryz.underlying36 Tryz.underlying9 fi5 ?_)
  refine sl_ (l_insert (es := es6) (ck := 6) rfl rfl rfl Tryz.underlying36 Tryz.underlying9 fi6 ?_)
  refine sl_ (l_insert (es := es7) (ck := 7) rfl rfl rfl Tryz.underlying36 Tryz.underlying9 fi7 ?_)
  refine sl_ (l_insert (es := es8) (ck := 8) rfl rfl rfl Tryz.underlying36 Tryz.underlying9 fi8 ?_)
  refine sl_ (l_insert (es := es9) (ck := 9) rfl rfl rfl Tryz.underlying36 Tryz.underlying9 fi9 ?_)
  refine sl_ (l_insert (es := es10) (ck := 10) rfl rfl rfl Tryz.underlying36 Tryz.underlying9 fi10 ?_)
  refine sl_ (l_insert (es := es11) (ck := 11) rfl rfl rfl Tryz.underlying36 Tryz.underlying9 fi11 ?_)
  refine sl_ (l_insert (es := es12) (ck := 12) rfl rfl rfl Tryz.underlying36 Tryz.underlying9 fi12 ?_)
  refine sl_ (l_insert (es := es13) (ck := 13) rfl rfl rfl Tryz.underlying36 Tryz.underlying9 fi13 ?_)
  refine sl_ (l_insert (es := es14) (ck := 14) rfl rfl rfl Tryz.underlying36 Tryz.underlying9 fi14 ?_)
  refine sl_ (l_insert (es := es15) (ck := 15) rfl rfl rfl Tryz.underlying36 Tryz.underlying9 fi15 ?_)
  refine sl_ (l_insert (es := es16) (ck := 16) rfl rfl rfl Tryz.underlying36 Tryz.underlying9 fi16 ?_)
  refine sl_ (l_insert (es := es17) (ck := 17) rfl rfl rfl Tryz.underlying36 Tryz.underlying9 fi17 ?_)
  refine sl_ (l_insert (es := es18) (ck := 18) rfl rfl rfl Tryz.underlying36 Tryz.underlying9 fi18 ?_)
  refine sl_ (l_insert (es := es19) (ck := 19) rfl rfl rfl Tryz.underlying36 Tryz.underlying9 fi19 ?_)
  refine sl_ (l_insert (es := es20) (ck := 20) rfl rfl rfl Tryz.underlying36 Tryz.underlying9 fi20 ?_)
  refine sq (SM.closed) (q_move rfl) rfl ?_
  refine sq (SM.closed) (q_move rfl) rfl ?_
  refine sq (SM.closed) (q_lookup (es := es21) (i := 10) (v := (.int .i64 ((8 : Nat) : Int))) (fun _ h => h) rfl rfl Tryz.underlying36 Tryz.underlying9 (by kernel_rfl)) rfl ?_
  refine sq (SM.closed) (q_assign rfl) rfl ?_
  refine send ?_
  refine eseq ?_
  refine HT.unmap ?_
  refine HT.seq ?_
  refine HT.seq ?_
  refine HT.plain ?_
  refine sMv rfl rfl ?_
  refine sqS (q_len (len := n) rfl Tryz.underlying22) rfl ?_
  refine sMv rfl rfl ?_
  refine sqS (q_F (q_lt (p := n) (q := 8) rfl rfl) (by omega)) rfl ?_
  refine send ?_
  refine eseq ?_
  refine HT.no rfl ?_
  refine HT.skip ?_
  refine eseq ?_
  refine HT.seq ?_
  refine HT.seq ?_
  refine HT.plain ?_
  refine sMv rfl rfl ?_
  refine send ?_
  refine eseq ?_
  refine HT.block ?_
  refine HT.seq ?_
  refine HT.plain ?_
  refine sqS (q_eqs rfl rfl (r := false) (by kernel_rfl)) rfl ?_
  refine sAs rfl rfl ?_
  refine send ?_
  refine eseq ?_
  refine HT.no rfl ?_
  refine HT.seq ?_
  refine HT.plain ?_
  refine sqS (q_eqs rfl rfl (r := false) (by kernel_rfl)) rfl ?_
  refine sAs rfl rfl ?_
  refine send ?_
  refine eseq ?_
  refine HT.no rfl ?_
  refine HT.seq ?_
  refine HT.plain ?_
  refine sqS (q_eqs rfl rfl (r := false) (by kernel_rfl)) rfl ?_
  refine sAs rfl rfl ?_
  refine send ?_
  refine eseq ?_
  refine HT.no rfl ?_
  refine HT.seq ?_
  refine HT.plain ?_
  refine sqS (q_eqs rfl rfl (r := false) (by kernel_rfl)) rfl ?_
  refine sAs rfl rfl ?_
  refine send ?_
  refine eseq ?_
  refine HT.no rfl ?_
  refine HT.seq ?_
  refine HT.plain ?_
  refine sqS (q_eqs rfl rfl (r := false) (by kernel_rfl)) rfl ?_
  refine sAs rfl rfl ?_
  refine send ?_
  refine eseq ?_
  refine HT.no rfl ?_
  refine HT.seq ?_
  refine HT.plain ?_
  refine sqS (q_eqs rfl rfl (r := false) (by kernel_rfl)) rfl ?_
  refine sAs rfl rfl ?_
  refine send ?_
  refine eseq ?_
  refine HT.no rfl ?_
  refine HT.seq ?_
  refine HT.plain ?_
  refine sqS (q_eqs rfl rfl (r := false) (by kernel_rfl)) rfl ?_
  refine sAs rfl rfl ?_
  refine send ?_
  refine eseq ?_
  refine HT.no rfl ?_
  refine HT.seq ?_
  refine HT.plain ?_
  refine sqS (q_eqs rfl rfl (r := false) (by kernel_rfl)) rfl ?_
  refine sAs rfl rfl ?_
  refine send ?_
  refine eseq ?_
  refine HT.no rfl ?_
  refine HT.seq ?_
  refine HT.plain ?_
  refine sqS (q_eqs rfl rfl (r := false) (by kernel_rfl)) rfl ?_
  refine sAs rfl rfl ?_
  refine send ?_
  refine eseq ?_
  refine HT.no rfl ?_
  refine HT.seq ?_
  refine HT.plain ?_
  refine sqS (q_eqs rfl rfl (r := false) (by kernel_rfl)) rfl ?_
  refine sAs rfl rfl ?_
  refine send ?_
  refine eseq ?_
  refine HT.no rfl ?_
  refine HT.seq ?_
  refine HT.plain ?_
  refine sqS (q_eqs rfl rfl (r := true) (by kernel_rfl)) rfl ?_
  refine sAs rfl rfl ?_
  refine send ?_
  refine eseq ?_
  refine HT.yes rfl ?_
  refine HT.seq ?_
  refine HT.plain ?_
  refine sMv rfl rfl ?_
  refine sl_ (l_callX (ι := BI × BI × BI × BI) (vs := [(.slice A n c)]) (Kc := []) (Bc := [Byt A n c bs]) (K' := fun _ => [⟨b4, 29, [some (.slice none 0 0), some (.slice none 0 0), some (.slice none 0 0), some (.slice none 0 0)], true⟩]) [] [0] (by decide) rfl ca_39 rfl (fun _ h => h) rfl rfl rfl (fun w h => geneve_s7 w A n c bs N (by omega) (by omega) (by omega) (by omega) hd (by omega) (by omega) h) (fun _ => rfl) (fun _ => rfl) (fun _ => rfl) fun u _ _ => ?_)
  refine sqS (q_extract (vs := [(.agg #[(.slice u.1.A u.1.n u.1.c), (.slice u.2.1.A u.2.1.n u.2.1.c), (.slice u.2.2.1.A u.2.2.1.n u.2.2.1.c), (.slice u.2.2.2.A u.2.2.2.n u.2.2.2.c)]), (.bool false), (.bool false)]) (i := 0) rfl rfl) rfl ?_
  refine sqS (q_extract (vs := [(.agg #[(.slice u.1.A u.1.n u.1.c), (.slice u.2.1.A u.2.1.n u.2.1.c), (.slice u.2.2.1.A u.2.2.1.n u.2.2.1.c), (.slice u.2.2.2.A u.2.2.2.n u.2.2.2.c)]), (.bool false), (.bool false)]) (i := 1) rfl rfl) rfl ?_
  refine sqS (q_extract (vs := [(.agg #[(.slice u.1.A u.1.n u.1.c), (.slice u.2.1.A u.2.1.n u.2.1.c), (.slice u.2.2.1.A u.2.2.1.n u.2.2.1.c), (.slice u.2.2.2.A u.2.2.2.n u.2.2.2.c)]), (.bool false), (.bool false)]) (i := 2) rfl rfl) rfl ?_
  refine sl_ (l_storeAgg (b := b4) (off := 0) (j := 0) (vs := [(.slice u.1.A u.1.n u.1.c), (.slice u.2.1.A u.2.1.n u.2.1.c), (.slice u.2.2.1.A u.2.2.1.n u.2.2.1.c), (.slice u.2.2.2.A u.2.2.2.n u.2.2.2.c)]) rfl rfl aggs_29 (by simp [Value.one1]) rfl rfl rfl (Nat.le_of_ble_eq_true rfl) ?_)
  refine sAs rfl rfl ?_
  refine sAs rfl rfl ?_
  refine send ?_
  refine eseq ?_
  refine HT.ret ?_
  refine rt_in ?_
  refine rt_then ?_
  exact fun a ha w' hw => fin_ ha (resc3 ha Tryz.results26 rfl (ld_ aggs_29 hw (j := 0) rfl rfl (vs := [(.slice u.1.A u.1.n u.1.c), (.slice u.2.1.A u.2.1.n u.2.1.c), (.slice u.2.2.1.A u.2.2.1.n u.2.2.1.c), (.slice u.2.2.2.A u.2.2.2.n u.2.2.2.c)]) rfl) rfl rfl) ⟨⟨u.1.A, u.1.n, u.1.c, []⟩, ⟨u.2.1.A, u.2.1.n, u.2.1.c, []⟩, ⟨u.2.2.1.A, u.2.2.1.n, u.2.2.1.c, []⟩, ⟨u.2.2.2.A, u.2.2.2.n, u.2.2.2.c, []⟩, false, rfl, hw.pres⟩
end Go.Proofs.YtfkaafbeeegenaaGreat.Zed
