/- Texts W169 to W173, as far as the statement reaches them, laid together by a program of ours. Conditions: those that each theorem names. -/
import Derived.Test.YtblhkgldhcbmeaaGreatK5
set_option linter.unusedVariables false
set_option linter.unusedSimpArgs false
set_option linter.unusedSectionVars false
namespace Go.Proofs.YtblhkgldhcbmeaaGreat
open Go.Tess Go.RowKit
set_option maxRecDepth 100000
set_option maxHeartbeats 4000000
theorem mst_mono1 {us : List ByteArray} {V : List SpanD} {i : Nat} : ∀ {j}, i ≤ j → (mst us V i).1 ≤ (mst us V j).1
  | 0, h => by obtain rfl : i = 0 := by omega
               exact Nat.le_refl _
  | j + 1, h => by
    rcases Nat.lt_or_ge i (j + 1) with e | e
    · have := mst_mono1 (us := us) (V := V) (show i ≤ j by omega)
      simp only [mst]
      split <;> simp only <;> omega
    · obtain rfl : i = j + 1 := by omega
      exact Nat.le_refl _
section
variable {es : List EntD} {V : List SpanD}
theorem mkE_st {k : Nat} (h : stAt (es.map EntD.user) V k = true) : (markE es V k).user = atS V (mst (es.map EntD.user) V k).2 := by
  unfold markE; rw [h]; rfl
theorem mkE_pt {k : Nat} (hk : k < nM (es.map EntD.user) V) (h : stAt (es.map EntD.user) V k = false) : (markE es V k).user = atB (es.map EntD.user) (mst (es.map EntD.user) V k).1 ∧ (mst (es.map EntD.user) V k).1 < (es.map EntD.user).length := by
  have hp := pt_lt (us := es.map EntD.user) (W := V) hk h
  refine ⟨?_, hp⟩
  have hp' := hp
  rw [List.length_map] at hp'
  obtain ⟨e, he⟩ := ex_get (L := es) hp'
  unfold markE; rw [h]
  rw [atB_some (x := e.user) (by rw [List.getElem?_map, he]; rfl), he]; rfl
theorem mark_lt (hR : Rise (es.map EntD.user)) (hO : Ord V) {key : ByteArray} {k : Nat} (h : k < geM (es.map EntD.user) V key) : slt (markE es V k).user key = true := by
  have hm := mst_geM hR hO key
  have hn := geM_le (es.map EntD.user) V key
  have h1 := mst_mono1 (us := es.map EntD.user) (V := V) (show k + 1 ≤ geM (es.map EntD.user) V key by omega)
  have h2 := mst_mono (us := es.map EntD.user) (V := V) (show k + 1 ≤ geM (es.map EntD.user) V key by omega)
  rw [hm] at h1 h2
  simp only at h1 h2
  cases hs : stAt (es.map EntD.user) V k with
  | true =>
    rw [mst_st hs] at h1 h2
    simp only at h1 h2
    rw [mkE_st hs]
    have hl := ltI_le V key
    have hx0 : (mst (es.map EntD.user) V k).2 < V.length := by omega
    have hx1 : ltI V key - 1 < V.length := by omega
    have h3 := ltI_at (k := key) (by omega) (List.getElem?_eq_getElem hx1)
    have h4 := hO.starts (show (mst (es.map EntD.user) V k).2 ≤ ltI V key - 1 by omega) (List.getElem?_eq_getElem hx0) (List.getElem?_eq_getElem hx1)
    rw [atS_some (List.getElem?_eq_getElem hx0)]
    exact slt_of_sle_slt h4 h3
  | false =>
    rw [mst_pt hs] at h1 h2
    simp only at h1 h2
    rw [(mkE_pt (by unfold nM; omega) hs).1]
    exact ptN_lt key _ _ (by omega)
theorem mark_ge (hR : Rise (es.map EntD.user)) (hO : Ord V) {key : ByteArray} {k : Nat} (h : geM (es.map EntD.user) V key ≤ k) (hk : k < nM (es.map EntD.user) V) : slt (markE es V k).user key = false := by
  have hm := mst_geM hR hO key
  have h1 := mst_mono1 (us := es.map EntD.user) (V := V) h
  have h2 := mst_mono (us := es.map EntD.user) (V := V) h
  rw [hm] at h1 h2
  simp only at h1 h2
  cases hs : stAt (es.map EntD.user) V k with
  | true =>
    have hx := stAt_lt hs
    rw [mkE_st hs, atS_some (List.getElem?_eq_getElem hx)]
    exact ltI_above _ _ h2 (List.getElem?_eq_getElem hx)
  | false =>
    obtain ⟨e1, e2⟩ := mkE_pt hk hs
    rw [e1]
    exact not_slt.2 (ptN_ge hR key h1 e2)
def GeInv (es : List EntD) (V : List SpanD) (key : ByteArray) (j g : Nat) : Prop :=
  g ≤ nM (es.map EntD.user) V ∧ (g < nM (es.map EntD.user) V → slt (markE es V g).user key = false) ∧ ∀ i, j ≤ i → i < g → slt (markE es V i).user key = true
theorem GeInv.init (key : ByteArray) : GeInv es V key (nM (es.map EntD.user) V) (nM (es.map EntD.user) V) := ⟨Nat.le_refl _, fun h => absurd h (Nat.lt_irrefl _), fun i h1 h2 => by omega⟩
theorem GeInv.yes {key : ByteArray} {j : Nat} (hj : j + 1 ≤ nM (es.map EntD.user) V) (h : slt (markE es V j).user key = false) : GeInv es V key j j := ⟨by omega, fun _ => h, fun i h1 h2 => by omega⟩
theorem GeInv.no {key : ByteArray} {j g : Nat} (H : GeInv es V key (j + 1) g) (h : slt (markE es V j).user key = true) : GeInv es V key j g :=
  ⟨H.1, H.2.1, fun i h1 h2 => by
    rcases Nat.lt_or_ge j i with e | e
    · exact H.2.2 i e h2
    · obtain rfl : i = j := by omega
      exact h⟩
theorem GeInv.fin (hR : Rise (es.map EntD.user)) (hO : Ord V) {key : ByteArray} {g : Nat} (H : GeInv es V key 0 g) : g = geM (es.map EntD.user) V key := by
  have hn : geM (es.map EntD.user) V key ≤ nM (es.map EntD.user) V := geM_le _ _ _
  rcases Nat.lt_trichotomy g (geM (es.map EntD.user) V key) with e | e | e
  · have h1 := mark_lt hR hO e
    rw [H.2.1 (by omega)] at h1; cases h1
  · exact e
  · have h1 := mark_ge hR hO (Nat.le_refl _) (show geM (es.map EntD.user) V key < nM (es.map EntD.user) V by have := H.1; omega)
    rw [H.2.2 _ (Nat.zero_le _) e] at h1; cases h1
end
theorem RMks.form {A : Nat → Prop} {h : Heap} {v : Value} {es : List EntD} {V : List SpanD} {N : Nat} (H : RMks A h v (mlist es V N)) : ∃ a c, v = .slice a N c ∧ RMks A h (.slice a N c) (mlist es V N) := by
  obtain ⟨a, c, e⟩ := SlR.form2 H
  rw [mlist_len] at e
  subst e
  exact ⟨a, c, rfl, H⟩
theorem RMks.at {A : Nat → Prop} {h : Heap} {a : Option Addr} {c : Nat} {es : List EntD} {V : List SpanD} {N : Nat} (H : RMks A h (.slice a N c) (mlist es V N)) {i : Nat} (hi : i < N) :
    ∃ b o, a = some ⟨b, o, none⟩ ∧ A b ∧ CellsAt h b (o + i * 4) [.string (markE es V i).user, .int .u64 (markE es V i).tr, .string (markE es V i).val, .bool (stAt (es.map EntD.user) V i)] := by
  obtain ⟨_, a', c', e, hx⟩ := H
  injection e with e1 e2 e3
  subst e1
  exact hx i (markE es V i, stAt (es.map EntD.user) V i) (by unfold mlist; rw [List.getElem?_map, List.getElem?_range hi]; rfl)
theorem RMks.keep {lo hi : Nat} {h h' : Heap} {X : List Nat} {v : Value} {l : List (EntD × Bool)} (H : RMks (fun b => lo ≤ b ∧ b < hi) h v l) (k : Keep X h h') (hh : hi ≤ h.size) (hx : ∀ x, x ∈ X → hi ≤ x) : RMks (fun b => lo ≤ b ∧ b < hi) h' v l :=
  SlR.stab H fun b o a hb hc => (k.stab fun b hb => ⟨Nat.lt_of_lt_of_le hb.2 hh, fun hm => by have := hx b hm; have := hb.2; omega⟩ : Stab (fun b => lo ≤ b ∧ b < hi) h h').cells hb hc
theorem ansM_no {es : List EntD} {V : List SpanD} {q : Option PP} (h : okM q = false) : ansM es V q = ⟨q.isSome, false, false, zeroEnt, false, zeroSpan⟩ := by
  cases q with
  | none => rfl
  | some p => cases p <;> first | rfl | (simp [okM] at h)
theorem stepM_pt {us : List ByteArray} {V : List SpanD} {p : PP} {s : StepD} (hi : s.op = 4 → insM V s.key = false) (ho : okM (stepM us V p s) = true) : ∃ j, stepM us V p s = some (.pt j) := by
  obtain ⟨op, key⟩ := s
  have key0 : ∀ q : Option PP, okM q = true → (∀ k ky, q ≠ some (.ins k ky)) → ∃ j, q = some (.pt j) := fun q h1 h2 => by
    cases q with
    | none => simp [okM] at h1
    | some p => cases p with
      | pt j => exact ⟨j, rfl⟩
      | ins k ky => exact absurd rfl (h2 k ky)
      | _ => simp [okM] at h1
  refine key0 _ ho fun k ky e => ?_
  simp only [stepM] at e
  split at e
  · unfold ppFirst at e; split at e <;> simp at e
  split at e
  · unfold ppLast at e; split at e <;> simp at e
  split at e
  · cases p <;> simp only [ppNext] at e <;> first | (split at e <;> simp at e) | simp at e
  split at e
  · cases p <;> simp only [ppPrev] at e <;> first | (split at e <;> simp at e) | simp at e
  split at e
  · rename_i h4
    unfold ppGE at e
    rw [hi h4, if_neg (by decide)] at e
    split at e <;> simp at e
  split at e
  · unfold ppLT at e; split at e <;> simp at e
  · simp at e
theorem c_PointWalk {χ : Chi} {h : Heap} {A : Nat → Prop} (hA : Low A h) {wv sv : Value} {a : Option Addr} {c : Nat} {es : List EntD} {W : List SpanD} {steps : List StepD} (hE : REnts A h (.slice a es.length c) es) (hcap : es.length ≤ c) (hW : RSpans A h wv W) (hS : RSteps A h sv steps)
    (hR : Rise (es.map EntD.user)) (hO : Ord W) (hn1 : es.length ≤ 100000) (hn2 : W.length ≤ 100000) (hn : steps.length ≤ 1000) :
    Cl Tryz.prog χ 20 #[.slice a es.length c, wv, sv] h (fun r h' => RPAnss (Up A h h') h' r (walkM es W .nowhere steps) ∧ Keep [] h h') := by
  obtain ⟨hlW, wa, wc, rfl, hxW⟩ := hW.form
  obtain ⟨hlen, a2, c2, rfl, hx2⟩ := hS.form
  have hNM : nM (es.map EntD.user) W = es.length + W.length := by unfold nM; rw [List.length_map]
  refine cl_intro Tryz.func20 rfl rfl rfl ?_
  have K : Keep [] h h := Keep.refl _ _
  refine rG <| rA rfl rfl <| rN <| rG <| rA rfl rfl <| rN <| rG <| rM rfl rfl <| rM rfl rfl <| rs_w (w_call (vs := [_, _]) ok_spec_marks rfl ⟨rfl, rfl, trivial⟩ (c_marks hA hE hcap hW hn1 hn2)) rfl ?_
  rintro _ h1 ⟨Mk, K1⟩
  obtain ⟨ma, mc, rfl, Mk⟩ := RMks.form Mk
  have K := K.new0 K1; have Z1 := K1.1
  refine rA rfl rfl <| rN <| rG <| rM rfl rfl <| rs_v (v_len u_sl_spec_mark rfl) rfl ?_
  refine rs_v (v_build1 rfl (bld_spec_SpanCursor_0 _)) rfl ?_
  refine rs_w (w_newbox rfl) rfl ?_
  rintro _ h2 ⟨rfl, B2, K2, Z2⟩
  have Mk := Mk.keep K2 (Nat.le_refl _) (by intro x hx; simp at hx)
  have S2 := K.1; have K := K.new0 K2
  refine rA rfl rfl <| rN <| tr_seq <| rG <| rM rfl rfl <| rs_v (v_len u_sl_spec_Step rfl) rfl ?_
  refine rM rfl rfl <| rN <| tr_block ?_
  refine tr_loop (fun m E h' => ∃ k v xs cx cf cb ca ci, k ≤ steps.length ∧ m = steps.length - k ∧ E = [(1, .slice wa W.length wc), (7, v), (8, .slice ma (nM (es.map EntD.user) W) mc), (9, .pointer (some ⟨h1.size, 0, none⟩)), (25, .slice a2 steps.length c2), (26, .int .i64 (steps.length : Int)), (27, .int .i64 (k : Int))] ∧ Keep [] h h' ∧ RPP h' h1.size (nM (es.map EntD.user) W) (endM' (es.map EntD.user) W .nowhere (steps.take k)) 159 ∧ Blk h' h1.size [.int .i64 ((nM (es.map EntD.user) W) : Int), .int .i64 cx, .bool cf, .bool cb, .bool ca, .bool ci] 159 ∧ RMks (fun b => h.size ≤ b ∧ b < h1.size) h' (.slice ma (nM (es.map EntD.user) W) mc) (mlist es W (nM (es.map EntD.user) W)) ∧ h2.size ≤ h'.size ∧ Own h' h2.size 59 10 v k xs ∧ RowsR 10 (cPAns A h) xs (walkM es W .nowhere (steps.take k))) steps.length [(1, _), (7, _), (8, _), (9, _), (25, _), (26, _), (27, _)] ⟨rfl, rfl, rfl, rfl, rfl, rfl, rfl, trivial⟩ ⟨0, _, [], _, _, _, _, _, Nat.zero_le _, rfl, rfl, K, ⟨_, B2⟩, B2, Mk, Nat.le_refl _, Own.nil _ _ _ _, RowsR.nil _ _⟩ ?_
  rintro m E hL3 ⟨k, v, xs, cx, cf, cb, ca, ci, hk, rfl, rfl, K, hc, Bc, Mk, hZ, O, hrow⟩
  have hz2 : h2.size = h1.size + 1 := by omega
  have hob := own_ne O; have KL := Keep.refl [] hL3
  refine rG <| rs_v (v_lt rfl rfl) rfl <| rN <| tr_seq ?_
  refine tr_ifn rfl (fun hif => ?_) (fun hif => ?_)
  · -- no
    simp only [dT, dF] at hif
    have hkk : k = steps.length := by omega
    subst hkk
    refine tr_exit <| q_thn_exit <| q_lp_exit <| q_blk_hit <| q_thn <| rG <| rM rfl rfl <| rA rfl rfl <| rN <| tr_ret <| q_ret (res_tmp rfl rfl) ?_
    rw [List.take_length] at hrow
    exact ⟨SlR.of_rows O (by rw [walkM_len]) hrow (fun b h1 h2 => Up.new b (by omega) h2) (fun b o c a hc he => by obtain ⟨kv, rfl, hk⟩ := he; exact ⟨kv, hc, (hk.stab (K.st hA)).mono Up.old⟩), K⟩
  -- yes
  simp only [dT, dF] at hif
  rcases hx2 with rfl | ⟨b, o, rfl, hAb, hR2⟩
  · simp at hif; omega
  obtain ⟨s, hsk⟩ := ex_get (L := steps) (k := k) (by omega)
  have hcells := K.cells (by simp) (hR2 k s hsk)
  have hnb : ∀ y, y ∈ v.ownBlock.toList → y ≠ hL3.size := fun y hy => by have := (hob y hy).2; omega
  refine tr_skip <| q_thn <| tr_seq <| tr_block <| rG <| rs_v (v_indexAddrN u_sl_spec_Step siz_spec_Step rfl rfl (by omega)) rfl ?_
  refine rs_v (v_loadAgg (vs := [_, _]) many_spec_Step rfl (by exact hcells)) rfl ?_
  refine rs_w (w_new zero_spec_Step) rfl ?_
  rintro _ h4 ⟨rfl, B4, K4, Z4⟩
  have Bc := K4.blk (by simp) Bc
  first | have hc := hc.keep K4 (by simp) | skip
  have Mk := Mk.keep K4 (by omega) (by first | (intro x hx; simp at hx; done) | (intro x hx; simp at hx; omega) | (intro x hx; have := hob x hx; omega))
  have O := O.keep2 K4 (fun x hm => by have := hob x hm; simp; try omega)
  have S4 := K.1; have K := K.new0 K4
  refine rs_w0 (w_put siz_spec_Step rfl rfl rfl rfl B4 rfl) ?_
  rintro _ h5 ⟨B5, K5⟩
  have Bc := K5.blk (by simp; omega) Bc
  first | have hc := hc.keep K5 (by simp; omega) | skip
  have Mk := Mk.keep K5 (by omega) (by first | (intro x hx; simp at hx; done) | (intro x hx; simp at hx; omega) | (intro x hx; have := hob x hx; omega))
  have O := O.keep2 K5 (fun x hm => by have := hob x hm; simp; try omega)
  have B4 := B5; have K := K.new1 K5 (by first | (right; omega) | (left; simp; done)); have Z5 := K5.1
  refine rN <| rG <| rM rfl rfl <| rs_v (v_len u_sl_spec_mark rfl) rfl ?_
  refine rA rfl rfl <| rA rfl rfl <| rN <| tr_seq <| rG <| rM rfl rfl <| rs_v (v_len u_sl_spec_mark rfl) rfl ?_
  refine rs_v (v_sub rfl rfl (by omega) (by omega)) rfl ?_
  refine rA rfl rfl <| rN <| tr_block ?_
  refine tr_loop (fun m E h' => ∃ (j g : Nat) (i : Int), j ≤ (nM (es.map EntD.user) W) ∧ j = m ∧ (i : Int) = (j : Int) - 1 ∧ E = [(1, .slice wa W.length wc), (7, v), (8, .slice ma (nM (es.map EntD.user) W) mc), (9, .pointer (some ⟨h1.size, 0, none⟩)), (11, .pointer (some ⟨hL3.size, 0, none⟩)), (12, .int .i64 (g : Int)), (14, .int .i64 i), (25, .slice (some ⟨b, o, none⟩) steps.length c2), (26, .int .i64 (steps.length : Int)), (27, .int .i64 (k : Int))] ∧ Keep [] h h' ∧ RPP h' h1.size (nM (es.map EntD.user) W) (endM' (es.map EntD.user) W .nowhere (steps.take k)) 159 ∧ Blk h' h1.size [.int .i64 ((nM (es.map EntD.user) W) : Int), .int .i64 cx, .bool cf, .bool cb, .bool ca, .bool ci] 159 ∧ RMks (fun b => h.size ≤ b ∧ b < h1.size) h' (.slice ma (nM (es.map EntD.user) W) mc) (mlist es W (nM (es.map EntD.user) W)) ∧ h2.size ≤ h'.size ∧ Own h' h2.size 59 10 v k xs ∧ Blk h' hL3.size [.int .u8 s.op, .string s.key] 66 ∧ GeInv es W s.key j g) (nM (es.map EntD.user) W) [(1, _), (7, _), (8, _), (9, _), (11, _), (12, _), (14, _), (25, _), (26, _), (27, _)] ⟨rfl, rfl, rfl, rfl, rfl, rfl, rfl, rfl, rfl, rfl, trivial⟩ ⟨(nM (es.map EntD.user) W), (nM (es.map EntD.user) W), _, Nat.le_refl _, rfl, rfl, rfl, K, hc, Bc, Mk, by omega, O, B4, GeInv.init _⟩ ?_
  rintro m E hL6 ⟨j, g, i, hj, rfl, hij, rfl, K, hc, Bc, Mk, hZ, O, Bs, hg⟩
  have hbz := Bs.lt
  have hob := own_ne O; have KL := Keep.refl [] hL6
  refine tr_seq <| rG <| rM rfl rfl <| rs_v (v_ge rfl rfl) rfl ?_
  refine rN ?_
  refine tr_ifn rfl (fun hif => ?_) (fun hif => ?_)
  · -- no
    simp only [dT, dF] at hif
    obtain rfl : j = 0 := by omega
    obtain rfl := hg.fin hR hO
    have hgle0 : geM (es.map EntD.user) W s.key ≤ (nM (es.map EntD.user) W) := geM_le _ _ _
    refine tr_exit <| q_thn_exit <| q_lp_exit <| q_blk_hit <| q_thn <| rG <| rM rfl rfl <| rs_v (v_sub rfl rfl (by omega) (by omega)) rfl ?_
    refine rA rfl rfl <| rN <| rG <| rM rfl rfl <| rF fa_spec_Step_1 rfl rfl <| rs_v (v_load one_string rfl (by exact Bs.cell _ rfl)) rfl ?_
    refine rs_w (w_call (vs := [_, _]) ok_spec_SpanSeekGE rfl ⟨rfl, rfl, trivial⟩ (c_SpanSeekGE χ _ A _ W s.key (hW.stab (K.st hA)))) rfl ?_
    rintro _ h7 ⟨rfl, K7⟩
    have Bc := K7.blk (by simp) Bc
    have Bs := K7.blk (by simp) Bs
    first | have hc := hc.keep K7 (by simp) | skip
    have Mk := Mk.keep K7 (by omega) (by first | (intro x hx; simp at hx; done) | (intro x hx; simp at hx; omega) | (intro x hx; have := hob x hx; omega))
    have O := O.keep2 K7 (fun x hm => by have := hob x hm; simp; try omega)
    have K := K.new0 K7; have Z7 := K7.1
    refine rA rfl rfl <| rN <| tr_seq ?_
    refine tr_cut (fun E h' => h7 = h' ∧ E = [(1, .slice wa W.length wc), (7, v), (8, .slice ma (nM (es.map EntD.user) W) mc), (9, .pointer (some ⟨h1.size, 0, none⟩)), (11, .pointer (some ⟨hL3.size, 0, none⟩)), (12, .int .i64 (geM (es.map EntD.user) W s.key : Int)), (13, .int .i64 ((geM (es.map EntD.user) W s.key : Int) - 1)), (25, .slice (some ⟨b, o, none⟩) steps.length c2), (26, .int .i64 (steps.length : Int)), (27, .int .i64 (k : Int)), (74, .bool (decide (s.op = 4) && insM W s.key))]) ?_ ?_
    ·
      rcases Bool.eq_false_or_eq_true (decide (s.op = 4)) with g1 | g1
      rcases Bool.eq_false_or_eq_true (decide (geI W s.key < W.length)) with g2 | g2
      · have g3 : decide ((geI W s.key : Int) < (W.length : Int)) = true := by rw [decide_eq_true_eq] at g2 ⊢; omega
        rw [decide_eq_true_eq] at g2
        rcases hxW with rfl | ⟨wb, wo, rfl, hAw, hRw⟩
        · simp at g2
        obtain ⟨sp, hsp⟩ := ex_get (L := W) g2
        obtain ⟨kw, hck, hkk⟩ := hRw _ sp hsp
        have hck := K.cells (by simp) hck
        refine tr_quiet (by kernel_rfl) (by kernel_rfl) ?_
        refine rq_v (v_fieldAddr fa_spec_Step_0 rfl) <| rq_v (v_load one_uint8 rfl (by exact Bs.cell _ rfl)) ?_
        refine rq_v (v_eq rfl rfl) ?_
        refine rq_v (v_move rfl) <| rq_gv rfl (lkm g1) (v_move rfl) <| rq_gv rfl (lkm g1) (v_move rfl) <| rq_gv rfl (lkm g1) (v_len u_sl_spec_Span rfl) <| rq_gv rfl (lkm g1) (v_lt rfl rfl) <| rq_v (v_pick_t (lkb g1) rfl) ?_
        refine rq_v (v_move rfl) <| rq_gv rfl (lkm g3) (v_move rfl) <| rq_gv rfl (lkm g3) (v_move rfl) ?_
        refine rq_gv rfl (lkm g3) (v_indexAddrN u_sl_spec_Span siz_spec_Span rfl rfl (by omega)) ?_
        refine rq_gv rfl (lkm g3) (v_fieldAddr fa_spec_Span_0 rfl) ?_
        refine rq_gv rfl (lkm g3) (v_load one_string rfl (by exact hck 0 _ rfl)) ?_
        refine rq_gv rfl (lkm g3) (v_fieldAddr fa_spec_Step_1 rfl) ?_
        refine rq_gv rfl (lkm g3) (v_load one_string rfl (by exact Bs.cell _ rfl)) ?_
        refine rq_gv rfl (lkm g3) (v_slt rfl rfl) <| rq_v (v_pick_t (lkb g3) rfl) ?_
        refine rm_end ?_; simp only [endM, hypF, ofE, argE]
        exact q_cut [(1, _), (7, _), (8, _), (9, _), (11, _), (12, _), (13, _), (25, _), (26, _), (27, _), (74, _)] ⟨rfl, rfl, rfl, rfl, rfl, rfl, rfl, rfl, rfl, rfl, rfl, trivial⟩ ⟨rfl, by rw [show (decide (s.op = 4) && insM W s.key) = slt sp.s s.key from by unfold insM; rw [g1, Bool.true_and, decide_eq_true g2, Bool.true_and, atS_some hsp]]⟩
      · have g3 : decide ((geI W s.key : Int) < (W.length : Int)) = false := by rw [decide_eq_false_iff_not] at g2 ⊢; omega
        refine tr_quiet (by kernel_rfl) (by kernel_rfl) ?_
        refine rq_v (v_fieldAddr fa_spec_Step_0 rfl) <| rq_v (v_load one_uint8 rfl (by exact Bs.cell _ rfl)) ?_
        refine rq_v (v_eq rfl rfl) ?_
        refine rq_v (v_move rfl) <| rq_gv rfl (lkm g1) (v_move rfl) <| rq_gv rfl (lkm g1) (v_move rfl) <| rq_gv rfl (lkm g1) (v_len u_sl_spec_Span rfl) <| rq_gv rfl (lkm g1) (v_lt rfl rfl) <| rq_v (v_pick_t (lkb g1) rfl) ?_
        refine rq_v (v_move rfl) <| rm_gs same_pre rfl (lkm g3) rfl <| rm_gs same_pre rfl (lkm g3) rfl <| rm_gs same_pre rfl (lkm g3) rfl <| rm_gs same_pre rfl (lkm g3) rfl <| rm_gs same_pre rfl (lkm g3) rfl <| rm_gs same_pre rfl (lkm g3) rfl <| rm_gs same_pre rfl (lkm g3) rfl <| rm_gs same_pre rfl (lkm g3) rfl <| rq_v (v_pick_f (lkb g3) rfl) ?_
        refine rm_end ?_; simp only [endM, hypF, ofE, argE]
        exact q_cut [(1, _), (7, _), (8, _), (9, _), (11, _), (12, _), (13, _), (25, _), (26, _), (27, _), (74, _)] ⟨rfl, rfl, rfl, rfl, rfl, rfl, rfl, rfl, rfl, rfl, rfl, trivial⟩ ⟨rfl, by rw [show (decide (s.op = 4) && insM W s.key) = false from by unfold insM; rw [g2]; simp]⟩
      · 
        refine tr_quiet (by kernel_rfl) (by kernel_rfl) ?_
        refine rq_v (v_fieldAddr fa_spec_Step_0 rfl) <| rq_v (v_load one_uint8 rfl (by exact Bs.cell _ rfl)) ?_
        refine rq_v (v_eq rfl rfl) ?_
        refine rq_v (v_move rfl) <| rm_gs same_pre rfl (lkm g1) rfl <| rm_gs same_pre rfl (lkm g1) rfl <| rm_gs same_pre rfl (lkm g1) rfl <| rm_gs same_pre rfl (lkm g1) rfl <| rq_v (v_pick_f (lkb g1) rfl) ?_
        refine rq_v (v_move rfl) ?_
        refine rm_gs same_pre rfl rfl rfl ?_
        refine rm_gs same_pre rfl rfl rfl ?_
        refine rm_gs same_pre rfl rfl rfl ?_
        refine rm_gs same_pre rfl rfl rfl ?_
        refine rm_gs same_pre rfl rfl rfl ?_
        refine rm_gs same_pre rfl rfl rfl ?_
        refine rm_gs same_pre rfl rfl rfl ?_
        refine rm_gs same_pre rfl rfl rfl ?_
        refine rq_v (v_pick_f rfl rfl) ?_
        refine rm_end ?_; simp only [endM, hypF, ofE, argE]
        exact q_cut [(1, _), (7, _), (8, _), (9, _), (11, _), (12, _), (13, _), (25, _), (26, _), (27, _), (74, _)] ⟨rfl, rfl, rfl, rfl, rfl, rfl, rfl, rfl, rfl, rfl, rfl, trivial⟩ ⟨rfl, by rw [show (decide (s.op = 4) && insM W s.key) = false from by rw [g1, Bool.false_and]]⟩
    rintro E h99 ⟨hh, rfl⟩
    subst hh
    refine tr_if rfl (fun hif => ?_) (fun hif => ?_)
    · -- yes
      rw [Bool.and_eq_true, decide_eq_true_eq] at hif
      obtain ⟨hop4, hins⟩ := hif
      have hst : stepM (es.map EntD.user) W (endM' (es.map EntD.user) W .nowhere (steps.take k)) s = some (.ins (geM (es.map EntD.user) W s.key) s.key) := by simp [stepM, hop4, ppGE, hins]
      have hgle : geM (es.map EntD.user) W s.key ≤ (nM (es.map EntD.user) W) := geM_le _ _ _
      refine rG <| rM rfl rfl <| rF fa_spec_Step_1 rfl rfl <| rs_v (v_load one_string rfl (by exact Bs.cell _ rfl)) rfl ?_
      refine rs_v (v_build1 rfl (bld_spec_Entry_0 _)) rfl ?_
      refine rs_v (v_build2 rfl rfl (bld_spec_mark_0_1 _ _ _ _)) rfl ?_
      refine rM rfl rfl <| rs_w (w_call (vs := [_, _]) ok_spec_pointAnswer rfl ⟨rfl, rfl, trivial⟩ (c_pointAnswer (K.st hA) hW ⟨s.key, 0, .empty⟩ true)) rfl ?_
      rintro _ h9 ⟨⟨pka, pkn, pkc, rfl, hpk⟩, K9⟩
      have Bc := K9.blk (by simp) Bc
      have Bs := K9.blk (by simp) Bs
      first | have hc := hc.keep K9 (by simp) | skip
      have Mk := Mk.keep K9 (by omega) (by first | (intro x hx; simp at hx; done) | (intro x hx; simp at hx; omega) | (intro x hx; have := hob x hx; omega))
      have O := O.keep2 K9 (fun x hm => by have := hob x hm; simp; try omega)
      have K := K.new0 K9; have Z9 := K9.1
      refine rs_w (w_new1 u_sl_spec_PointAnswer siz_spec_PointAnswer zero_spec_PointAnswer rfl rfl rfl rfl rfl) rfl ?_
      rintro _ h10 ⟨rfl, B10, K10, Z10⟩
      have Bc := K10.blk (by simp) Bc
      have Bs := K10.blk (by simp) Bs
      first | have hc := hc.keep K10 (by simp) | skip
      have Mk := Mk.keep K10 (by omega) (by first | (intro x hx; simp at hx; done) | (intro x hx; simp at hx; omega) | (intro x hx; have := hob x hx; omega))
      have O := O.keep2 K10 (fun x hm => by have := hob x hm; simp; try omega)
      have S10 := K.1; have K := K.new0 K10
      refine rs_w (w_app1 u_sl_spec_PointAnswer info_spec_PointAnswer rfl rfl rfl O rfl rfl B10 rfl (by omega) (by omega) (by omega)) rfl ?_
      rintro v11 h11 ⟨O11, K11, N11, F11⟩
      have K := K.newX K11 (fun x hm => .inr (by have := hob x hm; omega)); have Z11 := K11.1
      have Bc := K11.blk (fun hm => by first | (have := hob _ hm; omega) | exact absurd rfl (hnb _ hm)) Bc
      have Bs := K11.blk (fun hm => by first | (have := hob _ hm; omega) | exact absurd rfl (hnb _ hm)) Bs
      have B10 := K11.blk (fun hm => by first | (have := hob _ hm; omega) | exact absurd rfl (hnb _ hm)) B10
      first | have hc := hc.keep K11 (fun hm => by first | (have := hob _ hm; omega) | exact absurd rfl (hnb _ hm)) | skip
      have Mk := Mk.keep K11 (by omega) (by first | (intro x hx; simp at hx; done) | (intro x hx; simp at hx; omega) | (intro x hx; have := hob x hx; omega))
      refine rA rfl rfl <| rN <| rG <| rM rfl rfl <| rM rfl rfl <| rC rfl rfl <| rF fa_spec_SpanCursor_0 rfl rfl <| rs_v (v_load one_int rfl (by exact Bc.cell _ rfl)) rfl ?_
      refine rM rfl rfl <| rs_v (v_buildN (us := [_, _, _, _]) ⟨rfl, rfl, rfl, rfl, trivial⟩ (bld_spec_SpanCursor_0_1_2_5 _ _ _ _)) rfl ?_
      refine rC rfl rfl <| rs_w0 (w_put siz_spec_SpanCursor rfl rfl rfl rfl Bc rfl) ?_
      rintro _ h12 ⟨B12, K12⟩
      have Bs := K12.blk (by simp; omega) Bs
      have B10 := K12.blk (by simp; omega) B10
      first | have hc := hc.keep K12 (by simp; omega) | skip
      have Mk := Mk.keep K12 (by omega) (by first | (intro x hx; simp at hx; done) | (intro x hx; simp at hx; omega) | (intro x hx; have := hob x hx; omega))
      have Bc := B12; have K := K.new1 K12 (by first | (right; omega) | (left; simp; done)); have Z12 := K12.1
      refine rN <| tr_exit <| q_thn_exit <| q_blk_hit <| q_thn <| tr_reg <| rs_v (v_add rfl rfl (by omega) (by omega)) rfl ?_
      refine rM rfl rfl <| rs_nil ?_
      refine q_lp (steps.length - (k + 1)) [(1, _), (7, _), (8, _), (9, _), (25, _), (26, _), (27, _)] (by omega) ⟨rfl, rfl, rfl, rfl, rfl, rfl, rfl, trivial⟩ ⟨k + 1, _, _, _, _, _, _, _, by omega, rfl, rfl, K, ?_, Bc, Mk, by omega, O11.keep2 K12 (fun x hm => by have := own_ne O11 x hm; simp; omega), ?_⟩
      · rw [take_snoc' hsk, endM_snoc]; rw [hst]; exact ⟨Bc, by omega⟩
      · rw [take_snoc' hsk, walkM_snoc]
        refine hrow.snoc rfl ?_
        rw [hst]; exact ⟨_, rfl, hpk⟩
    -- no
    have hno : s.op = 4 → insM W s.key = false := fun e => by rw [decide_eq_true e, Bool.true_and] at hif; exact hif
    refine tr_skip <| q_thn <| rG <| rM rfl rfl <| rF fa_spec_Step_0 rfl rfl <| rs_v (v_load one_uint8 rfl (by exact Bs.cell _ rfl)) rfl ?_
    refine rM rfl rfl <| rM rfl rfl <| rs_w (w_call (vs := [_, _, _, _]) ok_spec_SpanCursor_Step rfl ⟨rfl, rfl, rfl, rfl, trivial⟩ (c_StepM χ _ _ (es.map EntD.user) W _ s _ (by omega) hno hc)) rfl ?_
    rintro _ h13 ⟨rfl, hc, K13⟩
    have Bs := K13.blk (by simp; omega) Bs
    have Mk := Mk.keep K13 (by omega) (by intro x hx; simp at hx; omega)
    have O := O.keep2 K13 (fun x hm => by have := hob x hm; simp; omega)
    have Z13 := K13.1
    have K := K.new1 K13 (.inr (by omega))
    obtain ⟨cx, cf, cb, ca, ci, Bc⟩ := hc.blk
    refine rM rfl rfl <| rs_v (v_extract rfl rfl) rfl <| rs_v (v_extract rfl rfl) rfl <| rA rfl rfl <| rA rfl rfl <| rN <| tr_seq <| rG <| rM rfl rfl <| rs_v (v_not rfl) rfl <| rN ?_
    refine tr_if rfl (fun hif => ?_) (fun hif => ?_)
    · -- yes
      have hq0 : okM (stepM (es.map EntD.user) W (endM' (es.map EntD.user) W .nowhere (steps.take k)) s) = false := by simpa using hif
      refine rG <| rM rfl rfl <| rM rfl rfl <| rs_v (v_build1 rfl (bld_spec_PointAnswer_0 _)) rfl ?_
      refine rs_w (w_new1 u_sl_spec_PointAnswer siz_spec_PointAnswer zero_spec_PointAnswer rfl rfl rfl rfl rfl) rfl ?_
      rintro _ h14 ⟨rfl, B14, K14, Z14⟩
      have Bc := K14.blk (by simp) Bc
      have Bs := K14.blk (by simp) Bs
      first | have hc := hc.keep K14 (by simp) | skip
      have Mk := Mk.keep K14 (by omega) (by first | (intro x hx; simp at hx; done) | (intro x hx; simp at hx; omega) | (intro x hx; have := hob x hx; omega))
      have O := O.keep2 K14 (fun x hm => by have := hob x hm; simp; try omega)
      have S14 := K.1; have K := K.new0 K14
      refine rs_w (w_app1 u_sl_spec_PointAnswer info_spec_PointAnswer rfl rfl rfl O rfl rfl B14 rfl (by omega) (by omega) (by omega)) rfl ?_
      rintro v15 h15 ⟨O15, K15, N15, F15⟩
      have K := K.newX K15 (fun x hm => .inr (by have := hob x hm; omega)); have Z15 := K15.1
      have Bc := K15.blk (fun hm => by first | (have := hob _ hm; omega) | exact absurd rfl (hnb _ hm)) Bc
      have Bs := K15.blk (fun hm => by first | (have := hob _ hm; omega) | exact absurd rfl (hnb _ hm)) Bs
      have B14 := K15.blk (fun hm => by first | (have := hob _ hm; omega) | exact absurd rfl (hnb _ hm)) B14
      first | have hc := hc.keep K15 (fun hm => by first | (have := hob _ hm; omega) | exact absurd rfl (hnb _ hm)) | skip
      have Mk := Mk.keep K15 (by omega) (by first | (intro x hx; simp at hx; done) | (intro x hx; simp at hx; omega) | (intro x hx; have := hob x hx; omega))
      refine rA rfl rfl <| rN <| tr_exit <| q_thn_exit <| q_blk_hit <| q_thn <| tr_reg <| rs_v (v_add rfl rfl (by omega) (by omega)) rfl ?_
      refine rM rfl rfl <| rs_nil ?_
      refine q_lp (steps.length - (k + 1)) [(1, _), (7, _), (8, _), (9, _), (25, _), (26, _), (27, _)] (by omega) ⟨rfl, rfl, rfl, rfl, rfl, rfl, rfl, trivial⟩ ⟨k + 1, _, _, _, _, _, _, _, by omega, rfl, rfl, K, ?_, Bc, Mk, by omega, O15, ?_⟩
      · rw [take_snoc' hsk, endM_snoc]; exact hc
      · rw [take_snoc' hsk, walkM_snoc]
        refine hrow.snoc rfl ?_
        rw [ansM_no hq0]; exact ⟨_, rfl, SlR.nil _ _ _ _⟩
    -- no
    obtain ⟨j, hqj⟩ := stepM_pt hno (show okM (stepM (es.map EntD.user) W (endM' (es.map EntD.user) W .nowhere (steps.take k)) s) = true by simpa using hif)
    have hc : RPP h13 h1.size (nM (es.map EntD.user) W) (.pt j) 159 := by rw [hqj] at hc; exact hc
    have Bc : Blk h13 h1.size (curL (nM (es.map EntD.user) W) j true false false) 159 := hc.1
    have hjn := hc.2
    obtain ⟨mb, mo, rfl, hAm, hcm⟩ := Mk.at (i := j) (by omega)
    refine tr_skip <| q_thn <| tr_reg <| rM rfl rfl <| rM rfl rfl <| rM rfl rfl <| rC rfl rfl <| rF fa_spec_SpanCursor_1 rfl rfl <| rs_v (v_load one_int rfl (by exact Bc.cell _ rfl)) rfl ?_
    refine rs_v (v_indexAddrN u_sl_spec_mark siz_spec_mark rfl rfl (by omega)) rfl ?_
    refine rs_v (v_loadAgg (vs := [_, _, _, _]) many_spec_mark rfl (by exact hcm)) rfl ?_
    refine rM rfl rfl <| rs_w (w_call (vs := [_, _]) ok_spec_pointAnswer rfl ⟨rfl, rfl, trivial⟩ (c_pointAnswer (K.st hA) hW (markE es W j) (stAt (es.map EntD.user) W j))) rfl ?_
    rintro _ h16 ⟨⟨pka, pkn, pkc, rfl, hpk⟩, K16⟩
    have Bc := K16.blk (by simp) Bc
    have Bs := K16.blk (by simp) Bs
    first | have hc := hc.keep K16 (by simp) | skip
    have Mk := Mk.keep K16 (by omega) (by first | (intro x hx; simp at hx; done) | (intro x hx; simp at hx; omega) | (intro x hx; have := hob x hx; omega))
    have O := O.keep2 K16 (fun x hm => by have := hob x hm; simp; try omega)
    have K := K.new0 K16; have Z16 := K16.1
    refine rs_w (w_new1 u_sl_spec_PointAnswer siz_spec_PointAnswer zero_spec_PointAnswer rfl rfl rfl rfl rfl) rfl ?_
    rintro _ h17 ⟨rfl, B17, K17, Z17⟩
    have Bc := K17.blk (by simp) Bc
    have Bs := K17.blk (by simp) Bs
    first | have hc := hc.keep K17 (by simp) | skip
    have Mk := Mk.keep K17 (by omega) (by first | (intro x hx; simp at hx; done) | (intro x hx; simp at hx; omega) | (intro x hx; have := hob x hx; omega))
    have O := O.keep2 K17 (fun x hm => by have := hob x hm; simp; try omega)
    have S17 := K.1; have K := K.new0 K17
    refine rs_w (w_app1 u_sl_spec_PointAnswer info_spec_PointAnswer rfl rfl rfl O rfl rfl B17 rfl (by omega) (by omega) (by omega)) rfl ?_
    rintro v18 h18 ⟨O18, K18, N18, F18⟩
    have K := K.newX K18 (fun x hm => .inr (by have := hob x hm; omega)); have Z18 := K18.1
    have Bc := K18.blk (fun hm => by first | (have := hob _ hm; omega) | exact absurd rfl (hnb _ hm)) Bc
    have Bs := K18.blk (fun hm => by first | (have := hob _ hm; omega) | exact absurd rfl (hnb _ hm)) Bs
    have B17 := K18.blk (fun hm => by first | (have := hob _ hm; omega) | exact absurd rfl (hnb _ hm)) B17
    first | have hc := hc.keep K18 (fun hm => by first | (have := hob _ hm; omega) | exact absurd rfl (hnb _ hm)) | skip
    have Mk := Mk.keep K18 (by omega) (by first | (intro x hx; simp at hx; done) | (intro x hx; simp at hx; omega) | (intro x hx; have := hob x hx; omega))
    refine rA rfl rfl <| rs_nil <| q_blk_n <| q_thn <| tr_reg <| rs_v (v_add rfl rfl (by omega) (by omega)) rfl ?_
    refine rM rfl rfl <| rs_nil ?_
    refine q_lp (steps.length - (k + 1)) [(1, _), (7, _), (8, _), (9, _), (25, _), (26, _), (27, _)] (by omega) ⟨rfl, rfl, rfl, rfl, rfl, rfl, rfl, trivial⟩ ⟨k + 1, _, _, _, _, _, _, _, by omega, rfl, rfl, K, ?_, Bc, Mk, by omega, O18, ?_⟩
    · rw [take_snoc' hsk, endM_snoc]; rw [hqj]; exact hc
    · rw [take_snoc' hsk, walkM_snoc]
      refine hrow.snoc rfl ?_
      rw [hqj]; exact ⟨_, rfl, hpk⟩
  -- yes
  simp only [dT, dF] at hif
  obtain ⟨i0, rfl⟩ : ∃ i0 : Nat, i = (i0 : Int) := ⟨i.toNat, by omega⟩
  obtain rfl : j = i0 + 1 := by omega
  obtain ⟨mb, mo, rfl, hAm, hcm⟩ := Mk.at (i := i0) (by omega)
  refine tr_skip <| q_thn <| tr_seq <| tr_block <| tr_seq ?_
  refine tr_quiet (by kernel_rfl) (by kernel_rfl) ?_
  refine rq_v (v_move rfl) <| rq_v (v_move rfl) <| rq_v (v_indexAddrN u_sl_spec_mark siz_spec_mark rfl rfl (by omega)) ?_
  refine rq_v (v_fieldAddr fa_spec_mark_0 rfl) <| rq_v (v_fieldAddr fa_spec_Entry_0 rfl) <| rq_v (v_load one_string rfl (by exact hcm 0 _ rfl)) ?_
  refine rq_v (v_fieldAddr fa_spec_Step_1 rfl) <| rq_v (v_load one_string rfl (by exact Bs.cell _ rfl)) ?_
  refine rq_v (v_sge rfl rfl) ?_
  refine rm_end ?_; simp only [endM, hypF, ofE, argE]
  refine q_thn ?_
  refine tr_if rfl (fun hif => ?_) (fun hif => ?_)
  · -- yes
    skip
    refine tr_reg <| rM rfl rfl <| rA rfl rfl <| rs_nil <| q_blk_n <| q_thn <| tr_reg <| rM rfl rfl <| rs_v (v_sub rfl rfl (by omega) (by omega)) rfl ?_
    refine rA rfl rfl <| rs_nil ?_
    refine q_lp i0 [(1, _), (7, _), (8, _), (9, _), (11, _), (12, _), (14, _), (25, _), (26, _), (27, _)] (by omega) ⟨rfl, rfl, rfl, rfl, rfl, rfl, rfl, rfl, rfl, rfl, trivial⟩ ⟨i0, i0, (i0 : Int) - 1, by omega, rfl, rfl, rfl, K, hc, Bc, Mk, hZ, O, Bs, GeInv.yes (by omega) (by simpa using hif)⟩
  -- no
  skip
  refine tr_skip <| q_blk_n <| q_thn <| tr_reg <| rM rfl rfl <| rs_v (v_sub rfl rfl (by omega) (by omega)) rfl ?_
  refine rA rfl rfl <| rs_nil ?_
  refine q_lp i0 [(1, _), (7, _), (8, _), (9, _), (11, _), (12, _), (14, _), (25, _), (26, _), (27, _)] (by omega) ⟨rfl, rfl, rfl, rfl, rfl, rfl, rfl, rfl, rfl, rfl, trivial⟩ ⟨i0, g, (i0 : Int) - 1, by omega, rfl, rfl, rfl, K, hc, Bc, Mk, hZ, O, Bs, hg.no (by simpa using hif)⟩
set_option maxHeartbeats 1000000
def fit13 (l : List EntD) : Bool := decide (l.length ≤ MX) && l.all fit12
def pless (a b : EntD) : Bool := if seq' a.user b.user then decide (b.tr < a.tr) else slt a.user b.user
def ERng (e : EntD) : Prop := 0 ≤ e.tr ∧ e.tr < 18446744073709551616
def seqB (e : EntD) : Bool := decide (e.tr.toNat / 256 < 72057594037927935)
def ptsB (L : List EntD) : Bool := L.all seqB && chainB pless L
theorem pless_le {a b : EntD} (h : pless a b = true) : sle a.user b.user = true := by
  unfold pless at h
  cases e : seq' a.user b.user with
  | true => rw [seq_iff.1 e]; exact sle_refl _
  | false => rw [e] at h; exact slt_sle h
theorem rise_of {L : List EntD} (h : chainB pless L = true) : Rise (L.map EntD.user) := by
  have h1 := (chainB_iff pless L).1 h
  have key : ∀ d i, i + d < L.length → ∀ x y, L[i]? = some x → L[i + d]? = some y → sle x.user y.user = true := by
    intro d
    induction d with
    | zero => intro i _ x y hx hy; rw [Nat.add_zero, hx] at hy; cases hy; exact sle_refl _
    | succ d ih =>
      intro i hi x y hx hy
      obtain ⟨z, hz⟩ := ex_get (L := L) (k := i + d) (by omega)
      exact sle_trans (ih i (by omega) x z hx hz) (pless_le (h1 (i + d) z y hz hy))
  unfold Rise
  rw [List.pairwise_map, List.pairwise_iff_getElem]
  intro i j hi hj hij
  exact key (j - i) i (by omega) _ _ (List.getElem?_eq_getElem hi) (by rw [show i + (j - i) = j from by omega]; exact List.getElem?_eq_getElem hj)
theorem seqlow_of {L : List EntD} (h : L.all seqB = true) (hr : ∀ e, e ∈ L → ERng e) : SeqLow L := fun e he => by
  have h1 := List.all_eq_true.1 h e he
  have h2 := hr e he
  simp only [seqB, decide_eq_true_eq] at h1
  unfold ERng at h2
  exact ⟨e.tr.toNat, by omega, h1, by omega⟩
theorem fit13_small {L : List EntD} (h : fit13 L = true) : ∀ e, e ∈ L → e.small := fun e he => by
  simp only [fit13, Bool.and_eq_true, List.all_eq_true, decide_eq_true_eq] at h
  have := h.2 e he
  simp only [fit12, Bool.and_eq_true, decide_eq_true_eq] at this
  exact this
theorem nxF_no (N : Nat) : ∀ f k, nxF (fun _ => false) N f k = k
  | 0, k => rfl
  | f + 1, k => by unfold nxF; simp
theorem nB_no : ∀ k, nB (fun _ => false) k = k
  | 0 => rfl
  | k + 1 => by unfold nB; simp
theorem stepK_no (us : List ByteArray) (V : List SpanD) (p : PP) (s : StepD) : stepK us V (fun _ => false) p s = stepM us V p s := by
  have hF : ∀ N k, nF (fun _ => false) N k = k := fun N k => nxF_no N _ k
  have e1 : kFirst (fun _ => false) (nM us V) = ppFirst us V := by
    unfold kFirst ppFirst; rw [hF]
    by_cases h : nM us V = 0
    · rw [if_pos h, if_neg (by omega)]
    · rw [if_neg h, if_pos (by omega)]
  have e2 : kLast (fun _ => false) (nM us V) = ppLast us V := by unfold kLast ppLast; rw [nB_no]
  have e3 : kNext (fun _ => false) (nM us V) p = ppNext us V p := by cases p <;> simp only [kNext, ppNext, hF, ptF]
  have e4 : kPrev (fun _ => false) (nM us V) p = ppPrev us V p := by cases p <;> simp only [kPrev, ppPrev, nB_no, ptB]
  have e5 : kGE (fun _ => false) us V s.key = ppGE us V s.key := by unfold kGE ppGE; rw [hF]; rfl
  have e6 : kLT (fun _ => false) us V s.key = ppLT us V s.key := by unfold kLT ppLT; rw [nB_no]; rfl
  unfold stepK stepM
  rw [e1, e2, e3, e4, e5, e6]
theorem walkK_no (es : List EntD) (V : List SpanD) : ∀ (l : List StepD) (p : PP), walkK es V (fun _ => false) p l = walkM es V p l
  | [], p => rfl
  | x :: l, p => by simp only [walkK, walkM, stepK_no, walkK_no es V l]
theorem c_zzFits13 (χ : Chi) (h : Heap) (A : Nat → Prop) (v : Value) (L : List EntD) (hL : REnts A h v L) :
    Cl Tryz.prog χ 10 #[v] h (fun r h' => r = .bool (fit13 L) ∧ Keep [] h h') := by
  obtain ⟨hlen, a, c, rfl, hx⟩ := SlR.form hL
  refine cl_intro Tryz.func10 rfl rfl rfl ?_
  have K : Keep [] h h := Keep.refl _ _
  refine rG <| rA rfl rfl <| rN <| tr_seq <| rG <| rM rfl rfl <| rs_v (v_len u_sl_spec_Entry rfl) rfl ?_
  refine rs_v (v_gt rfl rfl) rfl ?_
  refine rN ?_
  refine tr_if rfl (fun hif => ?_) (fun hif => ?_)
  · -- yes
    simp only [dT, dF] at hif
    refine rG <| rA rfl rfl <| rN <| tr_ret <| q_thn_ret <| q_ret (res_tmp rfl rfl) ?_
    refine ⟨?_, K⟩
    simp only [fit13, ofNat_gt hif, Bool.false_and]
  -- no
  simp only [dT, dF] at hif
  have hmx := ofNat_le hif
  clear hif
  refine tr_skip <| q_thn <| tr_seq <| rG <| rM rfl rfl <| rs_v (v_len u_sl_spec_Entry rfl) rfl ?_
  refine rM rfl rfl <| rN <| tr_block ?_
  refine tr_loop (fun m E h' => ∃ k, k ≤ L.length ∧ m = L.length - k ∧ E = [(0, .slice a L.length c), (8, .slice a L.length c), (9, .int .i64 (L.length : Int)), (10, .int .i64 (k : Int))] ∧ Keep [] h h' ∧ (L.take k).all fit12 = true) L.length [(0, _), (8, _), (9, _), (10, _)] ⟨rfl, rfl, rfl, rfl, trivial⟩ ⟨0, Nat.zero_le _, rfl, rfl, K, rfl⟩ ?_
  rintro m E hL1 ⟨k, hk, rfl, rfl, K, hall⟩
  refine rG <| rs_v (v_lt rfl rfl) rfl <| rN <| tr_seq ?_
  refine tr_ifn rfl (fun hif => ?_) (fun hif => ?_)
  · -- no
    simp only [dT, dF] at hif
    have hkk : k = L.length := by omega
    subst hkk
    refine tr_exit <| q_thn_exit <| q_lp_exit <| q_blk_hit <| q_thn <| rG <| rA rfl rfl <| rN <| tr_ret <| q_ret (res_tmp rfl rfl) ?_
    refine ⟨?_, K⟩
    rw [List.take_length] at hall
    simp only [fit13, hall, hmx, Bool.true_and]
  -- yes
  simp only [dT, dF] at hif
  rcases hx with rfl | ⟨b, o, rfl, hAb, hR⟩
  · simp at hif; omega
  obtain ⟨x, hxk⟩ := ex_get (L := L) (k := k) (by omega)
  have hcells : CellsAt _ b (o + k * 3) x.cells := K.cells (by simp) (hR k x hxk)
  refine tr_skip <| q_thn <| tr_seq <| tr_block <| rG <| rs_v (v_indexAddrN u_sl_spec_Entry siz_spec_Entry rfl rfl (by omega)) rfl ?_
  refine rs_v (v_loadAgg (vs := [_, _, _]) many_spec_Entry rfl (by exact hcells)) rfl ?_
  refine rs_w (w_new zero_spec_Entry) rfl ?_
  rintro _ h2 ⟨rfl, B2, K2, Z2⟩
  have S2 := K.1; have K := K.new0 K2
  refine rs_w0 (w_put siz_spec_Entry rfl rfl rfl rfl B2 rfl) ?_
  rintro _ h3 ⟨B3, K3⟩
  have B2 := B3; have K := K.new1 K3 (by first | (right; omega) | (left; simp; done)); have Z3 := K3.1
  refine rN <| rG <| rs_v (v_loadAgg (vs := [_, _, _]) many_spec_Entry rfl (by exact B2.sub _ 3 rfl)) rfl ?_
  refine rs_w (w_call (vs := [_]) ok_laws_zzFits12 rfl ⟨rfl, trivial⟩ (c_zzFits12 χ _ x)) rfl ?_
  rintro _ h4 ⟨rfl, K4⟩
  have B2 := K4.blk (by simp) B2
  have K := K.new0 K4; have Z4 := K4.1
  refine rs_v (v_not rfl) rfl <| rN ?_
  refine tr_if rfl (fun hif => ?_) (fun hif => ?_)
  · -- yes
    simp only [Bool.not_eq_true'] at hif
    refine rG <| rA rfl rfl <| rN <| tr_ret <| q_blk_ret <| q_thn_ret ?_
    refine q_lp_ret ?_
    refine q_blk_ret <| q_thn_ret <| q_ret (res_tmp rfl rfl) ?_
    refine ⟨?_, K⟩
    simp only [fit13, all_hit hxk hif, Bool.and_false]
  -- no
  simp only [Bool.not_eq_false'] at hif
  refine tr_skip <| q_blk_n <| q_thn <| tr_reg <| rs_v (v_add rfl rfl (by omega) (by omega)) rfl ?_
  refine rM rfl rfl <| rs_nil ?_
  refine q_lp (L.length - (k + 1)) [(0, _), (8, _), (9, _), (10, _)] (by omega) ⟨rfl, rfl, rfl, rfl, trivial⟩ ⟨k + 1, by omega, rfl, rfl, K, ?_⟩
  rw [take_all hxk, hall, hif]
  rfl
theorem c_PointLess (χ : Chi) (h : Heap) (x y : EntD) :
    Cl Tryz.prog χ 50 #[.agg x.cells.toArray, .agg y.cells.toArray] h (fun r h' => r = .bool (pless x y) ∧ Keep [] h h') := by
  refine cl_intro Tryz.func50 rfl rfl rfl ?_
  have K : Keep [] h h := Keep.refl _ _
  refine rG <| rs_w (w_newbox rfl) rfl ?_
  rintro _ h1 ⟨rfl, B1, K1, Z1⟩
  have S1 := K.1; have K := K.new0 K1
  refine rs_w (w_newbox rfl) rfl ?_
  rintro _ h2 ⟨rfl, B2, K2, Z2⟩
  have B1 := K2.blk (by simp) B1
  have S2 := K.1; have K := K.new0 K2
  refine rA rfl rfl <| rN <| tr_seq <| rG <| rF fa_spec_Entry_0 rfl rfl <| rs_v (v_load one_string rfl (by exact B1.cell _ rfl)) rfl ?_
  refine rF fa_spec_Entry_0 rfl rfl <| rs_v (v_load one_string rfl (by exact B2.cell _ rfl)) rfl ?_
  refine rs_v (v_sne rfl rfl) rfl ?_
  refine rN ?_
  refine tr_if rfl (fun hif => ?_) (fun hif => ?_)
  · -- yes
    skip
    refine rG <| rF fa_spec_Entry_0 rfl rfl <| rs_v (v_load one_string rfl (by exact B1.cell _ rfl)) rfl ?_
    refine rF fa_spec_Entry_0 rfl rfl <| rs_v (v_load one_string rfl (by exact B2.cell _ rfl)) rfl ?_
    refine rs_v (v_slt rfl rfl) rfl ?_
    refine rA rfl rfl <| rN <| tr_ret <| q_thn_ret <| q_ret (res_tmp rfl rfl) ?_
    exact ⟨by unfold pless; rw [if_neg (by simpa using hif)], K⟩
  -- no
  skip
  refine tr_skip <| q_thn <| rG <| rF fa_spec_Entry_1 rfl rfl <| rs_v (v_load one_uint64 rfl (by exact B1.cell _ rfl)) rfl ?_
  refine rF fa_spec_Entry_1 rfl rfl <| rs_v (v_load one_uint64 rfl (by exact B2.cell _ rfl)) rfl ?_
  refine rs_v (v_gt rfl rfl) rfl ?_
  refine rA rfl rfl <| rN <| tr_ret <| q_ret (res_tmp rfl rfl) ?_
  exact ⟨by unfold pless; rw [if_pos (by simpa using hif)], K⟩
theorem c_PointsWell (χ : Chi) (h : Heap) (A : Nat → Prop) (hA : ∀ b, A b → b < h.size) (v : Value) (L : List EntD) (hL : REnts A h v L) (hrg : ∀ e, e ∈ L → ERng e) :
    Cl Tryz.prog χ 13 #[v] h (fun r h' => r = .bool (ptsB L) ∧ Keep [] h h') := by
  obtain ⟨hlen, a, c, rfl, hx⟩ := SlR.form hL
  refine cl_intro Tryz.func13 rfl rfl rfl ?_
  have K : Keep [] h h := Keep.refl _ _
  refine rG <| rA rfl rfl <| rN <| tr_seq <| rG <| rM rfl rfl <| rs_v (v_len u_sl_spec_Entry rfl) rfl ?_
  refine rM rfl rfl <| rN <| tr_block ?_
  refine tr_loop (fun m E h' => ∃ k, k ≤ L.length ∧ m = L.length - k ∧ E = [(0, .slice a L.length c), (5, .slice a L.length c), (6, .int .i64 (L.length : Int)), (7, .int .i64 (k : Int))] ∧ Keep [] h h' ∧ (L.take k).all seqB = true ∧ ∀ (i : Nat) x y, i + 1 < k → L[i]? = some x → L[i + 1]? = some y → pless x y = true) L.length [(0, _), (5, _), (6, _), (7, _)] ⟨rfl, rfl, rfl, rfl, trivial⟩ ⟨0, Nat.zero_le _, rfl, rfl, K, rfl, fun i _ _ hi => by omega⟩ ?_
  rintro m E hL1 ⟨k, hk, rfl, rfl, K, hall, hch⟩
  refine rG <| rs_v (v_lt rfl rfl) rfl <| rN <| tr_seq ?_
  refine tr_ifn rfl (fun hif => ?_) (fun hif => ?_)
  · -- no
    simp only [dT, dF] at hif
    have hkk : k = L.length := by omega
    subst hkk
    refine tr_exit <| q_thn_exit <| q_lp_exit <| q_blk_hit <| q_thn <| rG <| rA rfl rfl <| rN <| tr_ret <| q_ret (res_tmp rfl rfl) ?_
    refine ⟨?_, K⟩
    rw [List.take_length] at hall
    have : chainB pless L = true := (chainB_iff _ L).2 fun i x y hx hy => hch i x y (by have := (List.getElem?_eq_some_iff.1 hy).1; omega) hx hy
    simp only [ptsB, hall, this]; rfl
  -- yes
  simp only [dT, dF] at hif
  rcases hx with rfl | ⟨b, o, rfl, hAb, hR⟩
  · simp at hif; omega
  obtain ⟨x, hxk⟩ := ex_get (L := L) (k := k) (by omega)
  have hcells : CellsAt _ b (o + k * 3) x.cells := K.cells (by simp) (hR k x hxk)
  obtain ⟨hr1, hr2⟩ := hrg x (List.mem_of_getElem? hxk)
  obtain ⟨T, hT⟩ : ∃ T : Nat, x.tr = (T : Int) := ⟨x.tr.toNat, by omega⟩
  have hTl : T < 18446744073709551616 := by omega
  refine tr_skip <| q_thn <| tr_seq <| tr_block <| rG <| rM rfl rfl <| rs_v (v_indexAddrN u_sl_spec_Entry siz_spec_Entry rfl rfl (by omega)) rfl ?_
  refine rs_v (v_loadAgg (vs := [_, _, _]) many_spec_Entry rfl (by exact hcells)) rfl ?_
  refine rs_w (w_new zero_spec_Entry) rfl ?_
  rintro _ h2 ⟨rfl, B2, K2, Z2⟩
  have S2 := K.1; have K := K.new0 K2
  refine rA rfl rfl <| rs_w0 (w_put siz_spec_Entry rfl rfl rfl rfl B2 rfl) ?_
  rintro _ h3 ⟨B3, K3⟩
  have B2 := B3; have K := K.new1 K3 (by first | (right; omega) | (left; simp; done)); have Z3 := K3.1
  refine rN ?_
  refine tr_cut (fun E h' => ∃ bad, E = [(0, .slice (some ⟨b, o, none⟩) L.length c), (5, .slice (some ⟨b, o, none⟩) L.length c), (6, .int .i64 (L.length : Int)), (7, .int .i64 (k : Int)), (29, .bool bad)] ∧ Keep [] h h' ∧ (bad = false ↔ seqB x = true ∧ ∀ j y, k = j + 1 → L[j]? = some y → pless y x = true)) ?_ ?_
  ·
    have hcall : ∀ {h' : Heap}, Cl Tryz.prog χ 49 #[.int .u64 x.tr] h' (fun r h'' => r = .int .u64 ((T / 256 : Nat) : Int) ∧ Keep [] h' h'') := by intro h'; rw [hT]; exact c_SpanSeq hTl
    have hse : seqB x = decide (T / 256 < 72057594037927935) := by unfold seqB; rw [hT]; rfl
    rcases Bool.eq_false_or_eq_true (seqB x) with hf | hf
    rcases Nat.eq_zero_or_pos k with hk0 | hk0
    · -- the first one
      have hz : decide ((0 : Int) < (k : Int)) = false := by simp; omega
      have hf2 : decide ((72057594037927935 : Int) ≤ ((T / 256 : Nat) : Int)) = false := by rw [hse, decide_eq_true_eq] at hf; rw [decide_eq_false_iff_not]; omega
      refine tr_any (Keep []) (keep_pre _) (by kernel_rfl) (by kernel_rfl) ?_
      refine rm_v (keep_pre _) (fun h' hk => v_fieldAddr fa_spec_Entry_1 rfl) ?_
      refine rm_v (keep_pre _) (fun h' hk => v_load one_uint64 rfl (by exact (hk.blk (by simp) B2).cell _ rfl)) ?_
      refine rm_c (fun h' hk => w_call (vs := [_]) ok_spec_SpanSeq rfl ⟨rfl, trivial⟩ hcall) ?_
      refine rm_v (keep_pre _) (fun h' hk => v_ge rfl rfl) ?_
      refine rm_v (keep_pre _) (fun h' hk => v_move rfl) ?_
      refine rm_gv (keep_pre _) rfl (lkm hf2) (fun h' hk => v_move rfl) ?_
      refine rm_gv (keep_pre _) rfl (lkm hf2) (fun h' hk => v_gt rfl rfl) ?_
      refine rm_gv (keep_pre _) rfl (lkm hf2) (fun h' hk => v_move rfl) ?_
      refine rm_gs (keep_pre _) rfl (lkm hz) rfl ?_
      refine rm_gs (keep_pre _) rfl (lkm hz) rfl ?_
      refine rm_gs (keep_pre _) rfl (lkm hz) rfl ?_
      refine rm_gs (keep_pre _) rfl (lkm hz) rfl ?_
      refine rm_gs (keep_pre _) rfl (lkm hz) rfl ?_
      refine rm_gs (keep_pre _) rfl (lkm hz) rfl ?_
      refine rm_gs (keep_pre _) rfl (lkm hz) rfl ?_
      refine rm_gs (keep_pre _) rfl (lkm hz) rfl ?_
      refine rm_gv (keep_pre _) rfl (lkm hf2) (fun h' hk => v_pick_f (lkb hz) rfl) ?_
      refine rm_v (keep_pre _) (fun h' hk => v_pick_f (lkb hf2) rfl) ?_
      refine rm_end ?_; intro h4 K4; simp only [endM, hypF, ofE, argE, List.nil_append]
      have B2 := K4.blk (by simp) B2
      have K := K.new0 K4; have Z4 := K4.1
      refine q_cut [(0, _), (5, _), (6, _), (7, _), (29, _)] ⟨rfl, rfl, rfl, rfl, rfl, trivial⟩ ⟨_, rfl, K, ⟨fun _ => ⟨hf, fun j y hj => by omega⟩, fun _ => rfl⟩⟩
    · -- a later one
      obtain ⟨j, rfl⟩ : ∃ j, k = j + 1 := ⟨k - 1, by omega⟩
      obtain ⟨y, hyj⟩ := ex_get (L := L) (k := j) (by omega)
      have hcells2 : CellsAt _ b (o + j * 3) y.cells := K.cells (by simp) (hR j y hyj)
      have hz : decide ((0 : Int) < ((j + 1 : Nat) : Int)) = true := by simp
      have hf2 : decide ((72057594037927935 : Int) ≤ ((T / 256 : Nat) : Int)) = false := by rw [hse, decide_eq_true_eq] at hf; rw [decide_eq_false_iff_not]; omega
      refine tr_any (Keep []) (keep_pre _) (by kernel_rfl) (by kernel_rfl) ?_
      refine rm_v (keep_pre _) (fun h' hk => v_fieldAddr fa_spec_Entry_1 rfl) ?_
      refine rm_v (keep_pre _) (fun h' hk => v_load one_uint64 rfl (by exact (hk.blk (by simp) B2).cell _ rfl)) ?_
      refine rm_c (fun h' hk => w_call (vs := [_]) ok_spec_SpanSeq rfl ⟨rfl, trivial⟩ hcall) ?_
      refine rm_v (keep_pre _) (fun h' hk => v_ge rfl rfl) ?_
      refine rm_v (keep_pre _) (fun h' hk => v_move rfl) ?_
      refine rm_gv (keep_pre _) rfl (lkm hf2) (fun h' hk => v_move rfl) ?_
      refine rm_gv (keep_pre _) rfl (lkm hf2) (fun h' hk => v_gt rfl rfl) ?_
      refine rm_gv (keep_pre _) rfl (lkm hf2) (fun h' hk => v_move rfl) ?_
      refine rm_gv (keep_pre _) rfl (lkm hz) (fun h' hk => v_move rfl) ?_
      refine rm_gv (keep_pre _) rfl (lkm hz) (fun h' hk => v_move rfl) ?_
      refine rm_gv (keep_pre _) rfl (lkm hz) (fun h' hk => v_sub rfl rfl (by omega) (by omega)) ?_
      refine rm_gv (keep_pre _) rfl (lkm hz) (fun h' hk => v_indexAddrE (i := j) u_sl_spec_Entry siz_spec_Entry rfl rfl (by omega) (by omega)) ?_
      refine rm_gv (keep_pre _) rfl (lkm hz) (fun h' hk => v_loadAgg (vs := [_, _, _]) many_spec_Entry rfl (by exact hk.cells (by simp) hcells2)) ?_
      refine rm_gv (keep_pre _) rfl (lkm hz) (fun h' hk => v_loadAgg (vs := [_, _, _]) many_spec_Entry rfl (by exact (hk.blk (by simp) B2).sub _ 3 rfl)) ?_
      refine rm_gc rfl (lkm hz) (fun h' hk => w_call (vs := [_, _]) ok_spec_PointLess rfl ⟨rfl, rfl, trivial⟩ (c_PointLess χ _ y x)) ?_
      refine rm_gv (keep_pre _) rfl (lkm hz) (fun h' hk => v_not rfl) ?_
      refine rm_gv (keep_pre _) rfl (lkm hf2) (fun h' hk => v_pick_t (lkb hz) rfl) ?_
      refine rm_v (keep_pre _) (fun h' hk => v_pick_f (lkb hf2) rfl) ?_
      refine rm_end ?_; intro h5 K5; simp only [endM, hypF, ofE, argE, List.nil_append]
      have B2 := K5.blk (by simp) B2
      have K := K.new0 K5; have Z5 := K5.1
      refine q_cut [(0, _), (5, _), (6, _), (7, _), (29, _)] ⟨rfl, rfl, rfl, rfl, rfl, trivial⟩ ⟨_, rfl, K, ⟨fun hb => ⟨hf, fun i z hi hz2 => ?_⟩, fun hb => ?_⟩⟩
      · have : i = j := by omega
        subst this
        rw [hyj] at hz2; cases hz2
        simpa using hb
      · have := hb.2 j y rfl hyj
        simpa using this
    · -- a number that is too large
      have hf2 : decide ((72057594037927935 : Int) ≤ ((T / 256 : Nat) : Int)) = true := by rw [hse, decide_eq_false_iff_not] at hf; rw [decide_eq_true_eq]; omega
      refine tr_any (Keep []) (keep_pre _) (by kernel_rfl) (by kernel_rfl) ?_
      refine rm_v (keep_pre _) (fun h' hk => v_fieldAddr fa_spec_Entry_1 rfl) ?_
      refine rm_v (keep_pre _) (fun h' hk => v_load one_uint64 rfl (by exact (hk.blk (by simp) B2).cell _ rfl)) ?_
      refine rm_c (fun h' hk => w_call (vs := [_]) ok_spec_SpanSeq rfl ⟨rfl, trivial⟩ hcall) ?_
      refine rm_v (keep_pre _) (fun h' hk => v_ge rfl rfl) ?_
      refine rm_v (keep_pre _) (fun h' hk => v_move rfl) ?_
      refine rm_gs (keep_pre _) rfl (lkm hf2) rfl ?_
      refine rm_gs (keep_pre _) rfl (lkm hf2) rfl ?_
      refine rm_gs (keep_pre _) rfl (lkm hf2) rfl ?_
      refine rm_gu (keep_pre _) rfl rfl ?_
      refine rm_gu (keep_pre _) rfl rfl ?_
      refine rm_gu (keep_pre _) rfl rfl ?_
      refine rm_gu (keep_pre _) rfl rfl ?_
      refine rm_gu (keep_pre _) rfl rfl ?_
      refine rm_gu (keep_pre _) rfl rfl ?_
      refine rm_gu (keep_pre _) rfl rfl ?_
      refine rm_gu (keep_pre _) rfl rfl ?_
      refine rm_gs (keep_pre _) rfl (lkm hf2) rfl ?_
      refine rm_v (keep_pre _) (fun h' hk => v_pick_t (lkb hf2) rfl) ?_
      refine rm_end ?_; intro h6 K6; simp only [endM, hypF, ofE, argE, List.nil_append]
      have B2 := K6.blk (by simp) B2
      have K := K.new0 K6; have Z6 := K6.1
      refine q_cut [(0, _), (5, _), (6, _), (7, _), (29, _)] ⟨rfl, rfl, rfl, rfl, rfl, trivial⟩ ⟨true, rfl, K, ⟨fun e => (by cases e), fun e => (by rw [hf] at e; cases e.1)⟩⟩
  rintro E h4 ⟨bad, rfl, K, hbad⟩
  refine tr_if rfl (fun hif => ?_) (fun hif => ?_)
  · -- yes
    subst hif
    refine rG <| rA rfl rfl <| rN <| tr_ret <| q_blk_ret <| q_thn_ret ?_
    refine q_lp_ret ?_
    refine q_blk_ret <| q_thn_ret <| q_ret (res_tmp rfl rfl) ?_
    refine ⟨?_, K⟩
    have : ptsB L = false := by
      cases hw : ptsB L with
      | false => rfl
      | true =>
        simp only [ptsB, Bool.and_eq_true] at hw
        have h1 : seqB x = true := List.all_eq_true.1 hw.1 x (List.mem_of_getElem? hxk)
        have := hbad.2 ⟨h1, fun j y hj hy => (chainB_iff _ L).1 hw.2 j y x hy (by rw [← hj]; exact hxk)⟩
        cases this
    rw [this]
  -- no
  subst hif
  refine tr_skip <| q_blk_n <| q_thn <| tr_reg <| rs_v (v_add rfl rfl (by omega) (by omega)) rfl ?_
  refine rM rfl rfl <| rs_nil ?_
  have hb2 := hbad.1 rfl
  refine q_lp (L.length - (k + 1)) [(0, _), (5, _), (6, _), (7, _)] (by omega) ⟨rfl, rfl, rfl, rfl, trivial⟩ ⟨k + 1, by omega, rfl, rfl, K, ?_, ?_⟩
  · rw [take_all hxk, hall, hb2.1]; rfl
  · intro i x' y' hi hx' hy'
    rcases Nat.lt_or_ge (i + 1) k with hlt | hge
    · exact hch i x' y' hlt hx' hy'
    · have : i + 1 = k := by omega
      subst this
      rw [hxk] at hy'; cases hy'
      exact hb2.2 i x' rfl hx'
set_option maxHeartbeats 2000000
theorem eqEntB (a : EntD) (w : World) : (Op.equalIn 10000 53 (.agg #[.string a.user, .int .u64 a.tr, .string a.val]) (.agg #[.string a.user, .int .u64 a.tr, .string a.val])).run Tryz.prog w = .ok true w := by
  have hS : Tryz.prog.underlying 53 = some (.struct (Tryz.prog.fieldsOf 53)) := by kernel_rfl
  have hp : Tryz.prog.stoodInHeld 53 = false := by kernel_rfl
  rw [show (10000 : Nat) = 9999 + 1 from rfl, run_equalIn_struct w 9999 53 _ _ hS hp]
  have hf : (Tryz.prog.fieldsOf 53).toList = [(Tryz.prog.fieldsOf 53).toList.getD 0 default, (Tryz.prog.fieldsOf 53).toList.getD 1 default, (Tryz.prog.fieldsOf 53).toList.getD 2 default] := by kernel_rfl
  rw [hf]
  have e0 : (Op.eqFields 9999 #[.string a.user, .int .u64 a.tr, .string a.val] #[.string a.user, .int .u64 a.tr, .string a.val] []).run Tryz.prog w = .ok true w := by simp [Op.eqFields]
  have e2 := eqF_cons (P := Tryz.prog) (d := 9999) (f := (Tryz.prog.fieldsOf 53).toList.getD 2 default) (a := .string a.val) (c := .string a.val) (b := true) (xs := #[.string a.user, .int .u64 a.tr, .string a.val]) (ys := #[.string a.user, .int .u64 a.tr, .string a.val])
    (by decide +kernel) (by kernel_rfl) (by kernel_rfl) (by
      rw [show ((Tryz.prog.fieldsOf 53).toList.getD 2 default).type = 9 from by kernel_rfl, show (9999 : Nat) = 9998 + 1 from rfl, run_equalIn_string w _ _ _ _ u_string]; simp) e0
  have e1 := eqF_cons (P := Tryz.prog) (d := 9999) (f := (Tryz.prog.fieldsOf 53).toList.getD 1 default) (a := .int .u64 a.tr) (c := .int .u64 a.tr) (b := true) (xs := #[.string a.user, .int .u64 a.tr, .string a.val]) (ys := #[.string a.user, .int .u64 a.tr, .string a.val])
    (by decide +kernel) (by kernel_rfl) (by kernel_rfl) (by
      rw [show ((Tryz.prog.fieldsOf 53).toList.getD 1 default).type = 45 from by kernel_rfl, show (9999 : Nat) = 9998 + 1 from rfl, run_equalIn_int w _ _ _ _ _ _ u_uint64]; simp) e2
  have e9 := eqF_cons (P := Tryz.prog) (d := 9999) (f := (Tryz.prog.fieldsOf 53).toList.getD 0 default) (a := .string a.user) (c := .string a.user) (b := true) (xs := #[.string a.user, .int .u64 a.tr, .string a.val]) (ys := #[.string a.user, .int .u64 a.tr, .string a.val])
    (by decide +kernel) (by kernel_rfl) (by kernel_rfl) (by
      rw [show ((Tryz.prog.fieldsOf 53).toList.getD 0 default).type = 9 from by kernel_rfl, show (9999 : Nat) = 9998 + 1 from rfl, run_equalIn_string w _ _ _ _ u_string]; simp) e1
  rw [e9]; rfl
def PLike (x y : PAnsD) : Prop := x.done = y.done ∧ x.ok = y.ok ∧ (x.ok = true → x.marker = y.marker ∧ x.key = y.key ∧ x.has = y.has ∧ (x.has = true → Like [x.sp] [y.sp] ∧ few x.sp ∧ few y.sp))
theorem c_pointSame_no {χ : Chi} {h : Heap} {A A2 : Nat → Prop} (hA : Low A h) (hA2 : Low A2 h) {x y : PAnsD} {ka ka2 : Option Addr} {kn kc kn2 kc2 : Nat} (hk : RKeys A h (.slice ka kn kc) x.sp.ks) (hk2 : RKeys A2 h (.slice ka2 kn2 kc2) y.sp.ks) (hl : PLike x y) (hok : x.ok = false) :
    Cl Tryz.prog χ 25 #[.agg #[.bool x.done, .bool x.ok, .bool x.marker, .string x.key.user, .int .u64 x.key.tr, .string x.key.val, .bool x.has, .string x.sp.s, .string x.sp.e, .slice ka kn kc], .agg #[.bool y.done, .bool y.ok, .bool y.marker, .string y.key.user, .int .u64 y.key.tr, .string y.key.val, .bool y.has, .string y.sp.s, .string y.sp.e, .slice ka2 kn2 kc2]] h (fun r h' => r = .bool true ∧ Keep [] h h') := by
  obtain ⟨hdn, hoo, hlk⟩ := hl
  have d1 : (!(x.done == y.done)) = false := by rw [hdn]; simp
  have d2 : (!(x.ok == y.ok)) = false := by rw [hoo]; simp
  have d4 : (x.done == y.done) = true := by rw [hdn]; simp
  have d6 : (!x.ok) = true := by rw [hok]; rfl
  refine cl_intro Tryz.func25 rfl rfl rfl ?_
  have K : Keep [] h h := Keep.refl _ _
  refine rG <| rs_w (w_newbox rfl) rfl ?_
  rintro _ h1 ⟨rfl, B1, K1, Z1⟩
  have S1 := K.1; have K := K.new0 K1
  refine rs_w (w_newbox rfl) rfl ?_
  rintro _ h2 ⟨rfl, B2, K2, Z2⟩
  have B1 := K2.blk (by simp) B1
  have S2 := K.1; have K := K.new0 K2
  refine rA rfl rfl <| rN <| tr_seq <| rG <| rF fa_impl_PointAnswer_0 rfl rfl <| rs_v (v_load one_bool rfl (by exact B1.cell _ rfl)) rfl ?_
  refine rF fa_spec_PointAnswer_0 rfl rfl <| rs_v (v_load one_bool rfl (by exact B2.cell _ rfl)) rfl ?_
  refine rs_v (v_bne u_bool rfl rfl) rfl ?_
  refine rM rfl rfl <| rs_gv rfl (lkb d1) (v_fieldAddr fa_impl_PointAnswer_1 rfl) rfl ?_
  refine rs_gv rfl (lkb d1) (v_load one_bool rfl (by exact B1.cell _ rfl)) rfl ?_
  refine rs_gv rfl (lkb d1) (v_fieldAddr fa_spec_PointAnswer_1 rfl) rfl ?_
  refine rs_gv rfl (lkb d1) (v_load one_bool rfl (by exact B2.cell _ rfl)) rfl ?_
  refine rs_gv rfl (lkb d1) (v_bne u_bool rfl rfl) rfl ?_
  refine rs_v (v_pick_f (lkb d1) rfl) rfl ?_
  refine rM rfl rfl <| rs_gv rfl (lkb d2) (v_fieldAddr fa_impl_PointAnswer_1 rfl) rfl ?_
  refine rs_gv rfl (lkb d2) (v_load one_bool rfl (by exact B1.cell _ rfl)) rfl ?_
  refine rs_gv rfl (lkb d2) (v_not rfl) rfl ?_
  refine rs_v (v_pick_f (lkb d2) rfl) rfl ?_
  refine rN <| tr_if_t (lkb d6) ?_
  refine rG <| rF fa_impl_PointAnswer_0 rfl rfl <| rs_v (v_load one_bool rfl (by exact B1.cell _ rfl)) rfl ?_
  refine rF fa_spec_PointAnswer_0 rfl rfl <| rs_v (v_load one_bool rfl (by exact B2.cell _ rfl)) rfl ?_
  refine rs_v (v_beq u_bool rfl rfl) rfl ?_
  refine rM rfl rfl <| rs_gv rfl (lkb d4) (v_fieldAddr fa_impl_PointAnswer_1 rfl) rfl ?_
  refine rs_gv rfl (lkb d4) (v_load one_bool rfl (by exact B1.cell _ rfl)) rfl ?_
  refine rs_gv rfl (lkb d4) (v_fieldAddr fa_spec_PointAnswer_1 rfl) rfl ?_
  refine rs_gv rfl (lkb d4) (v_load one_bool rfl (by exact B2.cell _ rfl)) rfl ?_
  refine rs_gv rfl (lkb d4) (v_beq u_bool rfl rfl) rfl ?_
  refine rs_v (v_pick_t (lkb d4) rfl) rfl ?_
  refine rA rfl rfl <| rN <| tr_ret <| q_thn_ret <| q_ret (res_tmp rfl rfl) ?_
  exact ⟨by rw [hoo]; simp, K⟩
theorem c_pointSame_ok {χ : Chi} {h : Heap} {A A2 : Nat → Prop} (hA : Low A h) (hA2 : Low A2 h) {x y : PAnsD} {ka ka2 : Option Addr} {kn kc kn2 kc2 : Nat} (hk : RKeys A h (.slice ka kn kc) x.sp.ks) (hk2 : RKeys A2 h (.slice ka2 kn2 kc2) y.sp.ks) (hl : PLike x y) (hok : x.ok = true) (hhas : x.has = false) :
    Cl Tryz.prog χ 25 #[.agg #[.bool x.done, .bool x.ok, .bool x.marker, .string x.key.user, .int .u64 x.key.tr, .string x.key.val, .bool x.has, .string x.sp.s, .string x.sp.e, .slice ka kn kc], .agg #[.bool y.done, .bool y.ok, .bool y.marker, .string y.key.user, .int .u64 y.key.tr, .string y.key.val, .bool y.has, .string y.sp.s, .string y.sp.e, .slice ka2 kn2 kc2]] h (fun r h' => r = .bool true ∧ Keep [] h h') := by
  obtain ⟨hdn, hoo, hlk⟩ := hl
  have d1 : (!(x.done == y.done)) = false := by rw [hdn]; simp
  have d2 : (!(x.ok == y.ok)) = false := by rw [hoo]; simp
  obtain ⟨hmk, hky, hhs, hsp⟩ := hlk hok
  obtain ⟨xd, xo, xm, xk, xh, xs⟩ := x
  obtain ⟨yd, yo, ym, yk, yh, ys⟩ := y
  simp only at hdn hoo hmk hky hhs hok hhas hsp d1 d2 hk hk2
  subst hky
  have d3 : (!(xm == ym)) = false := by rw [hmk]; simp
  have d5 : (!(xh == yh)) = false := by rw [hhs]; simp
  have d6 : (!xo) = false := by rw [hok]; rfl
  have d7 : (!xh) = true := by rw [hhas]; rfl
  refine cl_intro Tryz.func25 rfl rfl rfl ?_
  have K : Keep [] h h := Keep.refl _ _
  refine rG <| rs_w (w_newbox rfl) rfl ?_
  rintro _ h1 ⟨rfl, B1, K1, Z1⟩
  have S1 := K.1; have K := K.new0 K1
  refine rs_w (w_newbox rfl) rfl ?_
  rintro _ h2 ⟨rfl, B2, K2, Z2⟩
  have B1 := K2.blk (by simp) B1
  have S2 := K.1; have K := K.new0 K2
  refine rA rfl rfl <| rN <| tr_seq <| rG <| rF fa_impl_PointAnswer_0 rfl rfl <| rs_v (v_load one_bool rfl (by exact B1.cell _ rfl)) rfl ?_
  refine rF fa_spec_PointAnswer_0 rfl rfl <| rs_v (v_load one_bool rfl (by exact B2.cell _ rfl)) rfl ?_
  refine rs_v (v_bne u_bool rfl rfl) rfl ?_
  refine rM rfl rfl <| rs_gv rfl (lkb d1) (v_fieldAddr fa_impl_PointAnswer_1 rfl) rfl ?_
  refine rs_gv rfl (lkb d1) (v_load one_bool rfl (by exact B1.cell _ rfl)) rfl ?_
  refine rs_gv rfl (lkb d1) (v_fieldAddr fa_spec_PointAnswer_1 rfl) rfl ?_
  refine rs_gv rfl (lkb d1) (v_load one_bool rfl (by exact B2.cell _ rfl)) rfl ?_
  refine rs_gv rfl (lkb d1) (v_bne u_bool rfl rfl) rfl ?_
  refine rs_v (v_pick_f (lkb d1) rfl) rfl ?_
  refine rM rfl rfl <| rs_gv rfl (lkb d2) (v_fieldAddr fa_impl_PointAnswer_1 rfl) rfl ?_
  refine rs_gv rfl (lkb d2) (v_load one_bool rfl (by exact B1.cell _ rfl)) rfl ?_
  refine rs_gv rfl (lkb d2) (v_not rfl) rfl ?_
  refine rs_v (v_pick_f (lkb d2) rfl) rfl ?_
  refine rN <| tr_if_f (lkb d6) ?_
  refine tr_skip <| q_thn <| tr_seq <| rG <| rF fa_impl_PointAnswer_2 rfl rfl <| rs_v (v_load one_bool rfl (by exact B1.cell _ rfl)) rfl ?_
  refine rF fa_spec_PointAnswer_2 rfl rfl <| rs_v (v_load one_bool rfl (by exact B2.cell _ rfl)) rfl ?_
  refine rs_v (v_bne u_bool rfl rfl) rfl ?_
  refine rM rfl rfl <| rs_gv rfl (lkb d3) (v_fieldAddr fa_impl_PointAnswer_3 rfl) rfl ?_
  refine rs_gv rfl (lkb d3) (v_loadAgg (vs := [_, _, _]) many_impl_Entry rfl (by exact B1.sub _ 3 rfl)) rfl ?_
  refine rs_gv rfl (lkb d3) (v_fieldAddr fa_spec_PointAnswer_3 rfl) rfl ?_
  refine rs_gv rfl (lkb d3) (v_loadAgg (vs := [_, _, _]) many_spec_Entry rfl (by exact B2.sub _ 3 rfl)) rfl ?_
  refine rs_gv rfl (lkb d3) (v_aggne (by kernel_rfl) rfl rfl (eqEntB xk)) rfl ?_
  refine rs_v (v_pick_f (lkb d3) rfl) rfl ?_
  refine rM rfl rfl <| rs_gv rfl (rfl) (v_fieldAddr fa_impl_PointAnswer_4 rfl) rfl ?_
  refine rs_gv rfl (rfl) (v_load one_bool rfl (by exact B1.cell _ rfl)) rfl ?_
  refine rs_gv rfl (rfl) (v_fieldAddr fa_spec_PointAnswer_4 rfl) rfl ?_
  refine rs_gv rfl (rfl) (v_load one_bool rfl (by exact B2.cell _ rfl)) rfl ?_
  refine rs_gv rfl (rfl) (v_bne u_bool rfl rfl) rfl ?_
  refine rs_v (v_pick_f rfl rfl) rfl ?_
  refine rN <| tr_if_f (lkb d5) ?_
  refine tr_skip <| q_thn <| rG <| rF fa_impl_PointAnswer_4 rfl rfl <| rs_v (v_load one_bool rfl (by exact B1.cell _ rfl)) rfl ?_
  refine rs_v (v_not rfl) rfl <| rM rfl rfl ?_
  refine rs_gs rfl (lkb d7) rfl rfl ?_
  refine rs_gs rfl (lkb d7) rfl rfl ?_
  refine rs_gs rfl (lkb d7) rfl rfl ?_
  refine rs_gs rfl (lkb d7) rfl rfl ?_
  refine rs_gs rfl (lkb d7) rfl rfl ?_
  refine rs_gs rfl (lkb d7) rfl rfl ?_
  refine rs_gs rfl (lkb d7) rfl rfl ?_
  refine rs_v (v_pick_t (lkb d7) rfl) rfl ?_
  refine rA rfl rfl <| rN <| tr_ret <| q_ret (res_tmp rfl rfl) ?_
  exact ⟨rfl, K⟩
theorem c_pointSame_has {χ : Chi} {h : Heap} {A A2 : Nat → Prop} (hA : Low A h) (hA2 : Low A2 h) {x y : PAnsD} {ka ka2 : Option Addr} {kn kc kn2 kc2 : Nat} (hk : RKeys A h (.slice ka kn kc) x.sp.ks) (hk2 : RKeys A2 h (.slice ka2 kn2 kc2) y.sp.ks) (hl : PLike x y) (hok : x.ok = true) (hhas : x.has = true) :
    Cl Tryz.prog χ 25 #[.agg #[.bool x.done, .bool x.ok, .bool x.marker, .string x.key.user, .int .u64 x.key.tr, .string x.key.val, .bool x.has, .string x.sp.s, .string x.sp.e, .slice ka kn kc], .agg #[.bool y.done, .bool y.ok, .bool y.marker, .string y.key.user, .int .u64 y.key.tr, .string y.key.val, .bool y.has, .string y.sp.s, .string y.sp.e, .slice ka2 kn2 kc2]] h (fun r h' => r = .bool true ∧ Keep [] h h') := by
  obtain ⟨hdn, hoo, hlk⟩ := hl
  have d1 : (!(x.done == y.done)) = false := by rw [hdn]; simp
  have d2 : (!(x.ok == y.ok)) = false := by rw [hoo]; simp
  obtain ⟨hmk, hky, hhs, hsp⟩ := hlk hok
  obtain ⟨xd, xo, xm, xk, xh, xs⟩ := x
  obtain ⟨yd, yo, ym, yk, yh, ys⟩ := y
  simp only at hdn hoo hmk hky hhs hok hhas hsp d1 d2 hk hk2
  subst hky
  have d3 : (!(xm == ym)) = false := by rw [hmk]; simp
  have d5 : (!(xh == yh)) = false := by rw [hhs]; simp
  have d6 : (!xo) = false := by rw [hok]; rfl
  have d7 : (!xh) = false := by rw [hhas]; rfl
  refine cl_intro Tryz.func25 rfl rfl rfl ?_
  have K : Keep [] h h := Keep.refl _ _
  refine rG <| rs_w (w_newbox rfl) rfl ?_
  rintro _ h1 ⟨rfl, B1, K1, Z1⟩
  have S1 := K.1; have K := K.new0 K1
  refine rs_w (w_newbox rfl) rfl ?_
  rintro _ h2 ⟨rfl, B2, K2, Z2⟩
  have B1 := K2.blk (by simp) B1
  have S2 := K.1; have K := K.new0 K2
  refine rA rfl rfl <| rN <| tr_seq <| rG <| rF fa_impl_PointAnswer_0 rfl rfl <| rs_v (v_load one_bool rfl (by exact B1.cell _ rfl)) rfl ?_
  refine rF fa_spec_PointAnswer_0 rfl rfl <| rs_v (v_load one_bool rfl (by exact B2.cell _ rfl)) rfl ?_
  refine rs_v (v_bne u_bool rfl rfl) rfl ?_
  refine rM rfl rfl <| rs_gv rfl (lkb d1) (v_fieldAddr fa_impl_PointAnswer_1 rfl) rfl ?_
  refine rs_gv rfl (lkb d1) (v_load one_bool rfl (by exact B1.cell _ rfl)) rfl ?_
  refine rs_gv rfl (lkb d1) (v_fieldAddr fa_spec_PointAnswer_1 rfl) rfl ?_
  refine rs_gv rfl (lkb d1) (v_load one_bool rfl (by exact B2.cell _ rfl)) rfl ?_
  refine rs_gv rfl (lkb d1) (v_bne u_bool rfl rfl) rfl ?_
  refine rs_v (v_pick_f (lkb d1) rfl) rfl ?_
  refine rM rfl rfl <| rs_gv rfl (lkb d2) (v_fieldAddr fa_impl_PointAnswer_1 rfl) rfl ?_
  refine rs_gv rfl (lkb d2) (v_load one_bool rfl (by exact B1.cell _ rfl)) rfl ?_
  refine rs_gv rfl (lkb d2) (v_not rfl) rfl ?_
  refine rs_v (v_pick_f (lkb d2) rfl) rfl ?_
  refine rN <| tr_if_f (lkb d6) ?_
  refine tr_skip <| q_thn <| tr_seq <| rG <| rF fa_impl_PointAnswer_2 rfl rfl <| rs_v (v_load one_bool rfl (by exact B1.cell _ rfl)) rfl ?_
  refine rF fa_spec_PointAnswer_2 rfl rfl <| rs_v (v_load one_bool rfl (by exact B2.cell _ rfl)) rfl ?_
  refine rs_v (v_bne u_bool rfl rfl) rfl ?_
  refine rM rfl rfl <| rs_gv rfl (lkb d3) (v_fieldAddr fa_impl_PointAnswer_3 rfl) rfl ?_
  refine rs_gv rfl (lkb d3) (v_loadAgg (vs := [_, _, _]) many_impl_Entry rfl (by exact B1.sub _ 3 rfl)) rfl ?_
  refine rs_gv rfl (lkb d3) (v_fieldAddr fa_spec_PointAnswer_3 rfl) rfl ?_
  refine rs_gv rfl (lkb d3) (v_loadAgg (vs := [_, _, _]) many_spec_Entry rfl (by exact B2.sub _ 3 rfl)) rfl ?_
  refine rs_gv rfl (lkb d3) (v_aggne (by kernel_rfl) rfl rfl (eqEntB xk)) rfl ?_
  refine rs_v (v_pick_f (lkb d3) rfl) rfl ?_
  refine rM rfl rfl <| rs_gv rfl (rfl) (v_fieldAddr fa_impl_PointAnswer_4 rfl) rfl ?_
  refine rs_gv rfl (rfl) (v_load one_bool rfl (by exact B1.cell _ rfl)) rfl ?_
  refine rs_gv rfl (rfl) (v_fieldAddr fa_spec_PointAnswer_4 rfl) rfl ?_
  refine rs_gv rfl (rfl) (v_load one_bool rfl (by exact B2.cell _ rfl)) rfl ?_
  refine rs_gv rfl (rfl) (v_bne u_bool rfl rfl) rfl ?_
  refine rs_v (v_pick_f rfl rfl) rfl ?_
  refine rN <| tr_if_f (lkb d5) ?_
  refine tr_skip <| q_thn <| rG <| rF fa_impl_PointAnswer_4 rfl rfl <| rs_v (v_load one_bool rfl (by exact B1.cell _ rfl)) rfl ?_
  refine rs_v (v_not rfl) rfl <| rM rfl rfl <| rs_gv rfl (lkb d7) (v_fieldAddr fa_impl_PointAnswer_5 rfl) rfl ?_
  refine rs_gv rfl (lkb d7) (v_loadAgg (vs := [_, _, _]) many_impl_Span rfl (by exact B1.sub _ 3 rfl)) rfl ?_
  refine rs_gw rfl (lkb d7) (w_new1 u_sl_impl_Span siz_impl_Span zero_impl_Span rfl rfl rfl rfl rfl) rfl ?_
  rintro _ h3 ⟨rfl, B3, K3, Z3⟩
  have B1 := K3.blk (by simp) B1
  have B2 := K3.blk (by simp) B2
  have S3 := K.1; have K := K.new0 K3
  refine rs_gv rfl (lkb d7) (v_fieldAddr fa_spec_PointAnswer_5 rfl) rfl ?_
  refine rs_gv rfl (lkb d7) (v_loadAgg (vs := [_, _, _]) many_spec_Span rfl (by exact B2.sub _ 3 rfl)) rfl ?_
  refine rs_gw rfl (lkb d7) (w_new1 u_sl_spec_Span siz_spec_Span zero_spec_Span rfl rfl rfl rfl rfl) rfl ?_
  rintro _ h4 ⟨rfl, B4, K4, Z4⟩
  have B1 := K4.blk (by simp) B1
  have B2 := K4.blk (by simp) B2
  have B3 := K4.blk (by simp) B3
  have S4 := K.1; have K := K.new0 K4
  refine rs_gw rfl (lkb d7) (w_call (vs := [_, _]) ok_laws_spanLike rfl ⟨rfl, rfl, trivial⟩ (c_spanLike χ _ (Up A h h4) (Up A2 h h4) (hA.up (by omega)) (hA2.up (by omega)) _ _ [xs] [ys] (rspans1 B3 (hk.stab (K.st hA) |>.mono Up.old) (.inr ⟨by omega, by omega⟩)) (rspans1 B4 (hk2.stab (K.st hA2) |>.mono Up.old) (.inr ⟨by omega, by omega⟩)) (by simp) (by simp)
        (by simpa using (hsp hhas).2.1) (by simpa using (hsp hhas).2.2) (hsp hhas).1)) rfl ?_
  rintro _ h5 ⟨rfl, K5⟩
  have B1 := K5.blk (by simp) B1
  have B2 := K5.blk (by simp) B2
  have B3 := K5.blk (by simp) B3
  have B4 := K5.blk (by simp) B4
  have K := K.new0 K5; have Z5 := K5.1
  refine rs_v (v_pick_f (lkb d7) rfl) rfl ?_
  refine rA rfl rfl <| rN <| tr_ret <| q_ret (res_tmp rfl rfl) ?_
  exact ⟨rfl, K⟩
theorem c_pointSame {χ : Chi} {h : Heap} {A A2 : Nat → Prop} (hA : Low A h) (hA2 : Low A2 h) {x y : PAnsD} {ka ka2 : Option Addr} {kn kc kn2 kc2 : Nat} (hk : RKeys A h (.slice ka kn kc) x.sp.ks) (hk2 : RKeys A2 h (.slice ka2 kn2 kc2) y.sp.ks) (hl : PLike x y) :
    Cl Tryz.prog χ 25 #[.agg #[.bool x.done, .bool x.ok, .bool x.marker, .string x.key.user, .int .u64 x.key.tr, .string x.key.val, .bool x.has, .string x.sp.s, .string x.sp.e, .slice ka kn kc], .agg #[.bool y.done, .bool y.ok, .bool y.marker, .string y.key.user, .int .u64 y.key.tr, .string y.key.val, .bool y.has, .string y.sp.s, .string y.sp.e, .slice ka2 kn2 kc2]] h (fun r h' => r = .bool true ∧ Keep [] h h') := by
  cases ho : x.ok
  · have := c_pointSame_no (χ := χ) hA hA2 hk hk2 hl ho
    rw [ho] at this; exact this
  · cases hh : x.has
    · have := c_pointSame_ok (χ := χ) hA hA2 hk hk2 hl ho hh
      rw [ho, hh] at this; exact this
    · have := c_pointSame_has (χ := χ) hA hA2 hk hk2 hl ho hh
      rw [ho, hh] at this; exact this
set_option maxHeartbeats 2000000
theorem REnts.kk {h h' : Heap} {v : Value} {es : List EntD} (hr : REnts (All h) h v es) (K : Keep [] h h') : REnts (All h') h' v es := (REnts.stab hr (all_st K)).mono (all_up K)
theorem RPAnss.stab {A : Nat → Prop} {h h' : Heap} {v : Value} {l : List PAnsD} (H : RPAnss A h v l) (k : Stab A h h') : RPAnss A h' v l := SlR.stab H fun _ _ _ hb ⟨kv, hc, hk⟩ => ⟨kv, k.cells hb hc, hk.stab k⟩
theorem RPAnss.kk {h h' : Heap} {v : Value} {l : List PAnsD} (hr : RPAnss (All h) h v l) (K : Keep [] h h') : RPAnss (All h') h' v l := (RPAnss.stab hr (all_st K)).mono (all_up K)
def PAllLike (G D : List PAnsD) : Prop := G.length = D.length ∧ ∀ (i : Nat) a b, G[i]? = some a → D[i]? = some b → PLike a b
theorem PAllLike.refl {G : List PAnsD} (h : ∀ a, a ∈ G → a.ok = true → a.has = true → descB a.sp.ks = true ∧ few a.sp) : PAllLike G G :=
  ⟨rfl, fun i a b ha hb => by
    rw [ha] at hb; cases hb
    exact ⟨rfl, rfl, fun ho => ⟨rfl, rfl, rfl, fun hh => by
      have hm := h a (List.mem_of_getElem? ha) ho hh
      exact ⟨Like.refl (by simpa using hm.1), hm.2, hm.2⟩⟩⟩⟩
theorem cov_mem {V : List SpanD} {u : ByteArray} {s : SpanD} (h : covS V u = some s) : s ∈ V := by
  have key : ∀ (l : List SpanD) (a : Option SpanD), (l.foldl (fun a s => if inS u s then some s else a) a = some s) → s ∈ l ∨ a = some s := by
    intro l
    induction l with
    | nil => intro a h; exact .inr h
    | cons x l ih =>
      intro a h
      rw [List.foldl_cons] at h
      rcases ih _ h with h1 | h1
      · exact .inl (by simp [h1])
      · split at h1
        · cases h1; exact .inl (by simp)
        · exact .inr h1
  rcases key V none h with h1 | h1
  · exact h1
  · cases h1
theorem ansM_mem {es : List EntD} {V : List SpanD} {q : Option PP} (hh : (ansM es V q).has = true) : (ansM es V q).sp ∈ V := by
  have key : ∀ e mk, (ptAns V e mk).has = true → (ptAns V e mk).sp ∈ V := fun e mk h => by
    unfold ptAns at h ⊢
    simp only at h ⊢
    cases hc : covS V e.user with
    | none => rw [hc] at h; simp at h
    | some s => exact cov_mem hc
  cases q with
  | none => simp [ansM] at hh
  | some p => cases p with
    | pt k => exact key _ _ hh
    | ins k ky => exact key _ _ hh
    | _ => simp [ansM] at hh
theorem walkM_mem {es : List EntD} {V : List SpanD} : ∀ (l : List StepD) (p : PP) a, a ∈ walkM es V p l → a.has = true → a.sp ∈ V
  | [], p, a, h, _ => by simp [walkM] at h
  | s :: l, p, a, h, ho => by
    simp only [walkM, List.mem_cons] at h
    rcases h with rfl | h
    · exact ansM_mem ho
    · exact walkM_mem l _ a h ho
theorem palike_walk {es : List EntD} {V : List SpanD} (h : ∀ s, s ∈ V → descB s.ks = true ∧ few s) (p : PP) (l : List StepD) : PAllLike (walkM es V p l) (walkM es V p l) :=
  PAllLike.refl fun a ha _ hh => h _ (walkM_mem l p a ha hh)
def someE : EntD := ⟨⟨#[97]⟩, 257, .empty⟩
theorem some_pwalk : walkK [someE] someW (fun _ => false) .nowhere (fwdS 1) = [ptAns someW ⟨⟨#[97]⟩, 0, .empty⟩ true, ptAns someW someE false] := by
  rw [walkK_no]
  have hs0 : stAt ([someE].map EntD.user) someW 0 = true := by
    unfold stAt isSt
    simp [mst, someW, someE, atS, atB, sle_refl]
  have hm1 : mst ([someE].map EntD.user) someW 1 = (0, 1) := mst_st hs0
  have hs1 : stAt ([someE].map EntD.user) someW 1 = false := by
    unfold stAt isSt; rw [hm1]; rfl
  have e0 : markE [someE] someW 0 = ⟨⟨#[97]⟩, 0, .empty⟩ := by unfold markE; rw [hs0]; rfl
  have e1 : markE [someE] someW 1 = someE := by unfold markE; rw [hs1, hm1]; rfl
  have w : walkM [someE] someW .nowhere (fwdS 1) = [ansM [someE] someW (some (.pt 0)), ansM [someE] someW (some (.pt 1))] := rfl
  rw [w]
  simp only [ansM, e0, e1, hs0, hs1]
theorem some_seq : SeqLow [someE] := fun e he => by simp at he; subst he; exact ⟨257, rfl, by decide, by decide⟩
theorem some_rise : Rise ([someE].map EntD.user) := by simp [Rise]
theorem some_esmall : ∀ e, e ∈ [someE] → e.small := fun e he => by simp at he; subst he; exact ⟨by decide, by decide⟩
theorem some_wokW : WOK someW := some_wok someW (by simp)
theorem fwdS_mx (n : Nat) : ∀ s, s ∈ fwdS n → s.key.size ≤ 2147483647 := by
  intro s hs
  simp only [fwdS, List.mem_cons, List.mem_replicate] at hs
  rcases hs with rfl | ⟨_, rfl⟩ <;> decide
theorem some_has : (ptAns someW someE false).has = true := by
  unfold ptAns covS
  simp [someW, someE, inS, sle_refl, ab_lt]
theorem c_toEntries {χ : Chi} {h : Heap} {A : Nat → Prop} {v : Value} {es : List EntD} (hE : REnts A h v es) (hn : es.length ≤ 100000) :
    Cl Tryz.prog χ 16 #[v] h (fun r h' => REnts (Up N0 h h') h' r es ∧ Keep [] h h') := by
  obtain ⟨hlen, a, c, rfl, hx⟩ := SlR.form hE
  refine cl_intro Tryz.func16 rfl rfl rfl ?_
  have K : Keep [] h h := Keep.refl _ _
  refine rG <| rA rfl rfl <| rN <| rG <| rA rfl rfl <| rN <| tr_seq <| rG <| rM rfl rfl <| rs_v (v_len u_sl_spec_Entry rfl) rfl ?_
  refine rM rfl rfl <| rN <| tr_block ?_
  refine tr_loop (fun m E h' => ∃ k v xs, k ≤ es.length ∧ m = es.length - k ∧ E = [(3, v), (6, .slice a es.length c), (7, .int .i64 (es.length : Int)), (8, .int .i64 (k : Int))] ∧ Keep [] h h' ∧ Own h' h.size 47 3 v k xs ∧ RowsR 3 (fun c (e : EntD) => c = e.cells) xs (es.take k)) es.length [(3, _), (6, _), (7, _), (8, _)] ⟨rfl, rfl, rfl, rfl, trivial⟩ ⟨0, _, [], Nat.zero_le _, rfl, rfl, K, Own.nil _ _ _ _, RowsR.nil _ _⟩ ?_
  rintro m E hL1 ⟨k, v, xs, hk, rfl, rfl, K, O, hrow⟩
  have hob := own_ne O; have KL := Keep.refl [] hL1
  refine rG <| rs_v (v_lt rfl rfl) rfl <| rN <| tr_seq ?_
  refine tr_ifn rfl (fun hif => ?_) (fun hif => ?_)
  · -- no
    simp only [dT, dF] at hif
    have hkk : k = es.length := by omega
    subst hkk
    refine tr_exit <| q_thn_exit <| q_lp_exit <| q_blk_hit <| q_thn <| rG <| rM rfl rfl <| rA rfl rfl <| rN <| tr_ret <| q_ret (res_tmp rfl rfl) ?_
    rw [List.take_length] at hrow
    exact ⟨SlR.of_rows O rfl hrow (fun b h1 h2 => .inr ⟨h1, h2⟩) (fun b o c a hc he => by cases he; exact hc), K⟩
  -- yes
  simp only [dT, dF] at hif
  rcases hx with rfl | ⟨b, o, rfl, hAb, hR⟩
  · simp at hif; omega
  obtain ⟨e, hsk⟩ := ex_get (L := es) (k := k) (by omega)
  have hcells : CellsAt _ b (o + k * 3) e.cells := K.cells (by simp) (hR k e hsk)
  refine tr_skip <| q_thn <| tr_seq <| tr_block <| rG <| rs_v (v_indexAddrN u_sl_spec_Entry siz_spec_Entry rfl rfl (by omega)) rfl ?_
  refine rs_v (v_loadAgg (vs := [_, _, _]) many_spec_Entry rfl (by exact hcells)) rfl ?_
  refine rs_w (w_new zero_spec_Entry) rfl ?_
  rintro _ h2 ⟨rfl, B2, K2, Z2⟩
  have O := O.keep2 K2 (fun x hm => by have := hob x hm; simp; try omega)
  have S2 := K.1; have K := K.new0 K2
  refine rs_w0 (w_put siz_spec_Entry rfl rfl rfl rfl B2 rfl) ?_
  rintro _ h3 ⟨B3, K3⟩
  have O := O.keep2 K3 (fun x hm => by have := hob x hm; simp; try omega)
  have B2 := B3; have K := K.new1 K3 (by first | (right; omega) | (left; simp; done)); have Z3 := K3.1
  refine rN <| tr_reg <| rM rfl rfl <| rs_v (v_loadAgg (vs := [_, _, _]) many_spec_Entry rfl (by exact B2.sub _ 3 rfl)) rfl ?_
  refine rs_w (w_new1 u_sl_impl_Entry siz_impl_Entry zero_impl_Entry rfl rfl rfl rfl rfl) rfl ?_
  rintro _ h4 ⟨rfl, B4, K4, Z4⟩
  have B2 := K4.blk (by simp) B2
  have O := O.keep2 K4 (fun x hm => by have := hob x hm; simp; try omega)
  have S4 := K.1; have K := K.new0 K4
  refine rs_w (w_app1 u_sl_impl_Entry info_impl_Entry rfl rfl rfl O rfl rfl B4 rfl (by omega) (by omega) (by omega)) rfl ?_
  rintro v5 h5 ⟨O5, K5, N5, F5⟩
  have K := K.newX K5 (fun x hm => .inr (by have := hob x hm; omega)); have Z5 := K5.1
  have B2 := K5.blk (fun hm => by first | (have := hob _ hm; omega) | exact absurd rfl (hnb _ hm)) B2
  have B4 := K5.blk (fun hm => by first | (have := hob _ hm; omega) | exact absurd rfl (hnb _ hm)) B4
  refine rA rfl rfl <| rs_nil <| q_blk_n <| q_thn <| tr_reg <| rs_v (v_add rfl rfl (by omega) (by omega)) rfl ?_
  refine rM rfl rfl <| rs_nil ?_
  refine q_lp (es.length - (k + 1)) [(3, _), (6, _), (7, _), (8, _)] (by omega) ⟨rfl, rfl, rfl, rfl, trivial⟩ ⟨k + 1, _, _, by omega, rfl, rfl, K, O5, by rw [take_snoc' hsk]; exact hrow.snoc rfl rfl⟩
theorem c_pointAnswers {χ : Chi} {h : Heap} {A A2 : Nat → Prop} (hA : Low A h) (hA2 : Low A2 h) {v u : Value} {G D : List PAnsD} (hG : RPAnss A h v G) (hD : RPAnss A2 h u D) (hal : PAllLike G D) :
    Cl Tryz.prog χ 19 #[v, u] h (fun r h' => r = .bool true ∧ Keep [] h h') := by
  obtain ⟨hlen, a, c, rfl, hx⟩ := SlR.form hG
  obtain ⟨_, a2, c2, rfl, hx2⟩ := SlR.form hD
  obtain ⟨hGD, hall⟩ := hal
  rw [← hGD]
  refine cl_intro Tryz.func19 rfl rfl rfl ?_
  have K : Keep [] h h := Keep.refl _ _
  refine rG <| rA rfl rfl <| rN <| tr_seq <| rG <| rM rfl rfl <| rs_v (v_len u_sl_impl_PointAnswer rfl) rfl ?_
  refine rM rfl rfl <| rs_v (v_len u_sl_spec_PointAnswer rfl) rfl ?_
  refine rs_v (v_ne rfl rfl) rfl ?_
  refine rN <| tr_if_f (lkb (decide_eq_false (by simp))) ?_
  refine tr_skip <| q_thn <| tr_seq <| rG <| rM rfl rfl <| rs_v (v_len u_sl_impl_PointAnswer rfl) rfl ?_
  refine rM rfl rfl <| rN <| tr_block ?_
  refine tr_loop (fun m E h' => ∃ k, k ≤ G.length ∧ m = G.length - k ∧ E = [(1, .slice a2 G.length c2), (12, .slice a G.length c), (13, .int .i64 (G.length : Int)), (14, .int .i64 (k : Int))] ∧ Keep [] h h') G.length [(1, _), (12, _), (13, _), (14, _)] ⟨rfl, rfl, rfl, rfl, trivial⟩ ⟨0, Nat.zero_le _, rfl, rfl, K⟩ ?_
  rintro m E hL1 ⟨k, hk, rfl, rfl, K⟩
  refine rG <| rs_v (v_lt rfl rfl) rfl <| rN <| tr_seq ?_
  refine tr_ifn rfl (fun hif => ?_) (fun hif => ?_)
  · -- no
    simp only [dT, dF] at hif
    refine tr_exit <| q_thn_exit <| q_lp_exit <| q_blk_hit <| q_thn <| rG <| rA rfl rfl <| rN <| tr_ret <| q_ret (res_tmp rfl rfl) ?_
    exact ⟨rfl, K⟩
  -- yes
  simp only [dT, dF] at hif
  rcases hx with rfl | ⟨b, o, rfl, hAb, hR⟩
  · simp at hif; omega
  rcases hx2 with rfl | ⟨b2, o2, rfl, hAb2, hR2⟩
  · have : G.length = 0 := hGD
    omega
  obtain ⟨x, hsk⟩ := ex_get (L := G) (k := k) (by omega)
  obtain ⟨y, hyk⟩ := ex_get (L := D) (k := k) (by omega)
  obtain ⟨kv, hc1, hkx⟩ := hR k x hsk
  obtain ⟨kv2, hc2, hky⟩ := hR2 k y hyk
  obtain ⟨ka, kc, rfl⟩ := hkx.form2
  obtain ⟨ka2, kc2, rfl⟩ := hky.form2
  have hlk := hall k x y hsk hyk
  have hc1 := K.cells (by simp) hc1
  refine tr_skip <| q_thn <| tr_seq <| tr_block <| rG <| rM rfl rfl <| rs_v (v_indexAddrN u_sl_impl_PointAnswer siz_impl_PointAnswer rfl rfl (by omega)) rfl ?_
  refine rs_v (v_loadAgg (vs := [_, _, _, _, _, _, _, _, _, _]) many_impl_PointAnswer rfl (by exact hc1)) rfl ?_
  refine rs_w (w_new zero_impl_PointAnswer) rfl ?_
  rintro _ h2 ⟨rfl, B2, K2, Z2⟩
  have S2 := K.1; have K := K.new0 K2
  refine rA rfl rfl <| rs_w0 (w_put siz_impl_PointAnswer rfl rfl rfl rfl B2 rfl) ?_
  rintro _ h3 ⟨B3, K3⟩
  have B2 := B3; have K := K.new1 K3 (by first | (right; omega) | (left; simp; done)); have Z3 := K3.1
  refine rN <| tr_seq ?_
  refine tr_any (Keep []) (keep_pre _) (by kernel_rfl) (by kernel_rfl) ?_
  refine rm_v (keep_pre _) (fun h' hk => v_loadAgg (vs := [_, _, _, _, _, _, _, _, _, _]) many_impl_PointAnswer rfl (by exact (hk.blk (by simp) B2).sub _ 10 rfl)) ?_
  refine rm_v (keep_pre _) (fun h' hk => v_move rfl) ?_
  refine rm_v (keep_pre _) (fun h' hk => v_move rfl) ?_
  refine rm_v (keep_pre _) (fun h' hk => v_indexAddrN u_sl_spec_PointAnswer siz_spec_PointAnswer rfl rfl (by omega)) ?_
  refine rm_v (keep_pre _) (fun h' hk => v_loadAgg (vs := [_, _, _, _, _, _, _, _, _, _]) many_spec_PointAnswer rfl (by exact (K.new0 hk).cells (by simp) hc2)) ?_
  refine rm_c (fun h' hk => w_call (vs := [_, _]) ok_laws_pointSame rfl ⟨rfl, rfl, trivial⟩ (c_pointSame (hA.mono (by have := (K.new0 hk).1; omega)) (hA2.mono (by have := (K.new0 hk).1; omega)) (hkx.stab ((K.new0 hk).st hA)) (hky.stab ((K.new0 hk).st hA2)) hlk)) ?_
  refine rm_v (keep_pre _) (fun h' hk => v_not rfl) ?_
  refine rm_end ?_; intro h4 K4; simp only [endM, hypF, ofE, argE, List.nil_append]
  have B2 := K4.blk (by simp) B2
  have K := K.new0 K4; have Z4 := K4.1
  refine q_thn <| tr_if_f rfl ?_
  refine tr_skip <| q_blk_n <| q_thn <| tr_reg <| rs_v (v_add rfl rfl (by omega) (by omega)) rfl ?_
  refine rM rfl rfl <| rs_nil ?_
  refine q_lp (G.length - (k + 1)) [(1, _), (12, _), (13, _), (14, _)] (by omega) ⟨rfl, rfl, rfl, rfl, trivial⟩ ⟨k + 1, by omega, rfl, rfl, K⟩
theorem c_pointSome {χ : Chi} {h : Heap} :
    Cl Tryz.prog χ 21 #[] h (fun r h' => r = .bool true ∧ Keep [] h h') := by
  have hA0 := n0low h
  refine cl_intro Tryz.func21 rfl rfl rfl ?_
  have K : Keep [] h h := Keep.refl _ _
  refine rG <| rA rfl rfl <| rN <| rG <| rs_v (v_build2 rfl rfl (bld_impl_Entry_0_1 _ _)) rfl ?_
  refine rs_w (w_new1 u_sl_impl_Entry siz_impl_Entry zero_impl_Entry rfl rfl rfl rfl rfl) rfl ?_
  rintro _ h1 ⟨rfl, B1, K1, Z1⟩
  have S1 := K.1; have K := K.new0 K1
  refine rs_w (w_call (vs := []) ok_laws_spanSome rfl trivial (c_spanSome χ _)) rfl ?_
  rintro hWv h2 ⟨hW, K2⟩
  have hW := RSpans.mono hW (upN K2)
  obtain ⟨hWa, hWc, rfl⟩ := SlR.form2 hW
  have hP : REnts (All h2) h2 (.slice (some ⟨h.size, 0, none⟩) 1 1) [someE] := ⟨by simp, _, _, rfl, fun i x hi => ⟨h.size, 0, rfl, by have := B1.lt; have := K2.1; unfold All; omega, by
    cases i with
    | zero => simp at hi; subst hi; exact (K2.blk (by simp) B1).cells
    | succ i => simp at hi⟩⟩
  have B1 := K2.blk (by simp) B1
  have K := K.new0 K2; have Z2 := K2.1
  refine rs_v (v_build0 (bld_impl_Bound_)) rfl ?_
  refine rs_v (v_build0 (bld_impl_Bound_)) rfl ?_
  refine rs_w (w_call (vs := [_]) ok_laws_spanForth rfl ⟨rfl, trivial⟩ (c_spanForth χ _ 1 (by decide))) rfl ?_
  rintro _ h3 ⟨⟨hQ, hQa, hQc, rfl, hQz⟩, K3⟩
  have hQ := RSteps.mono hQ (upN K3)
  have B1 := K3.blk (by simp) B1
  have hW := RSpans.kk hW K3
  have hP := REnts.kk hP K3
  have K := K.new0 K3; have Z3 := K3.1
  refine rs_w (w_call (vs := [_, _, _, _, _]) ok_impl_SpanInterleaved rfl ⟨rfl, rfl, rfl, rfl, rfl, trivial⟩ (c_implSpanInterleaved (all_low _) (es := [someE]) (W := someW) hP (by decide) some_esmall some_seq some_rise hW some_good.small some_wokW (fun s hs => (some_good.full s hs).2.1) hQ (by decide) (fwdS_mx 1))) rfl ?_
  rintro gv h4 ⟨hg, K4⟩
  have hg : RPAnss _ _ _ [ptAns someW ⟨⟨#[97]⟩, 0, .empty⟩ true, ptAns someW someE false] := some_pwalk ▸ hg
  obtain ⟨hgl, ga, gc, rfl, hgx⟩ := SlR.form hg
  rcases hgx with e | ⟨gb, go, rfl, hgA, hgR⟩
  · simp at e
  obtain ⟨k0, hc0, _⟩ := hgR 0 _ rfl
  obtain ⟨k1, hc1, _⟩ := hgR 1 _ rfl
  have hh1 := some_has
  have B1 := K4.blk (by simp) B1
  have hW := RSpans.kk hW K4
  have hP := REnts.kk hP K4
  have hQ := RSteps.kk hQ K4
  have K := K.new0 K4; have Z4 := K4.1
  refine rA rfl rfl <| rN <| rG <| rM rfl rfl <| rs_v (v_len u_sl_impl_PointAnswer rfl) rfl ?_
  refine rs_v (v_eq rfl rfl) rfl <| rM rfl rfl <| rs_gv rfl (rfl) (v_move rfl) rfl ?_
  refine rs_gv rfl (rfl) (v_indexAddrE (i := 0) u_sl_impl_PointAnswer siz_impl_PointAnswer rfl rfl rfl (by decide)) rfl ?_
  refine rs_gv rfl (rfl) (v_fieldAddr fa_impl_PointAnswer_2 rfl) rfl ?_
  refine rs_gv rfl (rfl) (v_load one_bool rfl (by exact hc0 2 _ rfl)) rfl ?_
  refine rs_v (v_pick_t rfl rfl) rfl ?_
  refine rM rfl rfl <| rs_gv rfl (rfl) (v_move rfl) rfl ?_
  refine rs_gv rfl (rfl) (v_indexAddrE (i := 1) u_sl_impl_PointAnswer siz_impl_PointAnswer rfl rfl rfl (by decide)) rfl ?_
  refine rs_gv rfl (rfl) (v_fieldAddr fa_impl_PointAnswer_1 rfl) rfl ?_
  refine rs_gv rfl (rfl) (v_load one_bool rfl (by exact hc1 1 _ rfl)) rfl ?_
  refine rs_v (v_pick_t rfl rfl) rfl ?_
  refine rM rfl rfl <| rs_gv rfl (rfl) (v_move rfl) rfl ?_
  refine rs_gv rfl (rfl) (v_indexAddrE (i := 1) u_sl_impl_PointAnswer siz_impl_PointAnswer rfl rfl rfl (by decide)) rfl ?_
  refine rs_gv rfl (rfl) (v_fieldAddr fa_impl_PointAnswer_4 rfl) rfl ?_
  refine rs_gv rfl (rfl) (v_load one_bool rfl (by exact hc1 6 _ rfl)) rfl ?_
  refine rs_v (v_pick_t rfl rfl) rfl ?_
  refine rA rfl rfl <| rN <| tr_ret <| q_ret (res_tmp rfl rfl) ?_
  exact ⟨by rw [hh1], K⟩
open Go.Tess Go.ChangeShapes Go.WideShapes Go.ChangeAt Go.RowKit
set_option maxHeartbeats 1000000
theorem fit8_mx {l : List StepD} (h : fit8 l = true) : ∀ s, s ∈ l → s.key.size ≤ 2147483647 := fun s hs => by
  simp only [fit8, Bool.and_eq_true, List.all_eq_true] at h
  have := h.2 s hs
  simp only [fit9, decide_eq_true_eq, MX] at this
  omega
section
variable {H : Type} {enc : TypeId × Value → H} {χ : Chi} {h : Heap} {d : Nat} {sp : Nat → Bool} {hd : Bool}
theorem open_entR {n : Nat} {cs : List Value} {x : DataW H × List MemPlace} (hx : DataW.trod enc Tryz.prog (mkw χ h d) 0 sp hd n 53 cs = some x) : ∃ k : EntD, cs = k.cells ∧ ERng k := by
  have hl := struct_len st_entry hx (sz := 3) (by kernel_rfl)
  match cs, hl with
  | [c0, c1, c2], _ =>
    obtain ⟨_, _, y0⟩ := field_open st_entry hx 0 9 0 1 (by kernel_rfl) (by kernel_rfl)
    obtain ⟨_, _, y1⟩ := field_open st_entry hx 1 45 1 1 (by kernel_rfl) (by kernel_rfl)
    obtain ⟨_, _, y2⟩ := field_open st_entry hx 2 9 2 1 (by kernel_rfl) (by kernel_rfl)
    obtain ⟨s, e1, _⟩ := DataW.trod_string u_string y0
    obtain ⟨i, e0, _, hw⟩ := DataW.trod_int u_uint64 y1
    obtain ⟨u, e2, _⟩ := DataW.trod_string u_string y2
    cases e0; cases e1; cases e2
    exact ⟨⟨s, i, u⟩, rfl, wf64 hw⟩
theorem open_ents {n : Nat} {v : Value} {x : DataW H × List MemPlace} (hx : DataW.trod enc Tryz.prog (mkw χ h d) 0 sp hd n 22 [v] = some x) : ∃ (es : List EntD) (a : Option Addr) (c : Nat), v = .slice a es.length c ∧ REnts (All h) h (.slice a es.length c) es ∧ es.length ≤ c ∧ ∀ e, e ∈ es → ERng e := by
  obtain ⟨es, hk⟩ := sl_open (R := fun cs (k : EntD) => cs = k.cells ∧ ERng k) u_sl_spec_Entry (sz := 3) (by kernel_rfl) (by omega) (fun n cs x hx => open_entR hx) hx
  have hE : REnts (All h) h v es := SlR.mono hk (fun _ h => h) fun b o x _ hc => by obtain ⟨cs, h1, rfl, _⟩ := hc; exact h1
  obtain ⟨a, c, rfl⟩ := SlR.form2 hE
  refine ⟨es, a, c, rfl, hE, ?_, sl_all hk fun b o a ⟨_, _, _, h⟩ => h⟩
  rcases Deep.open_slice u_sl_spec_Entry hx with ⟨hcs, _⟩ | ⟨a', len, cap, m, n, D, Pl, hcs, _, hl, _⟩
  · injection hcs with hcs; injection hcs with e1 e2 e3; omega
  · injection hcs with hcs; injection hcs with e1 e2 e3; omega
end
theorem c_FnSpanInterleaved (χ : Chi) (h : Heap) (A : Nat → Prop) (hA : Low A h) {a : Option Addr} {c : Nat} {v sv : Value} {es : List EntD} {W : List SpanD} {steps : List StepD} (hE : REnts A h (.slice a es.length c) es) (hcap : es.length ≤ c) (hrg : ∀ e, e ∈ es → ERng e) (hW : RSpans A h v W) (hKR : KRng W) (hS : RSteps A h sv steps) :
    Cl Tryz.prog χ 3 #[.slice a es.length c, v, sv] h (fun r h' => r = .bool true ∧ Keep [] h h') := by
  have hE := REnts.mono hE hA
  have hW := RSpans.mono hW hA
  have hS := RSteps.mono hS hA
  obtain ⟨a1, c1, rfl⟩ := SlR.form2 hW
  obtain ⟨a2, c2, rfl⟩ := SlR.form2 hS
  refine cl_intro Tryz.func3 rfl rfl rfl ?_
  have K : Keep [] h h := Keep.refl _ _
  refine rG <| rA rfl rfl <| rN <| tr_seq ?_
  refine tr_cut (fun E h' => Keep [] h h' ∧ E = [(0, .slice a es.length c), (1, .slice a1 W.length c1), (2, .slice a2 steps.length c2), (6, .bool false), (20, .bool ((!fit13 es) || (!fit4 W) || (!fit8 steps)))]) ?_ ?_
  ·
    rcases bsplit3 (!fit13 es) (!fit4 W) with g1 | ⟨g1, g2⟩ | ⟨g1, g2⟩
    · skip
      refine tr_reg <| rM rfl rfl <| rs_w (w_call (vs := [_]) ok_laws_zzFits13 rfl ⟨rfl, trivial⟩ (c_zzFits13 χ h (All h) _ es hE)) rfl ?_
      rintro _ h1 ⟨rfl, K1⟩
      have K := K.new0 K1; have Z1 := K1.1
      refine rs_v (v_not rfl) rfl <| rM rfl rfl <| rs_gs rfl (lkb g1) rfl rfl <| rs_gs rfl (lkb g1) rfl rfl <| rs_gs rfl (lkb g1) rfl rfl <| rs_v (v_pick_t (lkb g1) rfl) rfl ?_
      refine rM rfl rfl <| rs_gs rfl (rfl) rfl rfl <| rs_gs rfl (rfl) rfl rfl <| rs_gs rfl (rfl) rfl rfl <| rs_v (v_pick_t rfl rfl) rfl ?_
      refine rs_nil ?_
      exact q_cut [(0, _), (1, _), (2, _), (6, _), (20, _)] ⟨rfl, rfl, rfl, rfl, rfl, trivial⟩ ⟨K, by rw [show ((!fit13 es) || (!fit4 W) || (!fit8 steps)) = (true) from by simp only [g1, Bool.true_or, Bool.false_or]]⟩
    · skip
      refine tr_reg <| rM rfl rfl <| rs_w (w_call (vs := [_]) ok_laws_zzFits13 rfl ⟨rfl, trivial⟩ (c_zzFits13 χ h (All h) _ es hE)) rfl ?_
      rintro _ h2 ⟨rfl, K2⟩
      have K := K.new0 K2; have Z2 := K2.1
      refine rs_v (v_not rfl) rfl <| rM rfl rfl <| rs_gv rfl (lkb g1) (v_move rfl) rfl ?_
      refine rs_gw rfl (lkb g1) (w_call (vs := [_]) ok_laws_zzFits4 rfl ⟨rfl, trivial⟩ (c_zzFits4 χ _ (All _) (all_low _) _ W (RSpans.kk hW K))) rfl ?_
      rintro _ h3 ⟨rfl, K3⟩
      have K := K.new0 K3; have Z3 := K3.1
      refine rs_gv rfl (lkb g1) (v_not rfl) rfl ?_
      refine rs_v (v_pick_f (lkb g1) rfl) rfl ?_
      refine rM rfl rfl <| rs_gs rfl (lkb g2) rfl rfl <| rs_gs rfl (lkb g2) rfl rfl <| rs_gs rfl (lkb g2) rfl rfl <| rs_v (v_pick_t (lkb g2) rfl) rfl ?_
      refine rs_nil ?_
      exact q_cut [(0, _), (1, _), (2, _), (6, _), (20, _)] ⟨rfl, rfl, rfl, rfl, rfl, trivial⟩ ⟨K, by rw [show ((!fit13 es) || (!fit4 W) || (!fit8 steps)) = (true) from by simp only [g1, g2, Bool.true_or, Bool.false_or]]⟩
    · skip
      refine tr_reg <| rM rfl rfl <| rs_w (w_call (vs := [_]) ok_laws_zzFits13 rfl ⟨rfl, trivial⟩ (c_zzFits13 χ h (All h) _ es hE)) rfl ?_
      rintro _ h4 ⟨rfl, K4⟩
      have K := K.new0 K4; have Z4 := K4.1
      refine rs_v (v_not rfl) rfl <| rM rfl rfl <| rs_gv rfl (lkb g1) (v_move rfl) rfl ?_
      refine rs_gw rfl (lkb g1) (w_call (vs := [_]) ok_laws_zzFits4 rfl ⟨rfl, trivial⟩ (c_zzFits4 χ _ (All _) (all_low _) _ W (RSpans.kk hW K))) rfl ?_
      rintro _ h5 ⟨rfl, K5⟩
      have K := K.new0 K5; have Z5 := K5.1
      refine rs_gv rfl (lkb g1) (v_not rfl) rfl ?_
      refine rs_v (v_pick_f (lkb g1) rfl) rfl ?_
      refine rM rfl rfl <| rs_gv rfl (lkb g2) (v_move rfl) rfl ?_
      refine rs_gw rfl (lkb g2) (w_call (vs := [_]) ok_laws_zzFits8 rfl ⟨rfl, trivial⟩ (c_zzFits8 χ _ _ _ steps (RSteps.kk hS K))) rfl ?_
      rintro _ h6 ⟨rfl, K6⟩
      have K := K.new0 K6; have Z6 := K6.1
      refine rs_gv rfl (lkb g2) (v_not rfl) rfl ?_
      refine rs_v (v_pick_f (lkb g2) rfl) rfl ?_
      refine rs_nil ?_
      exact q_cut [(0, _), (1, _), (2, _), (6, _), (20, _)] ⟨rfl, rfl, rfl, rfl, rfl, trivial⟩ ⟨K, by rw [show ((!fit13 es) || (!fit4 W) || (!fit8 steps)) = (!fit8 steps) from by simp only [g1, g2, Bool.true_or, Bool.false_or]]⟩
  rintro E h99 ⟨K, rfl⟩
  refine tr_if rfl (fun hif => ?_) (fun hif => ?_)
  · -- yes
    skip
    refine rG <| rA rfl rfl <| rN <| tr_ret <| q_thn_ret <| q_ret (res_tmp rfl rfl) ?_
    exact ⟨rfl, K⟩
  -- no
  simp only [Bool.or_eq_false_iff, Bool.not_eq_false'] at hif
  obtain ⟨⟨hf13, hf4⟩, hf8⟩ := hif
  refine tr_skip <| q_thn <| tr_seq ?_
  refine tr_cut (fun E h' => Keep [] h h' ∧ E = [(0, .slice a es.length c), (1, .slice a1 W.length c1), (2, .slice a2 steps.length c2), (6, .bool false), (38, .bool ((decide ((40 : Int) < (es.length : Int))) || (!ptsB es) || (!(mostB W 20 && wellB W)) || (decide ((60 : Int) < (steps.length : Int)))))]) ?_ ?_
  ·
    rcases bsplit4 (decide ((40 : Int) < (es.length : Int))) (!ptsB es) (!(mostB W 20 && wellB W)) with g1 | ⟨g1, g2⟩ | ⟨g1, g2, g3⟩ | ⟨g1, g2, g3⟩
    · skip
      refine tr_reg <| rM rfl rfl <| rs_v (v_len u_sl_spec_Entry rfl) rfl ?_
      refine rs_v (v_gt rfl rfl) rfl ?_
      refine rM rfl rfl <| rs_gs rfl (lkb g1) rfl rfl <| rs_gs rfl (lkb g1) rfl rfl <| rs_gs rfl (lkb g1) rfl rfl <| rs_v (v_pick_t (lkb g1) rfl) rfl ?_
      refine rM rfl rfl <| rs_gs rfl (rfl) rfl rfl <| rs_gs rfl (rfl) rfl rfl <| rs_gs rfl (rfl) rfl rfl <| rs_v (v_pick_t rfl rfl) rfl ?_
      refine rM rfl rfl <| rs_gs rfl (rfl) rfl rfl <| rs_gs rfl (rfl) rfl rfl <| rs_gs rfl (rfl) rfl rfl <| rs_v (v_pick_t rfl rfl) rfl ?_
      refine rs_nil ?_
      exact q_cut [(0, _), (1, _), (2, _), (6, _), (38, _)] ⟨rfl, rfl, rfl, rfl, rfl, trivial⟩ ⟨K, by rw [show ((decide ((40 : Int) < (es.length : Int))) || (!ptsB es) || (!(mostB W 20 && wellB W)) || (decide ((60 : Int) < (steps.length : Int)))) = (true) from by simp only [g1, Bool.true_or, Bool.false_or]]⟩
    · skip
      refine tr_reg <| rM rfl rfl <| rs_v (v_len u_sl_spec_Entry rfl) rfl ?_
      refine rs_v (v_gt rfl rfl) rfl ?_
      refine rM rfl rfl <| rs_gv rfl (lkb g1) (v_move rfl) rfl ?_
      refine rs_gw rfl (lkb g1) (w_call (vs := [_]) ok_spec_PointsWell rfl ⟨rfl, trivial⟩ (c_PointsWell χ _ _ (all_low _) _ es (REnts.kk hE K) hrg)) rfl ?_
      rintro _ h8 ⟨rfl, K8⟩
      have K := K.new0 K8; have Z8 := K8.1
      refine rs_gv rfl (lkb g1) (v_not rfl) rfl ?_
      refine rs_v (v_pick_f (lkb g1) rfl) rfl ?_
      refine rM rfl rfl <| rs_gs rfl (lkb g2) rfl rfl <| rs_gs rfl (lkb g2) rfl rfl <| rs_gs rfl (lkb g2) rfl rfl <| rs_v (v_pick_t (lkb g2) rfl) rfl ?_
      refine rM rfl rfl <| rs_gs rfl (rfl) rfl rfl <| rs_gs rfl (rfl) rfl rfl <| rs_gs rfl (rfl) rfl rfl <| rs_v (v_pick_t rfl rfl) rfl ?_
      refine rs_nil ?_
      exact q_cut [(0, _), (1, _), (2, _), (6, _), (38, _)] ⟨rfl, rfl, rfl, rfl, rfl, trivial⟩ ⟨K, by rw [show ((decide ((40 : Int) < (es.length : Int))) || (!ptsB es) || (!(mostB W 20 && wellB W)) || (decide ((60 : Int) < (steps.length : Int)))) = (true) from by simp only [g1, g2, Bool.true_or, Bool.false_or]]⟩
    · skip
      refine tr_reg <| rM rfl rfl <| rs_v (v_len u_sl_spec_Entry rfl) rfl ?_
      refine rs_v (v_gt rfl rfl) rfl ?_
      refine rM rfl rfl <| rs_gv rfl (lkb g1) (v_move rfl) rfl ?_
      refine rs_gw rfl (lkb g1) (w_call (vs := [_]) ok_spec_PointsWell rfl ⟨rfl, trivial⟩ (c_PointsWell χ _ _ (all_low _) _ es (REnts.kk hE K) hrg)) rfl ?_
      rintro _ h9 ⟨rfl, K9⟩
      have K := K.new0 K9; have Z9 := K9.1
      refine rs_gv rfl (lkb g1) (v_not rfl) rfl ?_
      refine rs_v (v_pick_f (lkb g1) rfl) rfl ?_
      refine rM rfl rfl <| rs_gv rfl (lkb g2) (v_move rfl) rfl ?_
      refine rs_gw rfl (lkb g2) (w_call (vs := [_, _]) ok_laws_spanWell rfl ⟨rfl, rfl, trivial⟩ (c_spanWell χ _ _ (all_low _) _ W 20 (RSpans.kk hW K))) rfl ?_
      rintro _ h10 ⟨rfl, K10⟩
      have K := K.new0 K10; have Z10 := K10.1
      refine rs_gv rfl (lkb g2) (v_not rfl) rfl ?_
      refine rs_v (v_pick_f (lkb g2) rfl) rfl ?_
      refine rM rfl rfl <| rs_gs rfl (lkb g3) rfl rfl <| rs_gs rfl (lkb g3) rfl rfl <| rs_gs rfl (lkb g3) rfl rfl <| rs_v (v_pick_t (lkb g3) rfl) rfl ?_
      refine rs_nil ?_
      exact q_cut [(0, _), (1, _), (2, _), (6, _), (38, _)] ⟨rfl, rfl, rfl, rfl, rfl, trivial⟩ ⟨K, by rw [show ((decide ((40 : Int) < (es.length : Int))) || (!ptsB es) || (!(mostB W 20 && wellB W)) || (decide ((60 : Int) < (steps.length : Int)))) = (true) from by simp only [g1, g2, g3, Bool.true_or, Bool.false_or]]⟩
    · skip
      refine tr_reg <| rM rfl rfl <| rs_v (v_len u_sl_spec_Entry rfl) rfl ?_
      refine rs_v (v_gt rfl rfl) rfl ?_
      refine rM rfl rfl <| rs_gv rfl (lkb g1) (v_move rfl) rfl ?_
      refine rs_gw rfl (lkb g1) (w_call (vs := [_]) ok_spec_PointsWell rfl ⟨rfl, trivial⟩ (c_PointsWell χ _ _ (all_low _) _ es (REnts.kk hE K) hrg)) rfl ?_
      rintro _ h11 ⟨rfl, K11⟩
      have K := K.new0 K11; have Z11 := K11.1
      refine rs_gv rfl (lkb g1) (v_not rfl) rfl ?_
      refine rs_v (v_pick_f (lkb g1) rfl) rfl ?_
      refine rM rfl rfl <| rs_gv rfl (lkb g2) (v_move rfl) rfl ?_
      refine rs_gw rfl (lkb g2) (w_call (vs := [_, _]) ok_laws_spanWell rfl ⟨rfl, rfl, trivial⟩ (c_spanWell χ _ _ (all_low _) _ W 20 (RSpans.kk hW K))) rfl ?_
      rintro _ h12 ⟨rfl, K12⟩
      have K := K.new0 K12; have Z12 := K12.1
      refine rs_gv rfl (lkb g2) (v_not rfl) rfl ?_
      refine rs_v (v_pick_f (lkb g2) rfl) rfl ?_
      refine rM rfl rfl <| rs_gv rfl (lkb g3) (v_move rfl) rfl <| rs_gv rfl (lkb g3) (v_len u_sl_spec_Step rfl) rfl ?_
      refine rs_gv rfl (lkb g3) (v_gt rfl rfl) rfl ?_
      refine rs_v (v_pick_f (lkb g3) rfl) rfl ?_
      refine rs_nil ?_
      exact q_cut [(0, _), (1, _), (2, _), (6, _), (38, _)] ⟨rfl, rfl, rfl, rfl, rfl, trivial⟩ ⟨K, by rw [show ((decide ((40 : Int) < (es.length : Int))) || (!ptsB es) || (!(mostB W 20 && wellB W)) || (decide ((60 : Int) < (steps.length : Int)))) = (decide ((60 : Int) < (steps.length : Int))) from by simp only [g1, g2, g3, Bool.true_or, Bool.false_or]]⟩
  rintro E h99 ⟨K, rfl⟩
  refine tr_if rfl (fun hif => ?_) (fun hif => ?_)
  · -- yes
    skip
    refine rG <| rA rfl rfl <| rN <| tr_ret <| q_thn_ret <| q_ret (res_tmp rfl rfl) ?_
    exact ⟨rfl, K⟩
  -- no
  simp only [Bool.or_eq_false_iff, Bool.not_eq_false', decide_eq_false_iff_not] at hif
  obtain ⟨⟨⟨hl40, hpw⟩, hw⟩, hl6⟩ := hif
  obtain ⟨hG, _⟩ := good_of (by decide) hf4 hw
  obtain ⟨hseqb, hch⟩ := Bool.and_eq_true_iff.1 hpw
  have hseq := seqlow_of hseqb hrg
  have hrise := rise_of hch
  refine tr_skip <| q_thn <| rG <| rM rfl rfl <| rs_w (w_call (vs := [_]) ok_laws_toEntries rfl ⟨rfl, trivial⟩ (c_toEntries (REnts.kk hE K) (by omega))) rfl ?_
  rintro hPv h14 ⟨hP, K14⟩
  have hP := REnts.mono hP (upN K14)
  obtain ⟨hPa, hPc, rfl⟩ := SlR.form2 hP
  have K := K.new0 K14; have Z14 := K14.1
  refine rM rfl rfl <| rs_w (w_call (vs := [_]) ok_laws_toSpans rfl ⟨rfl, trivial⟩ (c_toSpans χ _ _ (all_low _) _ W (RSpans.kk hW K) hG.n hG.few)) rfl ?_
  rintro hQv h15 ⟨hQ, K15⟩
  have hQ := RSpans.mono hQ (upA K15)
  obtain ⟨hQa, hQc, rfl⟩ := SlR.form2 hQ
  have hP := REnts.kk hP K15
  have K := K.new0 K15; have Z15 := K15.1
  refine rs_v (v_build0 (bld_impl_Bound_)) rfl ?_
  refine rs_v (v_build0 (bld_impl_Bound_)) rfl ?_
  refine rM rfl rfl <| rs_w (w_call (vs := [_]) ok_laws_toSteps rfl ⟨rfl, trivial⟩ (c_toSteps χ _ _ (all_low _) _ steps (RSteps.kk hS K) (by omega))) rfl ?_
  rintro hTv h16 ⟨hT, K16⟩
  have hT := RSteps.mono hT (upA K16)
  obtain ⟨hTa, hTc, rfl⟩ := SlR.form2 hT
  have hP := REnts.kk hP K16
  have hQ := RSpans.kk hQ K16
  have K := K.new0 K16; have Z16 := K16.1
  refine rs_w (w_call (vs := [_, _, _, _, _]) ok_impl_SpanInterleaved rfl ⟨rfl, rfl, rfl, rfl, rfl, trivial⟩ (c_implSpanInterleaved (all_low _) hP (by omega) (fit13_small hf13) hseq hrise hQ hG.small (good_wok hG hKR) (fun s hs => (hG.full s hs).2.1) hT (by omega) (fit8_mx hf8))) rfl ?_
  rintro hgotv h17 ⟨hgot, K17⟩
  rw [walkK_no] at hgot
  have hgot := RPAnss.mono hgot (upN K17)
  obtain ⟨hgota, hgotc, rfl⟩ := SlR.form2 hgot
  have hP := REnts.kk hP K17
  have hQ := RSpans.kk hQ K17
  have hT := RSteps.kk hT K17
  have K := K.new0 K17; have Z17 := K17.1
  refine rA rfl rfl <| rN <| rG <| rM rfl rfl <| rM rfl rfl <| rM rfl rfl <| rM rfl rfl <| rs_w (w_call (vs := [_, _, _]) ok_spec_PointWalk rfl ⟨rfl, rfl, rfl, trivial⟩ (c_PointWalk (all_low _) (REnts.kk hE K) hcap (RSpans.kk hW K) (RSteps.kk hS K) hrise hG.ord (by omega) hG.n (by omega))) rfl ?_
  rintro hwantv h18 ⟨hwant, K18⟩
  have hwant := RPAnss.mono hwant (upA K18)
  obtain ⟨hwanta, hwantc, rfl⟩ := SlR.form2 hwant
  have hP := REnts.kk hP K18
  have hQ := RSpans.kk hQ K18
  have hT := RSteps.kk hT K18
  have hgot := RPAnss.kk hgot K18
  have K := K.new0 K18; have Z18 := K18.1
  refine rs_w (w_call (vs := [_, _]) ok_laws_pointAnswers rfl ⟨rfl, rfl, trivial⟩ (c_pointAnswers (all_low _) (all_low _) hgot hwant (palike_walk (fun s hs => ⟨(hG.full s hs).2.2.1, hG.few s hs⟩) _ _))) rfl ?_
  rintro _ h19 ⟨rfl, K19⟩
  have hP := REnts.kk hP K19
  have hQ := RSpans.kk hQ K19
  have hT := RSteps.kk hT K19
  have hgot := RPAnss.kk hgot K19
  have hwant := RPAnss.kk hwant K19
  have K := K.new0 K19; have Z19 := K19.1
  refine rM rfl rfl ?_
  refine rs_gw rfl (rfl) (w_call (vs := []) ok_laws_pointSome rfl trivial (c_pointSome)) rfl ?_
  rintro _ h20 ⟨rfl, K20⟩
  have hP := REnts.kk hP K20
  have hQ := RSpans.kk hQ K20
  have hT := RSteps.kk hT K20
  have hgot := RPAnss.kk hgot K20
  have hwant := RPAnss.kk hwant K20
  have K := K.new0 K20; have Z20 := K20.1
  refine rs_v (v_pick_t rfl rfl) rfl ?_
  refine rA rfl rfl <| rN <| tr_ret <| q_ret (res_tmp rfl rfl) ?_
  exact ⟨rfl, K⟩
end Go.Proofs.YtblhkgldhcbmeaaGreat
