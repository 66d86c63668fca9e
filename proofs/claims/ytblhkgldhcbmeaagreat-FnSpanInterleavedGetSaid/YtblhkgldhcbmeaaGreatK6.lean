/- Texts W177 to W177, as far as the statement reaches them, laid together by a program of ours. Conditions: those that each theorem names. -/
import Derived.Test.YtblhkgldhcbmeaaGreatK5
set_option linter.unusedVariables false
set_option linter.unusedSimpArgs false
set_option linter.unusedSectionVars false
namespace Go.Proofs.YtblhkgldhcbmeaaGreat
open Go.Tess Go.RowKit
set_option maxRecDepth 100000
set_option maxHeartbeats 2000000
section
variable {es : List EntD} {W : List SpanD}
theorem walk_stay : ∀ (m : Nat) (p : PP), (p = .behind ∨ p = .nowhere) → ∀ a, a ∈ walkM es W p (List.replicate m nextS) → a.ok = false
  | 0, p, _, a, h => by simp [walkM] at h
  | m + 1, p, hp, a, h => by
    have e : stepM (es.map EntD.user) W p nextS = none := by rcases hp with rfl | rfl <;> rfl
    rw [List.replicate_succ] at h
    simp only [walkM, e, Option.getD_none, List.mem_cons] at h
    rcases h with rfl | h
    · rfl
    · exact walk_stay m p hp a h
theorem walk_tail : ∀ (m j i : Nat) (x : PAnsD), nM (es.map EntD.user) W ≤ j + 1 + i → (walkM es W (.pt j) (List.replicate m nextS))[i]? = some x → x.ok = false
  | 0, _, _, _, _, h => by simp [walkM] at h
  | m + 1, j, i, x, hi, h => by
    have e : stepM (es.map EntD.user) W (.pt j) nextS = some (if j + 1 < nM (es.map EntD.user) W then .pt (j + 1) else .behind) := rfl
    rw [List.replicate_succ] at h
    simp only [walkM, e, Option.getD_some] at h
    by_cases hj : j + 1 < nM (es.map EntD.user) W
    · rw [if_pos hj] at h
      cases i with
      | zero => omega
      | succ i => rw [List.getElem?_cons_succ] at h; exact walk_tail m (j + 1) i x (by omega) h
    · rw [if_neg hj] at h
      cases i with
      | zero => simp at h; rw [← h]; rfl
      | succ i => rw [List.getElem?_cons_succ] at h; exact walk_stay m .behind (.inl rfl) x (List.mem_of_getElem? h)
theorem fwd_tail {n k : Nat} {x : PAnsD} (hk : nM (es.map EntD.user) W ≤ k) (h : (walkM es W .nowhere (fwdS n))[k]? = some x) : x.ok = false := by
  have e : walkM es W .nowhere (fwdS n) = ansM es W (some (ppFirst (es.map EntD.user) W)) :: walkM es W (ppFirst (es.map EntD.user) W) (List.replicate n nextS) := rfl
  rw [e] at h
  by_cases h0 : nM (es.map EntD.user) W = 0
  · rw [ppFirst, if_pos h0] at h
    cases k with
    | zero => simp at h; rw [← h]; rfl
    | succ k => rw [List.getElem?_cons_succ] at h; exact walk_stay n .nowhere (.inr rfl) x (List.mem_of_getElem? h)
  · rw [ppFirst, if_neg h0] at h
    cases k with
    | zero => omega
    | succ k => rw [List.getElem?_cons_succ] at h; exact walk_tail n 0 k x (by omega) h
theorem mark_small (h1 : ∀ e, e ∈ es → e.small) (h2 : ∀ s, s ∈ W → SpanD.small s) {k : Nat} (hk : k < nM (es.map EntD.user) W) : (markE es W k).user.size ≤ 9223372036854775807 := by
  cases hs : stAt (es.map EntD.user) W k with
  | true =>
    have hx := stAt_lt hs
    rw [mkE_st hs, atS_some (List.getElem?_eq_getElem hx)]
    have := (h2 _ (List.getElem_mem hx)).1
    omega
  | false =>
    obtain ⟨e, he⟩ := ex_get (L := es) (k := (mst (es.map EntD.user) W k).1) (by have := (mkE_pt hk hs).2; rw [List.length_map] at this; exact this)
    have e1 : markE es W k = e := by unfold markE; rw [hs]; simp only [he]; rfl
    rw [e1]
    have := (h1 e (List.mem_of_getElem? he)).1
    omega
def cntP (es : List EntD) (W : List SpanD) (k : Nat) : Nat := (mst (es.map EntD.user) W (min k (nM (es.map EntD.user) W))).1
theorem cntP_pt {k : Nat} (hk : k < nM (es.map EntD.user) W) (hs : stAt (es.map EntD.user) W k = false) : cntP es W (k + 1) = cntP es W k + 1 ∧ ∃ e, es[cntP es W k]? = some e ∧ markE es W k = e := by
  unfold cntP
  rw [Nat.min_eq_left (by omega), Nat.min_eq_left (by omega), mst_pt hs]
  refine ⟨rfl, ?_⟩
  obtain ⟨e, he⟩ := ex_get (L := es) (k := (mst (es.map EntD.user) W k).1) (by have := (mkE_pt hk hs).2; rw [List.length_map] at this; exact this)
  exact ⟨e, he, by unfold markE; rw [hs]; simp only [he]; rfl⟩
theorem cntP_st {k : Nat} (hk : k < nM (es.map EntD.user) W) (hs : stAt (es.map EntD.user) W k = true) : cntP es W (k + 1) = cntP es W k := by
  unfold cntP
  rw [Nat.min_eq_left (by omega), Nat.min_eq_left (by omega), mst_st hs]
theorem cntP_end {k : Nat} (hk : nM (es.map EntD.user) W ≤ k) : cntP es W (k + 1) = cntP es W k := by
  unfold cntP
  rw [Nat.min_eq_right (by omega), Nat.min_eq_right (by omega)]
theorem cntP_all (hR : Rise (es.map EntD.user)) (hO : Ord W) {k : Nat} (hk : nM (es.map EntD.user) W ≤ k) : cntP es W k = es.length := by
  unfold cntP
  rw [Nat.min_eq_right hk]
  unfold nM
  rw [mst_end hR hO, List.length_map]
theorem rk_ne3 {A : Nat → Prop} {h : Heap} {v : Value} {ks : List KeyD} {b : Nat} {T : TypeId} (H : RKeys A h v ks) (B : Blk h b [.string ByteArray.empty, .string ByteArray.empty, .slice none 0 0] T) : RKeys (fun x => A x ∧ x ≠ b) h v ks := by
  obtain ⟨hl, a, c, e, hx⟩ := H
  refine ⟨hl, a, c, e, fun i x hi => ?_⟩
  obtain ⟨b', o, e1, hA, hc⟩ := hx i x hi
  refine ⟨b', o, e1, ⟨hA, ?_⟩, hc⟩
  rintro rfl
  have h0 := cell_of B (hc 0 _ rfl)
  generalize o + i * 3 + 0 = n at h0
  match n, h0 with
  | 0, h0 => simp at h0
  | 1, h0 => simp at h0
  | 2, h0 => simp at h0
  | n + 3, h0 => simp at h0
theorem rk_kk {h h' : Heap} {v : Value} {ks : List KeyD} (hr : RKeys (All h) h v ks) (K : Keep [] h h') : RKeys (All h') h' v ks := (RKeys.stab hr (all_st K)).mono (all_up K)
end
structure GiI (b0 : Heap) (E : Env) (PL : List (Nat × Nat × Value)) (x : PAnsD) (W : List SpanD) (L : Nat → Bool) (g : Nat → Option Value) (h : Heap) : Prop where
  e0 : ∀ t v, E.lookup t = some v → g t = some v
  kb : Keep [] b0 h
  p : ∀ i d w, (i, d, w) ∈ PL → L i = true → g d = some w
  a1 : L 1 = true → ∃ u, g 49 = some u ∧ (L 10 = false → RSpans (All h) h u W)
  a5 : L 5 = true → ∃ a n c, g 53 = some (.tuple #[.agg #[.string x.sp.s, .string x.sp.e, .slice a n c], .bool x.has]) ∧ (L 6 = true → g 47 = some (.tuple #[.agg #[.string x.sp.s, .string x.sp.e, .slice a n c], .bool x.has])) ∧ (L 7 = true → g 54 = some (.agg #[.string x.sp.s, .string x.sp.e, .slice a n c])) ∧
    RKeys (fun b => b < h.size ∧ ∀ b8 : Nat, L 9 = true → g 8 = some (.pointer (some ⟨b8, 0, none⟩)) → b ≠ b8) h (.slice a n c) x.sp.ks ∧ (L 10 = true → ∃ b8, g 8 = some (.pointer (some ⟨b8, 0, none⟩)) ∧ Blk h b8 [.string x.sp.s, .string x.sp.e, .slice a n c] 50)
  a9 : L 9 = true → ∃ b8, g 8 = some (.pointer (some ⟨b8, 0, none⟩)) ∧ b0.size ≤ b8 ∧ b8 < h.size ∧ (L 10 = false → Blk h b8 [.string ByteArray.empty, .string ByteArray.empty, .slice none 0 0] 50)
section
variable {b0 h h' : Heap} {E : Env} {PL : List (Nat × Nat × Value)} {x : PAnsD} {W : List SpanD} {L : Nat → Bool} {g : Nat → Option Value}
theorem GiI.keep (I : GiI b0 E PL x W L g h) (K : Keep [] h h') : GiI b0 E PL x W L g h' :=
  ⟨I.e0, I.kb.new0 K, I.p, fun h1 => by
    obtain ⟨u, e, hr⟩ := I.a1 h1
    exact ⟨u, e, fun h2 => RSpans.kk (hr h2) K⟩, fun h5 => by
    obtain ⟨a, n, c, e1, e2, e3, hr, hb⟩ := I.a5 h5
    refine ⟨a, n, c, e1, e2, e3, (hr.stab (K.stab fun b hb => ⟨hb.1, by simp⟩)).mono fun b hb => ⟨Nat.lt_of_lt_of_le hb.1 K.1, hb.2⟩, fun h10 => ?_⟩
    obtain ⟨b8, e, B⟩ := hb h10
    exact ⟨b8, e, K.blk (by simp) B⟩, fun h9 => by
    obtain ⟨b8, e, h1, h2, h3⟩ := I.a9 h9
    exact ⟨b8, e, h1, Nat.lt_of_lt_of_le h2 K.1, fun h4 => K.blk (by simp) (h3 h4)⟩⟩
theorem GiI.upd (I : GiI b0 E PL x W L g h) {i d : Nat} {v : Value} (hE : E.lookup d = none) (hm : ∀ j d' w, (j, d', w) ∈ PL → (j = i ∧ d' = d ∧ w = v) ∨ (j ≠ i ∧ d' ≠ d))
    (n1 : updL L i 1 = true → ∃ u, updG g (some d) v 49 = some u ∧ (updL L i 10 = false → RSpans (All h) h u W))
    (n5 : updL L i 5 = true → ∃ a n c, updG g (some d) v 53 = some (.tuple #[.agg #[.string x.sp.s, .string x.sp.e, .slice a n c], .bool x.has]) ∧ (updL L i 6 = true → updG g (some d) v 47 = some (.tuple #[.agg #[.string x.sp.s, .string x.sp.e, .slice a n c], .bool x.has])) ∧ (updL L i 7 = true → updG g (some d) v 54 = some (.agg #[.string x.sp.s, .string x.sp.e, .slice a n c])) ∧
      RKeys (fun b => b < h.size ∧ ∀ b8 : Nat, updL L i 9 = true → updG g (some d) v 8 = some (.pointer (some ⟨b8, 0, none⟩)) → b ≠ b8) h (.slice a n c) x.sp.ks ∧ (updL L i 10 = true → ∃ b8, updG g (some d) v 8 = some (.pointer (some ⟨b8, 0, none⟩)) ∧ Blk h b8 [.string x.sp.s, .string x.sp.e, .slice a n c] 50))
    (n9 : updL L i 9 = true → ∃ b8, updG g (some d) v 8 = some (.pointer (some ⟨b8, 0, none⟩)) ∧ b0.size ≤ b8 ∧ b8 < h.size ∧ (updL L i 10 = false → Blk h b8 [.string ByteArray.empty, .string ByteArray.empty, .slice none 0 0] 50)) : GiI b0 E PL x W (updL L i) (updG g (some d) v) h :=
  ⟨fun t u hu => by
    have hne : t ≠ d := fun e => by rw [e, hE] at hu; cases hu
    simp only [updG, if_neg hne]; exact I.e0 t u hu, I.kb, fun j d' w hj hl => by
    rcases hm j d' w hj with ⟨rfl, rfl, rfl⟩ | ⟨h1, h2⟩
    · simp [updG]
    · simp only [updL, if_neg h1] at hl
      simp only [updG, if_neg h2]; exact I.p j d' w hj hl, n1, n5, n9⟩
theorem GiI.pure (I : GiI b0 E PL x W L g h) {i d : Nat} {v : Value} (hE : E.lookup d = none) (hm : ∀ j d' w, (j, d', w) ∈ PL → (j = i ∧ d' = d ∧ w = v) ∨ (j ≠ i ∧ d' ≠ d))
    (hi : 1 ≠ i ∧ 5 ≠ i ∧ 6 ≠ i ∧ 7 ≠ i ∧ 9 ≠ i ∧ 10 ≠ i) (hd : 49 ≠ d ∧ 53 ≠ d ∧ 47 ≠ d ∧ 54 ≠ d ∧ 8 ≠ d) : GiI b0 E PL x W (updL L i) (updG g (some d) v) h := by
  obtain ⟨i1, i5, i6, i7, i9, i10⟩ := hi
  obtain ⟨d1, d5, d6, d7, d8⟩ := hd
  refine I.upd hE hm ?_ ?_ ?_ <;> simp only [updL, updG, if_neg i1, if_neg i5, if_neg i6, if_neg i7, if_neg i9, if_neg i10, if_neg d1, if_neg d5, if_neg d6, if_neg d7, if_neg d8]
  · exact I.a1
  · exact I.a5
  · exact I.a9
end
theorem c_FnSpanInterleavedGet (χ : Chi) (h : Heap) (A : Nat → Prop) (hA : Low A h) {a : Option Addr} {c : Nat} {v : Value} {es : List EntD} {W : List SpanD} (hE : REnts A h (.slice a es.length c) es) (hrg : ∀ e, e ∈ es → ERng e) (hW : RSpans A h v W) (hKR : KRng W) :
    Cl Tryz.prog χ 7 #[.slice a es.length c, v] h (fun r h' => r = .bool true ∧ Keep [] h h') := by
  have hE := REnts.mono hE hA
  have hW := RSpans.mono hW hA
  obtain ⟨a1, c1, rfl⟩ := SlR.form2 hW
  refine cl_intro Tryz.func7 rfl rfl rfl ?_
  have K : Keep [] h h := Keep.refl _ _
  refine rG <| rA rfl rfl <| rN <| tr_seq ?_
  refine tr_cut (fun E h' => Keep [] h h' ∧ E = [(0, .slice a es.length c), (1, .slice a1 W.length c1), (4, .bool false), (17, .bool ((!fit13 es) || (!fit4 W)))]) ?_ ?_
  ·
    rcases bsplit2 (!fit13 es) with g1 | g1
    · skip
      refine tr_reg <| rM rfl rfl <| rs_w (w_call (vs := [_]) ok_laws_zzFits13 rfl ⟨rfl, trivial⟩ (c_zzFits13 χ h (All h) _ es hE)) rfl ?_
      rintro _ h1 ⟨rfl, K1⟩
      have K := K.new0 K1; have Z1 := K1.1
      refine rs_v (v_not rfl) rfl <| rM rfl rfl <| rs_gs rfl (lkb g1) rfl rfl <| rs_gs rfl (lkb g1) rfl rfl <| rs_gs rfl (lkb g1) rfl rfl <| rs_v (v_pick_t (lkb g1) rfl) rfl ?_
      refine rs_nil ?_
      exact q_cut [(0, _), (1, _), (4, _), (17, _)] ⟨rfl, rfl, rfl, rfl, trivial⟩ ⟨K, by rw [show ((!fit13 es) || (!fit4 W)) = (true) from by simp only [g1, Bool.true_or, Bool.false_or]]⟩
    · skip
      refine tr_reg <| rM rfl rfl <| rs_w (w_call (vs := [_]) ok_laws_zzFits13 rfl ⟨rfl, trivial⟩ (c_zzFits13 χ h (All h) _ es hE)) rfl ?_
      rintro _ h2 ⟨rfl, K2⟩
      have K := K.new0 K2; have Z2 := K2.1
      refine rs_v (v_not rfl) rfl <| rM rfl rfl <| rs_gv rfl (lkb g1) (v_move rfl) rfl ?_
      refine rs_gw rfl (lkb g1) (w_call (vs := [_]) ok_laws_zzFits4 rfl ⟨rfl, trivial⟩ (c_zzFits4 χ _ (All _) (all_low _) _ W (RSpans.kk hW K))) rfl ?_
      rintro _ h3 ⟨rfl, K3⟩
      have K := K.new0 K3; have Z3 := K3.1
      refine rs_gv rfl (lkb g1) (v_not rfl) rfl ?_
      refine rs_v (v_pick_f (lkb g1) rfl) rfl ?_
      refine rs_nil ?_
      exact q_cut [(0, _), (1, _), (4, _), (17, _)] ⟨rfl, rfl, rfl, rfl, trivial⟩ ⟨K, by rw [show ((!fit13 es) || (!fit4 W)) = (!fit4 W) from by simp only [g1, Bool.true_or, Bool.false_or]]⟩
  rintro E h99 ⟨K, rfl⟩
  refine tr_if rfl (fun hif => ?_) (fun hif => ?_)
  · -- yes
    skip
    refine rG <| rA rfl rfl <| rN <| tr_ret <| q_thn_ret <| q_ret (res_tmp rfl rfl) ?_
    exact ⟨rfl, K⟩
  -- no
  simp only [Bool.or_eq_false_iff, Bool.not_eq_false'] at hif
  obtain ⟨hf13, hf4⟩ := hif
  refine tr_skip <| q_thn <| tr_seq ?_
  refine tr_cut (fun E h' => Keep [] h h' ∧ E = [(0, .slice a es.length c), (1, .slice a1 W.length c1), (4, .bool false), (30, .bool ((decide ((40 : Int) < (es.length : Int))) || (!ptsB es) || (!(mostB W 20 && wellB W))))]) ?_ ?_
  ·
    rcases bsplit3 (decide ((40 : Int) < (es.length : Int))) (!ptsB es) with g1 | ⟨g1, g2⟩ | ⟨g1, g2⟩
    · skip
      refine tr_reg <| rM rfl rfl <| rs_v (v_len u_sl_spec_Entry rfl) rfl ?_
      refine rs_v (v_gt rfl rfl) rfl ?_
      refine rM rfl rfl <| rs_gs rfl (lkb g1) rfl rfl <| rs_gs rfl (lkb g1) rfl rfl <| rs_gs rfl (lkb g1) rfl rfl <| rs_v (v_pick_t (lkb g1) rfl) rfl ?_
      refine rM rfl rfl <| rs_gs rfl (rfl) rfl rfl <| rs_gs rfl (rfl) rfl rfl <| rs_gs rfl (rfl) rfl rfl <| rs_v (v_pick_t rfl rfl) rfl ?_
      refine rs_nil ?_
      exact q_cut [(0, _), (1, _), (4, _), (30, _)] ⟨rfl, rfl, rfl, rfl, trivial⟩ ⟨K, by rw [show ((decide ((40 : Int) < (es.length : Int))) || (!ptsB es) || (!(mostB W 20 && wellB W))) = (true) from by simp only [g1, Bool.true_or, Bool.false_or]]⟩
    · skip
      refine tr_reg <| rM rfl rfl <| rs_v (v_len u_sl_spec_Entry rfl) rfl ?_
      refine rs_v (v_gt rfl rfl) rfl ?_
      refine rM rfl rfl <| rs_gv rfl (lkb g1) (v_move rfl) rfl ?_
      refine rs_gw rfl (lkb g1) (w_call (vs := [_]) ok_spec_PointsWell rfl ⟨rfl, trivial⟩ (c_PointsWell χ _ _ (all_low _) _ es (REnts.kk hE K) hrg)) rfl ?_
      rintro _ h5 ⟨rfl, K5⟩
      have K := K.new0 K5; have Z5 := K5.1
      refine rs_gv rfl (lkb g1) (v_not rfl) rfl ?_
      refine rs_v (v_pick_f (lkb g1) rfl) rfl ?_
      refine rM rfl rfl <| rs_gs rfl (lkb g2) rfl rfl <| rs_gs rfl (lkb g2) rfl rfl <| rs_gs rfl (lkb g2) rfl rfl <| rs_v (v_pick_t (lkb g2) rfl) rfl ?_
      refine rs_nil ?_
      exact q_cut [(0, _), (1, _), (4, _), (30, _)] ⟨rfl, rfl, rfl, rfl, trivial⟩ ⟨K, by rw [show ((decide ((40 : Int) < (es.length : Int))) || (!ptsB es) || (!(mostB W 20 && wellB W))) = (true) from by simp only [g1, g2, Bool.true_or, Bool.false_or]]⟩
    · skip
      refine tr_reg <| rM rfl rfl <| rs_v (v_len u_sl_spec_Entry rfl) rfl ?_
      refine rs_v (v_gt rfl rfl) rfl ?_
      refine rM rfl rfl <| rs_gv rfl (lkb g1) (v_move rfl) rfl ?_
      refine rs_gw rfl (lkb g1) (w_call (vs := [_]) ok_spec_PointsWell rfl ⟨rfl, trivial⟩ (c_PointsWell χ _ _ (all_low _) _ es (REnts.kk hE K) hrg)) rfl ?_
      rintro _ h6 ⟨rfl, K6⟩
      have K := K.new0 K6; have Z6 := K6.1
      refine rs_gv rfl (lkb g1) (v_not rfl) rfl ?_
      refine rs_v (v_pick_f (lkb g1) rfl) rfl ?_
      refine rM rfl rfl <| rs_gv rfl (lkb g2) (v_move rfl) rfl ?_
      refine rs_gw rfl (lkb g2) (w_call (vs := [_, _]) ok_laws_spanWell rfl ⟨rfl, rfl, trivial⟩ (c_spanWell χ _ _ (all_low _) _ W 20 (RSpans.kk hW K))) rfl ?_
      rintro _ h7 ⟨rfl, K7⟩
      have K := K.new0 K7; have Z7 := K7.1
      refine rs_gv rfl (lkb g2) (v_not rfl) rfl ?_
      refine rs_v (v_pick_f (lkb g2) rfl) rfl ?_
      refine rs_nil ?_
      exact q_cut [(0, _), (1, _), (4, _), (30, _)] ⟨rfl, rfl, rfl, rfl, trivial⟩ ⟨K, by rw [show ((decide ((40 : Int) < (es.length : Int))) || (!ptsB es) || (!(mostB W 20 && wellB W))) = (!(mostB W 20 && wellB W)) from by simp only [g1, g2, Bool.true_or, Bool.false_or]]⟩
  rintro E h99 ⟨K, rfl⟩
  refine tr_if rfl (fun hif => ?_) (fun hif => ?_)
  · -- yes
    skip
    refine rG <| rA rfl rfl <| rN <| tr_ret <| q_thn_ret <| q_ret (res_tmp rfl rfl) ?_
    exact ⟨rfl, K⟩
  -- no
  simp only [Bool.or_eq_false_iff, Bool.not_eq_false', decide_eq_false_iff_not] at hif
  obtain ⟨⟨hl40, hpw⟩, hw⟩ := hif
  obtain ⟨hG, hl20⟩ := good_of (by decide) hf4 hw
  obtain ⟨hseqb, hch⟩ := Bool.and_eq_true_iff.1 hpw
  have hseq := seqlow_of hseqb hrg
  have hrise := rise_of hch
  have hNM : nM (es.map EntD.user) W = es.length + W.length := by unfold nM; rw [List.length_map]
  refine tr_skip <| q_thn <| rG <| rA rfl rfl <| rN <| tr_seq <| rG <| rM rfl rfl <| rs_w (w_call (vs := [_]) ok_laws_toEntries rfl ⟨rfl, trivial⟩ (c_toEntries (REnts.kk hE K) (by omega))) rfl ?_
  rintro hPv h9 ⟨hP, K9⟩
  have hP := REnts.mono hP (upN K9)
  obtain ⟨hPa, hPc, rfl⟩ := SlR.form2 hP
  have K := K.new0 K9; have Z9 := K9.1
  refine rM rfl rfl <| rs_w (w_call (vs := [_]) ok_laws_toSpans rfl ⟨rfl, trivial⟩ (c_toSpans χ _ _ (all_low _) _ W (RSpans.kk hW K) hG.n hG.few)) rfl ?_
  rintro hQv h10 ⟨hQ, K10⟩
  have hQ := RSpans.mono hQ (upA K10)
  obtain ⟨hQa, hQc, rfl⟩ := SlR.form2 hQ
  have hP := REnts.kk hP K10
  have K := K.new0 K10; have Z10 := K10.1
  refine rs_v (v_build0 (bld_impl_Bound_)) rfl ?_
  refine rs_v (v_build0 (bld_impl_Bound_)) rfl ?_
  refine rs_w (w_call (vs := [_]) ok_laws_spanForth rfl ⟨rfl, trivial⟩ (c_spanForth χ _ 70 (by decide))) rfl ?_
  rintro _ h11 ⟨⟨hF, hFa, hFc, rfl, hFz⟩, K11⟩
  have hF := RSteps.mono hF (upN K11)
  have hP := REnts.kk hP K11
  have hQ := RSpans.kk hQ K11
  have K := K.new0 K11; have Z11 := K11.1
  refine rs_w (w_call (vs := [_, _, _, _, _]) ok_impl_SpanInterleaved rfl ⟨rfl, rfl, rfl, rfl, rfl, trivial⟩ (c_implSpanInterleaved (all_low _) hP (by omega) (fit13_small hf13) hseq hrise hQ hG.small (good_wok hG hKR) (fun s hs => (hG.full s hs).2.1) hF (by rw [fwdS_len]; decide) (fwdS_mx 70))) rfl ?_
  rintro hgv h12 ⟨hg, K12⟩
  rw [walkK_no] at hg
  have hg := RPAnss.mono hg (upN K12)
  obtain ⟨hga, hgc, rfl⟩ := SlR.form2 hg
  have hGl : (walkM es W .nowhere (fwdS 70)).length = 71 := by rw [walkM_len, fwdS_len]
  obtain ⟨hG1, _⟩ := fwd_facts (es := es) (W := W) (n := 70) (by omega)
  obtain ⟨gb, go, rfl, hgA, hgR⟩ := pans_pos hg (by omega)
  have K := K.new0 K12; have Z12 := K12.1
  refine rs_v (v_len u_sl_impl_PointAnswer rfl) rfl ?_
  refine rM rfl rfl <| rN <| tr_block ?_
  refine tr_loop (fun m E h' => ∃ k, k ≤ (walkM es W .nowhere (fwdS 70)).length ∧ m = (walkM es W .nowhere (fwdS 70)).length - k ∧ E = [(0, .slice a es.length c), (1, .slice a1 W.length c1), (5, .int .i64 (cntP es W k : Int)), (38, .slice (some ⟨gb, go, none⟩) (walkM es W .nowhere (fwdS 70)).length hgc), (39, .int .i64 ((walkM es W .nowhere (fwdS 70)).length : Int)), (40, .int .i64 (k : Int))] ∧ Keep [] h h' ∧ Keep [] h12 h') (walkM es W .nowhere (fwdS 70)).length [(0, _), (1, _), (5, _), (38, _), (39, _), (40, _)] ⟨rfl, rfl, rfl, rfl, rfl, rfl, trivial⟩ ⟨0, Nat.zero_le _, rfl, by rw [show cntP es W 0 = 0 from by unfold cntP; rw [Nat.zero_min]; rfl]; rfl, K, Keep.refl _ _⟩ ?_
  rintro m E hL13 ⟨k, hk, rfl, rfl, K, KA⟩
  have hzA := KA.1
  refine rG <| rs_v (v_lt rfl rfl) rfl <| rN <| tr_seq ?_
  refine tr_ifn rfl (fun hif => ?_) (fun hif => ?_)
  · -- no
    simp only [dT, dF] at hif
    have hkk : k = (walkM es W .nowhere (fwdS 70)).length := by omega
    have hcA := cntP_all (k := k) hrise hG.ord (by omega)
    have gend : decide ((cntP es W k : Int) = (es.length : Int)) = true := by rw [hcA]; simp
    refine tr_exit <| q_thn_exit <| q_lp_exit <| q_blk_hit <| q_thn <| rG <| rM rfl rfl <| rM rfl rfl <| rs_v (v_len u_sl_spec_Entry rfl) rfl ?_
    refine rs_v (v_eq rfl rfl) rfl <| rM rfl rfl ?_
    refine rs_gw rfl (lkb gend) (w_call (vs := []) ok_laws_pointSome rfl trivial (c_pointSome)) rfl ?_
    rintro _ h14 ⟨rfl, K14⟩
    have KA := KA.newX K14 (fun x hx => .inr (by first | (simp at hx; done) | (simp at hx; omega)))
    have K := K.new0 K14; have Z14 := K14.1
    refine rs_v (v_pick_t (lkb gend) rfl) rfl ?_
    refine rA rfl rfl <| rN <| tr_ret <| q_ret (res_tmp rfl rfl) ?_
    exact ⟨rfl, K⟩
  -- yes
  simp only [dT, dF] at hif
  obtain ⟨x, hxk⟩ := ex_get (L := (walkM es W .nowhere (fwdS 70))) (k := k) (by omega)
  obtain ⟨kv, hc1, hkx⟩ := hgR k x hxk
  obtain ⟨ka, kc, rfl⟩ := hkx.form2
  have hcells := KA.cells (by simp) hc1
  refine tr_skip <| q_thn <| tr_seq <| tr_block <| rG <| rs_v (v_indexAddrN u_sl_impl_PointAnswer siz_impl_PointAnswer rfl rfl (by omega)) rfl ?_
  refine rs_v (v_loadAgg (vs := [_, _, _, _, _, _, _, _, _, _]) many_impl_PointAnswer rfl (by exact hcells)) rfl ?_
  refine rs_w (w_new zero_impl_PointAnswer) rfl ?_
  rintro _ h15 ⟨rfl, B15, K15, Z15⟩
  have KA := KA.newX K15 (fun x hx => .inr (by first | (simp at hx; done) | (simp at hx; omega)))
  have S15 := K.1; have K := K.new0 K15
  refine rs_w0 (w_put siz_impl_PointAnswer rfl rfl rfl rfl B15 rfl) ?_
  rintro _ h16 ⟨B16, K16⟩
  have KA := KA.newX K16 (fun x hx => .inr (by first | (simp at hx; done) | (simp at hx; omega)))
  have B15 := B16; have K := K.new1 K16 (by first | (right; omega) | (left; simp; done)); have Z16 := K16.1
  refine rN <| tr_seq <| rG <| rF fa_impl_PointAnswer_1 rfl rfl <| rs_v (v_load one_bool rfl (by exact B15.cell _ rfl)) rfl ?_
  refine rs_v (v_not rfl) rfl <| rN ?_
  refine tr_if rfl (fun hif => ?_) (fun hif => ?_)
  · -- yes
    have hno : x.ok = false := by simpa using hif
    have hge : nM (es.map EntD.user) W ≤ k := by
      rcases Nat.lt_or_ge k (nM (es.map EntD.user) W) with h9 | h9
      · have e9 := hG1 k h9
        rw [hxk] at e9
        rw [Option.some.inj e9] at hno; cases hno
      · exact h9
    refine tr_exit <| q_thn_exit <| q_blk_hit <| q_thn <| tr_reg <| rs_v (v_add rfl rfl (by omega) (by omega)) rfl ?_
    refine rM rfl rfl <| rs_nil ?_
    refine q_lp ((walkM es W .nowhere (fwdS 70)).length - (k + 1)) [(0, _), (1, _), (5, _), (38, _), (39, _), (40, _)] (by omega) ⟨rfl, rfl, rfl, rfl, rfl, rfl, trivial⟩ ⟨k + 1, by omega, rfl, by rw [cntP_end hge]; rfl, K, KA⟩
  -- no
  have hkN : k < nM (es.map EntD.user) W := by
    rcases Nat.lt_or_ge k (nM (es.map EntD.user) W) with h9 | h9
    · exact h9
    · rw [fwd_tail h9 hxk] at hif; cases hif
  have hxe : x = ansM es W (some (.pt k)) := by have e9 := hG1 k hkN; rw [hxk] at e9; exact Option.some.inj e9
  have hq1 : (covS W x.key.user).getD zeroSpan = x.sp := by rw [hxe]; rfl
  have hq2 : (covS W x.key.user).isSome = x.has := by rw [hxe]; rfl
  have hmkx : x.marker = stAt (es.map EntD.user) W k := by rw [hxe]; rfl
  have hkeyx : x.key = markE es W k := by rw [hxe]; rfl
  have hxf : few x.sp := by rw [hxe]; exact ansM_few hG.few _
  have hkl : x.key.user.size ≤ 9223372036854775807 := by rw [hkeyx]; exact mark_small (fit13_small hf13) hG.small hkN
  have g5 : (!(x.has == x.has)) = false := by simp
  refine tr_skip <| q_thn <| tr_seq ?_
  have nL : ∀ {ops : Array Oper} {L : Nat → Bool} (j k : Nat), (match ops[j]? with | some q => waits q k | none => false) = true → (∀ j q k, ops[j]? = some q → L j = true → waits q k = true → L k = true) → L k = false → L j = false := fun j k hq hc hk => by
    rename_i ops L
    cases hl : L j with
    | false => rfl
    | true =>
      cases ho : ops[j]? with
      | none => rw [ho] at hq; cases hq
      | some q => rw [ho] at hq; have := hc j q k ho hl hq; rw [hk] at this; cases this
  have yL : ∀ {ops : Array Oper} {L : Nat → Bool} (j k : Nat), (match ops[j]? with | some q => waits q k | none => false) = true → (∀ j q k, ops[j]? = some q → L j = true → waits q k = true → L k = true) → L j = true → L k = true := fun j k hq hc hk => by
    rename_i ops L
    cases ho : ops[j]? with
    | none => rw [ho] at hq; cases hq
    | some q => rw [ho] at hq; exact hc j q k ho hk hq
  have hbxl := B15.lt
  refine tr_inv (GiI h16 _ [(0, 48, .slice a1 W.length c1), (2, 50, (.pointer (some ⟨hL13.size, 0 + 3, none⟩))), (3, 51, (.pointer (some ⟨hL13.size, 0 + 3 + 0, none⟩))), (4, 52, .string x.key.user), (8, 55, .bool x.has), (11, 9, .bool x.has)] x W) (by kernel_rfl) (by kernel_rfl) rfl (fun g hg => ⟨hg, Keep.refl _ _, fun _ _ _ _ h => (by cases h), fun h => (by cases h), fun h => (by cases h), fun h => (by cases h)⟩) ⟨?_, ?_, ?_, ?_, ?_, ?_, ?_, ?_, ?_, ?_, ?_, ?_, trivial⟩ ?_
  · intro L g hx hLi hw hc I
    refine ⟨[(1, _)], look_cons (I.e0 _ _ rfl) (by simp), OpW.mono (v_move rfl).w ?_⟩
    rintro v h' ⟨rfl, rfl⟩
    exact I.pure rfl (fun j d' w' hm => by
      simp only [List.mem_cons, Prod.mk.injEq, List.not_mem_nil, or_false] at hm
      rcases hm with ⟨rfl, rfl, rfl⟩ | ⟨rfl, rfl, rfl⟩ | ⟨rfl, rfl, rfl⟩ | ⟨rfl, rfl, rfl⟩ | ⟨rfl, rfl, rfl⟩ | ⟨rfl, rfl, rfl⟩ <;> first | exact .inl ⟨rfl, rfl, rfl⟩ | exact .inr ⟨by decide, by decide⟩) (by decide) (by decide)
  · intro L g hx hLi hw hc I
    have l5 := nL 5 1 (by kernel_rfl) hc hLi
    refine ⟨[(48, _)], look_cons (I.p 0 48 (.slice a1 W.length c1) (by simp) (hw 0 (by kernel_rfl))) (by simp), OpW.mono (w_call (vs := [_]) ok_laws_toSpans rfl ⟨rfl, trivial⟩ (c_toSpans χ _ _ (all_low _) _ W (RSpans.kk hW (K.new0 I.kb)) hG.n hG.few)) ?_⟩
    rintro v h' ⟨hv, Kn⟩
    have J := I.keep Kn
    refine J.upd rfl (fun j d' w' hm => by
      simp only [List.mem_cons, Prod.mk.injEq, List.not_mem_nil, or_false] at hm
      rcases hm with ⟨rfl, rfl, rfl⟩ | ⟨rfl, rfl, rfl⟩ | ⟨rfl, rfl, rfl⟩ | ⟨rfl, rfl, rfl⟩ | ⟨rfl, rfl, rfl⟩ | ⟨rfl, rfl, rfl⟩ <;> first | exact .inl ⟨rfl, rfl, rfl⟩ | exact .inr ⟨by decide, by decide⟩) (fun _ => ⟨v, by simp [updG], fun _ => RSpans.mono hv (upA Kn)⟩) (fun h => ?_) ?_
    · simp [updL, l5] at h
    · simpa [updL, updG] using J.a9
  · intro L g hx hLi hw hc I
    refine ⟨[(7, _)], look_cons (I.e0 _ _ rfl) (by simp), OpW.mono (v_fieldAddr fa_impl_PointAnswer_3 rfl).w ?_⟩
    rintro v h' ⟨rfl, rfl⟩
    exact I.pure rfl (fun j d' w' hm => by
      simp only [List.mem_cons, Prod.mk.injEq, List.not_mem_nil, or_false] at hm
      rcases hm with ⟨rfl, rfl, rfl⟩ | ⟨rfl, rfl, rfl⟩ | ⟨rfl, rfl, rfl⟩ | ⟨rfl, rfl, rfl⟩ | ⟨rfl, rfl, rfl⟩ | ⟨rfl, rfl, rfl⟩ <;> first | exact .inl ⟨rfl, rfl, rfl⟩ | exact .inr ⟨by decide, by decide⟩) (by decide) (by decide)
  · intro L g hx hLi hw hc I
    refine ⟨[(50, _)], look_cons (I.p 2 50 (.pointer (some ⟨hL13.size, 0 + 3, none⟩)) (by simp) (hw 2 (by kernel_rfl))) (by simp), OpW.mono (v_fieldAddr fa_impl_Entry_0 rfl).w ?_⟩
    rintro v h' ⟨rfl, rfl⟩
    exact I.pure rfl (fun j d' w' hm => by
      simp only [List.mem_cons, Prod.mk.injEq, List.not_mem_nil, or_false] at hm
      rcases hm with ⟨rfl, rfl, rfl⟩ | ⟨rfl, rfl, rfl⟩ | ⟨rfl, rfl, rfl⟩ | ⟨rfl, rfl, rfl⟩ | ⟨rfl, rfl, rfl⟩ | ⟨rfl, rfl, rfl⟩ <;> first | exact .inl ⟨rfl, rfl, rfl⟩ | exact .inr ⟨by decide, by decide⟩) (by decide) (by decide)
  · intro L g hx hLi hw hc I
    refine ⟨[(51, _)], look_cons (I.p 3 51 (.pointer (some ⟨hL13.size, 0 + 3 + 0, none⟩)) (by simp) (hw 3 (by kernel_rfl))) (by simp), OpW.mono (v_load one_string rfl (Blk.cell (I.kb.blk (by simp) B15) _ rfl)).w ?_⟩
    rintro v h' ⟨rfl, rfl⟩
    exact I.pure rfl (fun j d' w' hm => by
      simp only [List.mem_cons, Prod.mk.injEq, List.not_mem_nil, or_false] at hm
      rcases hm with ⟨rfl, rfl, rfl⟩ | ⟨rfl, rfl, rfl⟩ | ⟨rfl, rfl, rfl⟩ | ⟨rfl, rfl, rfl⟩ | ⟨rfl, rfl, rfl⟩ | ⟨rfl, rfl, rfl⟩ <;> first | exact .inl ⟨rfl, rfl, rfl⟩ | exact .inr ⟨by decide, by decide⟩) (by decide) (by decide)
  · intro L g hx hLi hw hc I
    have l6 := nL 6 5 (by kernel_rfl) hc hLi
    have l7 := nL 7 6 (by kernel_rfl) hc l6
    have l10 := nL 10 5 (by kernel_rfl) hc hLi
    obtain ⟨u, hu, hsp⟩ := I.a1 (hw 1 (by kernel_rfl))
    refine ⟨[(49, u), (52, _)], look_cons hu (look_cons (I.p 4 52 (.string x.key.user) (by simp) (hw 4 (by kernel_rfl))) (by simp)), OpW.mono (w_call (vs := [_, _]) ok_impl_SpanGet rfl ⟨rfl, rfl, trivial⟩ (c_SpanGet (all_low _) (hsp l10) hG.small (good_wok hG hKR) hkl)) ?_⟩
    rintro v h' ⟨⟨a9, n9, c9, ev, hr⟩, Kn⟩
    rw [hq1, hq2] at ev
    rw [hq1] at hr
    have J := I.keep Kn
    have hr : RKeys (All h') h' (.slice a9 n9 c9) x.sp.ks := hr.mono (upN Kn)
    refine J.upd rfl (fun j d' w' hm => by
      simp only [List.mem_cons, Prod.mk.injEq, List.not_mem_nil, or_false] at hm
      rcases hm with ⟨rfl, rfl, rfl⟩ | ⟨rfl, rfl, rfl⟩ | ⟨rfl, rfl, rfl⟩ | ⟨rfl, rfl, rfl⟩ | ⟨rfl, rfl, rfl⟩ | ⟨rfl, rfl, rfl⟩ <;> first | exact .inl ⟨rfl, rfl, rfl⟩ | exact .inr ⟨by decide, by decide⟩) (by simpa [updL, updG] using J.a1) (fun _ => ⟨a9, n9, c9, by simp [updG, ev], by simp [updL, l6], by simp [updL, l7], ?_, by simp [updL, l10]⟩) (by simpa [updL, updG] using J.a9)
    cases l9 : L 9 with
    | false => exact hr.mono fun b hb => ⟨hb, fun b8 h8 => by simp [updL, l9] at h8⟩
    | true =>
      obtain ⟨b8, e8, _, _, hB⟩ := J.a9 l9
      exact (rk_ne3 hr (hB l10)).mono fun b hb => ⟨hb.1, fun b8' _ e => by
        simp only [updG] at e
        rw [if_neg (by decide), e8] at e
        simp at e
        rw [← e]; exact hb.2⟩
  · intro L g hx hLi hw hc I
    have l5 := hw 5 (by kernel_rfl)
    have l7 := nL 7 6 (by kernel_rfl) hc hLi
    have l10 := nL 10 7 (by kernel_rfl) hc l7
    obtain ⟨a9, n9, c9, e1, e2, e3, hr, hb⟩ := I.a5 l5
    refine ⟨[(53, _)], look_cons e1 (by simp), OpW.mono (v_move rfl).w ?_⟩
    rintro v h' ⟨rfl, rfl⟩
    exact I.upd rfl (fun j d' w' hm => by
      simp only [List.mem_cons, Prod.mk.injEq, List.not_mem_nil, or_false] at hm
      rcases hm with ⟨rfl, rfl, rfl⟩ | ⟨rfl, rfl, rfl⟩ | ⟨rfl, rfl, rfl⟩ | ⟨rfl, rfl, rfl⟩ | ⟨rfl, rfl, rfl⟩ | ⟨rfl, rfl, rfl⟩ <;> first | exact .inl ⟨rfl, rfl, rfl⟩ | exact .inr ⟨by decide, by decide⟩) (by simpa [updL, updG] using I.a1) (fun _ => ⟨a9, n9, c9, by simpa [updG] using e1, by simp [updG], by simp [updL, l7], by simpa [updL, updG] using hr, by simp [updL, l10]⟩) (by simpa [updL, updG] using I.a9)
  · intro L g hx hLi hw hc I
    have l6 := hw 6 (by kernel_rfl)
    have l5 := yL 6 5 (by kernel_rfl) hc l6
    have l10 := nL 10 7 (by kernel_rfl) hc hLi
    obtain ⟨a9, n9, c9, e1, e2, e3, hr, hb⟩ := I.a5 l5
    refine ⟨[(47, _)], look_cons (e2 l6) (by simp), OpW.mono (v_extract rfl rfl).w ?_⟩
    rintro v h' ⟨rfl, rfl⟩
    exact I.upd rfl (fun j d' w' hm => by
      simp only [List.mem_cons, Prod.mk.injEq, List.not_mem_nil, or_false] at hm
      rcases hm with ⟨rfl, rfl, rfl⟩ | ⟨rfl, rfl, rfl⟩ | ⟨rfl, rfl, rfl⟩ | ⟨rfl, rfl, rfl⟩ | ⟨rfl, rfl, rfl⟩ | ⟨rfl, rfl, rfl⟩ <;> first | exact .inl ⟨rfl, rfl, rfl⟩ | exact .inr ⟨by decide, by decide⟩) (by simpa [updL, updG] using I.a1) (fun _ => ⟨a9, n9, c9, by simpa [updG] using e1, fun _ => by simpa [updG] using e2 l6, by simp [updG], by simpa [updL, updG] using hr, by simp [updL, l10]⟩) (by simpa [updL, updG] using I.a9)
  · intro L g hx hLi hw hc I
    have l6 := hw 6 (by kernel_rfl)
    have l5 := yL 6 5 (by kernel_rfl) hc l6
    obtain ⟨a9, n9, c9, e1, e2, e3, hr, hb⟩ := I.a5 l5
    refine ⟨[(47, _)], look_cons (e2 l6) (by simp), OpW.mono (v_extract rfl rfl).w ?_⟩
    rintro v h' ⟨rfl, rfl⟩
    exact I.pure rfl (fun j d' w' hm => by
      simp only [List.mem_cons, Prod.mk.injEq, List.not_mem_nil, or_false] at hm
      rcases hm with ⟨rfl, rfl, rfl⟩ | ⟨rfl, rfl, rfl⟩ | ⟨rfl, rfl, rfl⟩ | ⟨rfl, rfl, rfl⟩ | ⟨rfl, rfl, rfl⟩ | ⟨rfl, rfl, rfl⟩ <;> first | exact .inl ⟨rfl, rfl, rfl⟩ | exact .inr ⟨by decide, by decide⟩) (by decide) (by decide)
  · intro L g hx hLi hw hc I
    have l10 := nL 10 9 (by kernel_rfl) hc hLi
    refine ⟨[], by simp, OpW.mono (w_new zero_impl_Span) ?_⟩
    rintro v h' ⟨rfl, Bn, Kn, Zn⟩
    have J := I.keep Kn
    refine J.upd rfl (fun j d' w' hm => by
      simp only [List.mem_cons, Prod.mk.injEq, List.not_mem_nil, or_false] at hm
      rcases hm with ⟨rfl, rfl, rfl⟩ | ⟨rfl, rfl, rfl⟩ | ⟨rfl, rfl, rfl⟩ | ⟨rfl, rfl, rfl⟩ | ⟨rfl, rfl, rfl⟩ | ⟨rfl, rfl, rfl⟩ <;> first | exact .inl ⟨rfl, rfl, rfl⟩ | exact .inr ⟨by decide, by decide⟩) (by simpa [updL, updG] using J.a1) (fun h5 => ?_) (fun _ => ⟨hx.size, by simp [updG], I.kb.1, by omega, fun _ => Bn⟩)
    obtain ⟨a9, n9, c9, e1, e2, e3, hr, hb⟩ := I.a5 (by simpa [updL] using h5)
    refine ⟨a9, n9, c9, by simpa [updG] using e1, by simpa [updL, updG] using e2, by simpa [updL, updG] using e3, ?_, by simp [updL, l10]⟩
    refine (hr.stab (Kn.stab fun b hb => ⟨hb.1, by simp⟩)).mono fun b hb => ⟨by have := hb.1; omega, fun b8 _ e => ?_⟩
    simp [updG] at e
    have := hb.1
    omega
  · intro L g hx hLi hw hc I
    have l9 := hw 9 (by kernel_rfl)
    have l7 := hw 7 (by kernel_rfl)
    have l5 := hw 5 (by kernel_rfl)
    obtain ⟨a9, n9, c9, e1, e2, e3, hr, hb⟩ := I.a5 l5
    obtain ⟨b8, e8, h8, h8l, hB⟩ := I.a9 l9
    refine ⟨[(8, _), (54, _)], look_cons e8 (look_cons (e3 l7) (by simp)), OpW.mono (w_put siz_impl_Span rfl rfl rfl rfl (hB hLi) rfl) ?_⟩
    rintro v h' ⟨Bw, Kn⟩
    refine ⟨I.e0, I.kb.new1 Kn (.inr h8), fun j d' w' hj hl => I.p j d' w' hj (by
      simp only [updL] at hl
      split at hl
      · rename_i e9
        subst e9
        simp at hj
      · exact hl), fun h1 => ?_, fun _ => ⟨a9, n9, c9, e1, by simpa [updL, updG] using e2, by simpa [updL, updG] using e3, ?_, fun _ => ⟨b8, e8, Bw⟩⟩, fun _ => ⟨b8, e8, h8, Nat.lt_of_lt_of_le h8l Kn.1, fun h10 => by simp [updL] at h10⟩⟩
    · obtain ⟨u, hu, _⟩ := I.a1 (by simpa [updL] using h1)
      exact ⟨u, hu, fun h10 => by simp [updL] at h10⟩
    · refine (hr.stab (Kn.stab fun b hb => ⟨hb.1, by simpa using hb.2 b8 l9 e8⟩)).mono fun b hb => ⟨Nat.lt_of_lt_of_le hb.1 Kn.1, fun b8' _ e => ?_⟩
      exact hb.2 b8' l9 e
  · intro L g hx hLi hw hc I
    refine ⟨[(55, _)], look_cons (I.p 8 55 (.bool x.has) (by simp) (hw 8 (by kernel_rfl))) (by simp), OpW.mono (v_assign rfl).w ?_⟩
    rintro v h' ⟨rfl, rfl⟩
    exact I.pure rfl (fun j d' w' hm => by
      simp only [List.mem_cons, Prod.mk.injEq, List.not_mem_nil, or_false] at hm
      rcases hm with ⟨rfl, rfl, rfl⟩ | ⟨rfl, rfl, rfl⟩ | ⟨rfl, rfl, rfl⟩ | ⟨rfl, rfl, rfl⟩ | ⟨rfl, rfl, rfl⟩ | ⟨rfl, rfl, rfl⟩ <;> first | exact .inl ⟨rfl, rfl, rfl⟩ | exact .inr ⟨by decide, by decide⟩) (by decide) (by decide)
  intro Lf gf h17 hL I
  obtain ⟨ga, gn, gc, _, _, _, hgk, hb10⟩ := I.a5 (hL 5 (by decide))
  obtain ⟨b8, g8, B8w⟩ := hb10 (hL 10 (by decide))
  have g9 := I.p 11 9 (.bool x.has) (by simp) (hL 11 (by decide))
  have hlo8 : Low (fun b => b < h17.size ∧ ∀ b8 : Nat, Lf 9 = true → gf 8 = some (.pointer (some ⟨b8, 0, none⟩)) → b ≠ b8) h17 := fun b hb => hb.1
  have K17 := I.kb
  refine ⟨_, look_cons g9 (look_cons g8 I.e0), ?_⟩
  have B15 := K17.blk (by simp) B15
  have KA := KA.newX K17 (fun x hx => .inr (by first | (simp at hx; done) | (simp at hx; omega)))
  have K := K.new0 K17; have Z17 := K17.1
  refine q_thn <| tr_seq ?_
  refine tr_cut (fun E h' => E = [(0, .slice a es.length c), (1, .slice a1 W.length c1), (5, .int .i64 (cntP es W k : Int)), (7, .pointer (some ⟨hL13.size, 0, none⟩)), (38, .slice (some ⟨gb, go, none⟩) (walkM es W .nowhere (fwdS 70)).length hgc), (39, .int .i64 ((walkM es W .nowhere (fwdS 70)).length : Int)), (40, .int .i64 (k : Int)), (71, .bool false)] ∧ Keep [] h h' ∧ Keep [] h12 h' ∧ Blk h' hL13.size [.bool x.done, .bool x.ok, .bool x.marker, .string x.key.user, .int .u64 x.key.tr, .string x.key.val, .bool x.has, .string x.sp.s, .string x.sp.e, .slice ka x.sp.ks.length kc] 52) ?_ ?_
  ·
    rcases Bool.eq_false_or_eq_true x.has with g6 | g6
    · skip
      refine tr_any (Keep []) (keep_pre _) (by kernel_rfl) (by kernel_rfl) ?_
      refine rm_v (keep_pre _) (fun h' hk => v_move rfl) ?_
      refine rm_v (keep_pre _) (fun h' hk => v_fieldAddr fa_impl_PointAnswer_4 rfl) ?_
      refine rm_v (keep_pre _) (fun h' hk => v_load one_bool rfl (Blk.cell (hk.blk (by simp) B15) _ rfl)) ?_
      refine rm_v (keep_pre _) (fun h' hk => v_bne u_bool rfl rfl) ?_
      refine rm_v (keep_pre _) (fun h' hk => v_move rfl) ?_
      refine rm_gv (keep_pre _) rfl (lkm g5) (fun h' hk => v_move rfl) ?_
      refine rm_gv (keep_pre _) rfl (lkm g5) (fun h' hk => v_move rfl) ?_
      refine rm_gv (keep_pre _) rfl (lkm g6) (fun h' hk => v_loadAgg (vs := [_, _, _]) many_impl_Span rfl (Blk.sub (hk.blk (by simp) B8w) 0 3 rfl)) ?_
      refine rm_mk (.loose (fun v h' => ∃ kv', v = .agg #[.string x.sp.s, .string x.sp.e, kv'] ∧ RKeys (All h') h' kv' x.sp.ks)) (fun v _ _ k1 k2 hr => by obtain ⟨kv', e, hr⟩ := hr; exact ⟨kv', e, rk_kk hr k2⟩) (fun h' hk => om_gt (by simp) rfl rfl (lkm g6) (OpW.mono (w_call (vs := [_]) ok_laws_ofSpan rfl ⟨rfl, trivial⟩ (c_ofSpan χ h' _ (hlo8.mono hk.1) x.sp _ (hgk.stab (hk.st hlo8)) hxf)) (fun v h'' hv => ⟨hv.2, by obtain ⟨kv', e, hr⟩ := hv.1; exact ⟨kv', e, hr.mono fun b hb => hb.elim (fun e => Nat.lt_of_lt_of_le (hlo8.mono hk.1 b e) hv.2.1) (fun e => e.2)⟩⟩))) ?_
      refine rm_gv (keep_pre _) rfl (lkm g6) (fun h' hk => v_fieldAddr fa_impl_PointAnswer_5 rfl) ?_
      refine rm_gv (keep_pre _) rfl (lkm g6) (fun h' hk => v_loadAgg (vs := [_, _, _]) many_impl_Span rfl (Blk.sub (hk.blk (by simp) B15) 7 3 rfl)) ?_
      refine rm_mk (.loose (fun v h' => ∃ kv', v = .agg #[.string x.sp.s, .string x.sp.e, kv'] ∧ RKeys (All h') h' kv' x.sp.ks)) (fun v _ _ k1 k2 hr => by obtain ⟨kv', e, hr⟩ := hr; exact ⟨kv', e, rk_kk hr k2⟩) (fun h' hk => om_gt (by simp) rfl rfl (lkm g6) (OpW.mono (w_call (vs := [_]) ok_laws_ofSpan rfl ⟨rfl, trivial⟩ (c_ofSpan χ h' _ ((all_low h12).mono (KA.new0 hk).1) x.sp _ (hkx.stab ((KA.new0 hk).st (all_low _))) hxf)) (fun v h'' hv => ⟨hv.2, by obtain ⟨kv', e, hr⟩ := hv.1; exact ⟨kv', e, hr.mono fun b hb => hb.elim (fun e => Nat.lt_of_lt_of_le (((all_low h12).mono (KA.new0 hk).1) b e) hv.2.1) (fun e => e.2)⟩⟩))) ?_
      refine rm_mk (.val (.bool true)) (fun _ _ _ _ _ h => h) (fun h' hk => om_open 64 rfl (by kernel_rfl) fun u hu => om_open 67 rfl (by kernel_rfl) fun u2 hu2 => by
        obtain ⟨k1, rfl, hr1⟩ := hu
        obtain ⟨k2, rfl, hr2⟩ := hu2
        exact om_gt (by simp) rfl rfl (lkm g6) (OpW.mono (w_call (vs := [_, _]) ok_laws_sameSpan rfl ⟨rfl, rfl, trivial⟩ (c_sameSpan χ h' _ _ (all_low _) (all_low _) x.sp _ _ hr1 hr2)) (fun v h'' hv => ⟨hv.2, hv.1⟩))) ?_
      refine rm_gv (keep_pre _) rfl (lkm g6) (fun h' hk => v_not rfl) ?_
      refine rm_gv (keep_pre _) rfl (lkm g5) (fun h' hk => v_pick_t (lkb g6) rfl) ?_
      refine rm_v (keep_pre _) (fun h' hk => v_pick_f (lkb g5) rfl) ?_
      refine rm_end ?_; intro hd Kd; simp only [endM, hypF, ofE, argE, List.nil_append]
      intro v67 _ v64 _
      have B15 := Kd.blk (by simp) B15
      have K := K.new0 Kd; have KA := KA.new0 Kd
      exact q_cut [(0, _), (1, _), (5, _), (7, _), (38, _), (39, _), (40, _), (71, _)] ⟨rfl, rfl, rfl, rfl, rfl, rfl, rfl, rfl, trivial⟩ ⟨rfl, K, KA, B15⟩
    · skip
      refine tr_any (Keep []) (keep_pre _) (by kernel_rfl) (by kernel_rfl) ?_
      refine rm_v (keep_pre _) (fun h' hk => v_move rfl) ?_
      refine rm_v (keep_pre _) (fun h' hk => v_fieldAddr fa_impl_PointAnswer_4 rfl) ?_
      refine rm_v (keep_pre _) (fun h' hk => v_load one_bool rfl (Blk.cell (hk.blk (by simp) B15) _ rfl)) ?_
      refine rm_v (keep_pre _) (fun h' hk => v_bne u_bool rfl rfl) ?_
      refine rm_v (keep_pre _) (fun h' hk => v_move rfl) ?_
      refine rm_gv (keep_pre _) rfl (lkm g5) (fun h' hk => v_move rfl) ?_
      refine rm_gv (keep_pre _) rfl (lkm g5) (fun h' hk => v_move rfl) ?_
      refine rm_gs (keep_pre _) rfl (lkm g6) rfl ?_
      refine rm_gs (keep_pre _) rfl (lkm g6) rfl ?_
      refine rm_gs (keep_pre _) rfl (lkm g6) rfl ?_
      refine rm_gs (keep_pre _) rfl (lkm g6) rfl ?_
      refine rm_gs (keep_pre _) rfl (lkm g6) rfl ?_
      refine rm_gs (keep_pre _) rfl (lkm g6) rfl ?_
      refine rm_gs (keep_pre _) rfl (lkm g6) rfl ?_
      refine rm_gv (keep_pre _) rfl (lkm g5) (fun h' hk => v_pick_f (lkb g6) rfl) ?_
      refine rm_v (keep_pre _) (fun h' hk => v_pick_f (lkb g5) rfl) ?_
      refine rm_end ?_; intro hd Kd; simp only [endM, hypF, ofE, argE, List.nil_append]
      have B15 := Kd.blk (by simp) B15
      have K := K.new0 Kd; have KA := KA.new0 Kd
      exact q_cut [(0, _), (1, _), (5, _), (7, _), (38, _), (39, _), (40, _), (71, _)] ⟨rfl, rfl, rfl, rfl, rfl, rfl, rfl, rfl, trivial⟩ ⟨rfl, K, KA, B15⟩
  rintro E h99 ⟨rfl, K, KA, B15⟩
  refine tr_if_f rfl ?_
  refine tr_skip <| q_thn <| rG <| rF fa_impl_PointAnswer_2 rfl rfl <| rs_v (v_load one_bool rfl (by exact B15.cell _ rfl)) rfl ?_
  refine rs_v (v_not rfl) rfl <| rN ?_
  refine tr_if rfl (fun hif => ?_) (fun hif => ?_)
  · -- yes
    have hsk0 : stAt (es.map EntD.user) W k = false := by rw [← hmkx]; simpa using hif
    obtain ⟨hcn, e0, he0, hme⟩ := cntP_pt hkN hsk0
    have hx0 : x.key = e0 := by rw [hkeyx]; exact hme
    have hcl := (List.getElem?_eq_some_iff.1 he0).1
    obtain ⟨_, _, _, ee, hxE⟩ := hE
    injection ee with ee1 ee2 ee3
    subst ee1
    obtain ⟨eb, eo, rfl, _, hce⟩ := hxE _ e0 he0
    have hce : CellsAt _ eb (eo + cntP es W k * 3) e0.cells := K.cells (by simp) hce
    rw [← hx0] at hce
    have g7 : decide ((cntP es W k : Int) = (es.length : Int)) = false := by rw [decide_eq_false_iff_not]; omega
    refine tr_seq <| tr_seq ?_
    refine tr_quiet (by kernel_rfl) (by kernel_rfl) ?_
    refine rq_v (v_move rfl) <| rq_v (v_move rfl) <| rq_v (v_len u_sl_spec_Entry rfl) ?_
    refine rq_v (v_eq rfl rfl) ?_
    refine rq_v (v_move rfl) <| rq_gv rfl (lkm g7) (v_fieldAddr fa_impl_PointAnswer_3 rfl) ?_
    refine rq_gv rfl (lkm g7) (v_loadAgg (vs := [_, _, _]) many_impl_Entry rfl (by exact B15.sub _ 3 rfl)) ?_
    refine rq_gv rfl (lkm g7) (v_move rfl) <| rq_gv rfl (lkm g7) (v_move rfl) ?_
    refine rq_gv rfl (lkm g7) (v_indexAddrN u_sl_spec_Entry siz_spec_Entry rfl rfl (by omega)) ?_
    refine rq_gv rfl (lkm g7) (v_loadAgg (vs := [_, _, _]) many_spec_Entry rfl (by exact hce)) ?_
    refine rq_gv rfl (lkm g7) (v_aggne (by kernel_rfl) rfl rfl (eqEntB x.key)) ?_
    refine rq_v (v_pick_f (lkb g7) rfl) ?_
    refine rm_end ?_; simp only [endM, hypF, ofE, argE]
    refine q_thn <| tr_if_f rfl ?_
    refine tr_skip <| q_thn <| tr_reg <| rM rfl rfl <| rs_v (v_add rfl rfl (by omega) (by omega)) rfl ?_
    refine rA rfl rfl <| rs_nil <| q_blk_n <| q_thn <| tr_reg <| rs_v (v_add rfl rfl (by omega) (by omega)) rfl ?_
    refine rM rfl rfl <| rs_nil ?_
    refine q_lp ((walkM es W .nowhere (fwdS 70)).length - (k + 1)) [(0, _), (1, _), (5, _), (38, _), (39, _), (40, _)] (by omega) ⟨rfl, rfl, rfl, rfl, rfl, rfl, trivial⟩ ⟨k + 1, by omega, rfl, by rw [hcn]; rfl, K, KA⟩
  -- no
  skip
  refine tr_skip <| q_blk_n <| q_thn <| tr_reg <| rs_v (v_add rfl rfl (by omega) (by omega)) rfl ?_
  refine rM rfl rfl <| rs_nil ?_
  refine q_lp ((walkM es W .nowhere (fwdS 70)).length - (k + 1)) [(0, _), (1, _), (5, _), (38, _), (39, _), (40, _)] (by omega) ⟨rfl, rfl, rfl, rfl, rfl, rfl, trivial⟩ ⟨k + 1, by omega, rfl, by rw [cntP_st hkN (by rw [← hmkx]; simpa using hif)]; rfl, K, KA⟩
end Go.Proofs.YtblhkgldhcbmeaaGreat
