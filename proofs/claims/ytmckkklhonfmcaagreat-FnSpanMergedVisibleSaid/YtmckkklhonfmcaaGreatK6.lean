/- Texts W135 to W135, as far as the statement reaches them, laid together by a program of ours. Conditions: those that each theorem names. -/
import Derived.Test.YtmckkklhonfmcaaGreatK5
set_option linter.unusedVariables false
set_option linter.unusedSimpArgs false
set_option linter.unusedSectionVars false
namespace Go.Proofs.YtmckkklhonfmcaaGreat
open Go.Tess Go.RowKit
set_option maxRecDepth 100000
set_option maxHeartbeats 2000000
theorem c_FnSpanMergedVisible (χ : Chi) (h : Heap) (A : Nat → Prop) (hA : Low A h) (v : Value) (ws : List (List SpanD)) (snap : Nat) (hrg : ∀ W, W ∈ ws → KRng W) (hW : RLevels A h v ws) :
    Cl Tryz.prog χ 9 #[v, .int .u64 (snap : Int)] h (fun r h' => r = .bool true ∧ Keep [] h h') := by
  have hW := RLevels.mono hW hA
  have hW9 := hW
  obtain ⟨hlen, a, c, rfl, hx⟩ := hW9.form
  refine cl_intro Tryz.func9 rfl rfl rfl ?_
  have K : Keep [] h h := Keep.refl _ _
  refine rG <| rA rfl rfl <| rN ?_
  refine tr_seq ?_
  refine rG <| rM rfl rfl <| rs_w (w_call (vs := [_]) ok_laws_zzFits3 rfl ⟨rfl, trivial⟩ (c_zzFits3 χ h (All h) (all_low h) _ ws hW)) rfl ?_
  rintro _ h1 ⟨rfl, K1⟩
  have K := K.new0 K1; have Z1 := K1.1
  refine rs_v (v_not rfl) rfl ?_
  refine rN ?_
  refine tr_if rfl (fun hif => ?_) (fun hif => ?_)
  · -- yes
    skip
    refine rG <| rA rfl rfl <| rN <| tr_ret <| q_thn_ret <| q_ret (res_tmp rfl rfl) ?_
    exact ⟨rfl, K⟩
  -- no
  have hf3 : fit3 ws = true := by simpa using hif
  refine tr_skip ?_
  refine q_thn ?_
  refine tr_seq ?_
  refine tr_cut (fun E h' => Keep [] h h' ∧ E = [(0, .slice a ws.length c), (1, .int .u64 (snap : Int)), (4, .bool false), (26, .bool ((!levB ws 8) || (decide ((ws.length : Int) = 0)) || (decide ((((ws[0]?).getD []).length : Int) = 0))))]) ?_ ?_
  ·
    rcases bsplit3 (!levB ws 8) (decide ((ws.length : Int) = 0)) with g1 | ⟨g1, g2⟩ | ⟨g1, g2⟩
    · skip
      refine tr_reg ?_
      refine rM rfl rfl <| rs_w (w_call (vs := [_, _]) ok_laws_spanLevels rfl ⟨rfl, rfl, trivial⟩ (c_spanLevels χ _ _ (all_low _) _ ws 8 (RLevels.kk hW K))) rfl ?_
      rintro _ h2 ⟨rfl, K2⟩
      have K := K.new0 K2; have Z2 := K2.1
      refine rs_v (v_not rfl) rfl ?_
      refine rM rfl rfl <| rs_gs rfl (lkb g1) rfl rfl <| rs_gs rfl (lkb g1) rfl rfl <| rs_gs rfl (lkb g1) rfl rfl <| rs_v (v_pick_t (lkb g1) rfl) rfl ?_
      refine rM rfl rfl <| rs_gs rfl (rfl) rfl rfl <| rs_gs rfl (rfl) rfl rfl <| rs_gs rfl (rfl) rfl rfl <| rs_gs rfl (rfl) rfl rfl <| rs_gs rfl (rfl) rfl rfl <| rs_v (v_pick_t rfl rfl) rfl ?_
      refine rs_nil ?_
      exact q_cut [(0, _), (1, _), (4, _), (26, _)] ⟨rfl, rfl, rfl, rfl, trivial⟩ ⟨K, by rw [show ((!levB ws 8) || (decide ((ws.length : Int) = 0)) || (decide ((((ws[0]?).getD []).length : Int) = 0))) = (true) from by simp only [g1, Bool.true_or, Bool.false_or]]⟩
    · skip
      refine tr_reg ?_
      refine rM rfl rfl <| rs_w (w_call (vs := [_, _]) ok_laws_spanLevels rfl ⟨rfl, rfl, trivial⟩ (c_spanLevels χ _ _ (all_low _) _ ws 8 (RLevels.kk hW K))) rfl ?_
      rintro _ h3 ⟨rfl, K3⟩
      have K := K.new0 K3; have Z3 := K3.1
      refine rs_v (v_not rfl) rfl ?_
      refine rM rfl rfl <| rs_gv rfl (lkb g1) (v_move rfl) rfl <| rs_gv rfl (lkb g1) (v_len u_sl_sl_spec_Span rfl) rfl ?_
      refine rs_gv rfl (lkb g1) (v_eq rfl rfl) rfl ?_
      refine rs_v (v_pick_f (lkb g1) rfl) rfl ?_
      refine rM rfl rfl <| rs_gs rfl (lkb g2) rfl rfl <| rs_gs rfl (lkb g2) rfl rfl <| rs_gs rfl (lkb g2) rfl rfl <| rs_gs rfl (lkb g2) rfl rfl <| rs_gs rfl (lkb g2) rfl rfl <| rs_v (v_pick_t (lkb g2) rfl) rfl ?_
      refine rs_nil ?_
      exact q_cut [(0, _), (1, _), (4, _), (26, _)] ⟨rfl, rfl, rfl, rfl, trivial⟩ ⟨K, by rw [show ((!levB ws 8) || (decide ((ws.length : Int) = 0)) || (decide ((((ws[0]?).getD []).length : Int) = 0))) = (true) from by simp only [g1, g2, Bool.true_or, Bool.false_or]]⟩
    · have hz1 : ¬ (ws.length : Int) = 0 := of_decide_eq_false g2
      rcases hx with rfl | ⟨b0, o0, rfl, hAb, hR⟩
      · simp at hz1
      obtain ⟨W0, hW0⟩ := ex_get (L := ws) (k := 0) (by omega)
      obtain ⟨kv0, hc0, hk0⟩ := hR 0 W0 hW0
      obtain ⟨a0, c0, rfl⟩ := SlR.form2 hk0
      have e0 : (ws[0]?).getD [] = W0 := by rw [hW0]; rfl
      refine tr_reg ?_
      refine rM rfl rfl <| rs_w (w_call (vs := [_, _]) ok_laws_spanLevels rfl ⟨rfl, rfl, trivial⟩ (c_spanLevels χ _ _ (all_low _) _ ws 8 (RLevels.kk hW K))) rfl ?_
      rintro _ h4 ⟨rfl, K4⟩
      have K := K.new0 K4; have Z4 := K4.1
      refine rs_v (v_not rfl) rfl ?_
      refine rM rfl rfl <| rs_gv rfl (lkb g1) (v_move rfl) rfl <| rs_gv rfl (lkb g1) (v_len u_sl_sl_spec_Span rfl) rfl ?_
      refine rs_gv rfl (lkb g1) (v_eq rfl rfl) rfl ?_
      refine rs_v (v_pick_f (lkb g1) rfl) rfl ?_
      refine rM rfl rfl <| rs_gv rfl (lkb g2) (v_move rfl) rfl <| rs_gv rfl (lkb g2) (v_indexAddrE (i := 0) u_sl_sl_spec_Span siz_sl_spec_Span rfl rfl rfl (by omega)) rfl ?_
      refine rs_gv rfl (lkb g2) (v_load one_sl_spec_Span rfl (by exact K.cells (by simp) hc0 0 _ rfl)) rfl ?_
      refine rs_gv rfl (lkb g2) (v_len u_sl_spec_Span rfl) rfl ?_
      refine rs_gv rfl (lkb g2) (v_eq rfl rfl) rfl ?_
      refine rs_v (v_pick_f (lkb g2) rfl) rfl ?_
      refine rs_nil ?_
      exact q_cut [(0, _), (1, _), (4, _), (26, _)] ⟨rfl, rfl, rfl, rfl, trivial⟩ ⟨K, by rw [show ((!levB ws 8) || (decide ((ws.length : Int) = 0)) || (decide ((((ws[0]?).getD []).length : Int) = 0))) = (decide ((((ws[0]?).getD []).length : Int) = 0)) from by simp only [g1, g2, Bool.true_or, Bool.false_or], e0]⟩
  rintro E h99 ⟨K, rfl⟩
  refine tr_if rfl (fun hif => ?_) (fun hif => ?_)
  · -- yes
    skip
    refine rG <| rA rfl rfl <| rN <| tr_ret <| q_thn_ret <| q_ret (res_tmp rfl rfl) ?_
    exact ⟨rfl, K⟩
  -- no
  simp only [Bool.or_eq_false_iff, Bool.not_eq_false', decide_eq_false_iff_not] at hif
  obtain ⟨⟨hw, hz1⟩, hz2⟩ := hif
  obtain ⟨hG, hws6, hW8⟩ := lev_good hf3 (by decide) hw
  have hn10 : ws.length ≤ 10 := by omega
  have hfl : ws.flatten.length ≤ 50 := by have := flat_le (n := 8) ws (fun W hW => by have := hW8 W hW; omega); omega
  have hbl := bnd_small hf3
  have hBn := bnds_of (fun W hW => (hG W hW).ord)
  have hwok := fun W hW => good_wok (hG W hW) (hrg W hW)
  obtain ⟨W0, s0, r0, hW0m, hW0e⟩ := lev_first (ws := ws) (by omega) (by omega)
  subst hW0e
  refine tr_skip ?_
  refine q_thn ?_
  refine rG <| rA rfl rfl <| rN <| rG <| rM rfl rfl <| rs_w (w_call (vs := [_]) ok_laws_toLevels rfl ⟨rfl, trivial⟩ (c_toLevels χ _ _ (all_low _) _ ws (RLevels.kk hW K) (by omega) (fun W hW => (hG W hW).n) (fun W hW => (hG W hW).few))) rfl ?_
  rintro hPv h6 ⟨hP, K6⟩
  have hP := RLevels.mono hP (upA K6)
  obtain ⟨hPa, hPc, rfl⟩ := SlR.form2 hP
  have K := K.new0 K6; have Z6 := K6.1
  refine rs_w (w_call (vs := [_]) ok_laws_spanForth rfl ⟨rfl, trivial⟩ (c_spanForth χ _ 100 (by decide))) rfl ?_
  rintro _ h7 ⟨⟨q1, q1a, q1c, rfl, q1z⟩, K7⟩
  have q1 := RSteps.mono q1 (upN K7)
  have hP := RLevels.kk hP K7
  have K := K.new0 K7; have Z7 := K7.1
  refine rs_w (w_call (vs := [_, _, _]) ok_impl_SpanMerged rfl ⟨rfl, rfl, rfl, trivial⟩ (c_implSpanMerged χ _ _ (all_low _) _ _ ws 72057594037927935 (fwdS 100) (bndF ws.flatten) hP hn10 hwok (fun W hW => (hG W hW).small) hBn hbl q1 (by rw [fwdS_len]; decide) (fwdS_small 100))) rfl ?_
  rintro g1v h8 ⟨⟨va, vaw, vak, g1⟩, K8⟩
  have g1 := RAnss.mono g1 (upN K8)
  obtain ⟨g1a, g1c, rfl⟩ := SlR.form2 g1
  have hP := RLevels.kk hP K8
  have q1 := RSteps.kk q1 K8
  have K := K.new0 K8; have Z8 := K8.1
  refine rs_w (w_call (vs := [_]) ok_laws_spanList rfl ⟨rfl, trivial⟩ (c_spanList χ _ _ (all_low _) _ _ g1 (by rw [walkP_len, fwdS_len]; decide))) rfl ?_
  rintro l1v h9 ⟨l1, K9⟩
  rw [listOf_fwd _ 100 (mrg_len vaw hfl)] at l1
  have l1 := RSpans.mono l1 (upA K9)
  have f1 := (mrg_facts hG hrg hn10 hfl vaw vak).1
  have f2 := mrg_rng hG hrg hn10 vaw vak
  have f3 : ∀ s, s ∈ mrgW va 72057594037927935 (bndF ws.flatten) → few s := mrg_few vaw vak hG hn10
  have f4 : (mrgW va 72057594037927935 (bndF ws.flatten)).length ≤ 100000 := mrg_n vaw hfl
  have f5 := mrg_pos (snap := 72057594037927935) vaw hBn hW0m
  have f6 := mrg_vis (n := snap) (B := bndF ws.flatten) vaw vak hrg
  generalize hGe : mrgW va 72057594037927935 (bndF ws.flatten) = G at l1 f1 f2 f3 f4 f5 f6 ⊢
  have g0 : decide ((0 : Int) < (G.length : Int)) = true := decide_eq_true (by omega)
  obtain ⟨hgl1, l1a, l1c, rfl, hx1⟩ := SlR.form l1
  have hEz := Nat.le_trans K.1 K9.1
  have hP := RLevels.kk hP K9
  have q1 := RSteps.kk q1 K9
  have g1 := RAnss.kk g1 K9
  have K := K.new0 K9; have Z9 := K9.1
  refine rA rfl rfl <| rN ?_
  refine tr_seq ?_
  refine rG <| rM rfl rfl <| rs_v (v_len u_sl_impl_Span rfl) rfl ?_
  refine rM rfl rfl <| rN <| tr_block ?_
  refine tr_loop (fun m E h' => ∃ k v n, k ≤ G.length ∧ m = G.length - k ∧ E = [(0, .slice a ws.length c), (1, .int .u64 (snap : Int)), (5, v), (6, .slice l1a G.length l1c), (32, .slice l1a G.length l1c), (33, .int .i64 (G.length : Int)), (34, .int .i64 (k : Int))] ∧ Keep [] h h' ∧ Keep [] h9 h' ∧ n = ((G.take k).map (visSp snap)).length ∧ OutR (All h9) h9 h' h9.size 64 3 cSpan v n ((G.take k).map (visSp snap))) G.length [(0, _), (1, _), (5, _), (6, _), (32, _), (33, _), (34, _)] ⟨rfl, rfl, rfl, rfl, rfl, rfl, rfl, trivial⟩ ⟨0, _, 0, Nat.zero_le _, rfl, rfl, K, Keep.refl _ _, rfl, OutR.nil _ _ _ _ _ _ _⟩ ?_
  rintro m E hL10 ⟨k, v, n, hk, rfl, rfl, K, KE, hn, hout⟩
  have hout0 := hout
  obtain ⟨xs, F, O, hrow, hF⟩ := hout
  have hob := own_ne O; have KL := Keep.refl [] hL10
  refine rG <| rs_v (v_lt rfl rfl) rfl ?_
  refine rN ?_
  refine tr_seq ?_
  refine tr_ifn rfl (fun hif => ?_) (fun hif => ?_)
  · -- no
    simp only [dT, dF] at hif
    have hkk : k = G.length := by omega
    subst hkk
    rw [List.take_length] at hout0 hn
    have hO : RSpans (All _) _ v (G.map (visSp snap)) := RSpans.mono (hout0.fin cSpan_st hn (Nat.le_refl _) cSpan_r) ((all_low _).up KE.1)
    obtain ⟨hOa, hOc, rfl⟩ := SlR.form2 hO
    refine tr_exit <| q_thn_exit ?_
    refine q_lp_exit ?_
    refine q_blk_hit ?_
    refine q_thn ?_
    refine rG <| rM rfl rfl <| rs_v (v_len u_sl_impl_Span rfl) rfl ?_
    refine rs_v (v_gt rfl rfl) rfl ?_
    refine rM rfl rfl <| rs_gv rfl (lkb g0) (v_move rfl) rfl ?_
    refine rs_gw rfl (lkb g0) (w_call (vs := [_]) ok_laws_toLevels rfl ⟨rfl, trivial⟩ (c_toLevels χ _ _ (all_low _) _ ws (RLevels.kk hW K) (by omega) (fun W hW => (hG W hW).n) (fun W hW => (hG W hW).few))) rfl ?_
    rintro hP2v h11 ⟨hP2, K11⟩
    have hO := RSpans.kk hO K11
    have hP2 := RLevels.mono hP2 (upA K11)
    obtain ⟨hP2a, hP2c, rfl⟩ := SlR.form2 hP2
    try have KE := KE.newX K11 (fun x hx => .inr (by first | (simp at hx; done) | (simp at hx; omega)))
    have O := O.keep2 K11 (fun x hm => by have := hob x hm; simp; try omega)
    have K := K.new0 K11; have Z11 := K11.1; have KL := KL.new0 K11
    refine rs_gv rfl (lkb g0) (v_move rfl) rfl ?_
    refine rs_gw rfl (lkb g0) (w_call (vs := [_]) ok_laws_spanForth rfl ⟨rfl, trivial⟩ (c_spanForth χ _ 100 (by decide))) rfl ?_
    rintro _ h12 ⟨⟨q2, q2a, q2c, rfl, q2z⟩, K12⟩
    have q2 := RSteps.mono q2 (upN K12)
    try have KE := KE.newX K12 (fun x hx => .inr (by first | (simp at hx; done) | (simp at hx; omega)))
    have hP2 := RLevels.kk hP2 K12
    have hO := RSpans.kk hO K12
    have O := O.keep2 K12 (fun x hm => by have := hob x hm; simp; try omega)
    have K := K.new0 K12; have Z12 := K12.1; have KL := KL.new0 K12
    refine rs_gw rfl (lkb g0) (w_call (vs := [_, _, _]) ok_impl_SpanMerged rfl ⟨rfl, rfl, rfl, trivial⟩ (c_implSpanMerged χ _ _ (all_low _) _ _ ws snap (fwdS 100) (bndF ws.flatten) hP2 hn10 hwok (fun W hW => (hG W hW).small) hBn hbl q2 (by rw [fwdS_len]; decide) (fwdS_small 100))) rfl ?_
    rintro g2v h13 ⟨⟨vb, vbw, vbk, g2⟩, K13⟩
    have g2 := RAnss.mono g2 (upN K13)
    obtain ⟨g2a, g2c, rfl⟩ := SlR.form2 g2
    try have KE := KE.newX K13 (fun x hx => .inr (by first | (simp at hx; done) | (simp at hx; omega)))
    have hP2 := RLevels.kk hP2 K13
    have hO := RSpans.kk hO K13
    have q2 := RSteps.kk q2 K13
    have O := O.keep2 K13 (fun x hm => by have := hob x hm; simp; try omega)
    have K := K.new0 K13; have Z13 := K13.1; have KL := KL.new0 K13
    refine rs_gw rfl (lkb g0) (w_call (vs := [_]) ok_laws_spanList rfl ⟨rfl, trivial⟩ (c_spanList χ _ _ (all_low _) _ _ g2 (by rw [walkP_len, fwdS_len]; decide))) rfl ?_
    rintro l2v h14 ⟨l2, K14⟩
    rw [listOf_fwd _ 100 (mrg_len vbw hfl)] at l2
    have l2 := RSpans.mono l2 (upA K14)
    obtain ⟨l2a, l2c, rfl⟩ := SlR.form2 l2
    try have KE := KE.newX K14 (fun x hx => .inr (by first | (simp at hx; done) | (simp at hx; omega)))
    have hP2 := RLevels.kk hP2 K14
    have hO := RSpans.kk hO K14
    have q2 := RSteps.kk q2 K14
    have g2 := RAnss.kk g2 K14
    have O := O.keep2 K14 (fun x hm => by have := hob x hm; simp; try omega)
    have K := K.new0 K14; have Z14 := K14.1; have KL := KL.new0 K14
    refine rs_gv rfl (lkb g0) (v_move rfl) rfl ?_
    refine rs_gw rfl (lkb g0) (w_call (vs := [_]) ok_laws_ofSpans rfl ⟨rfl, trivial⟩ (c_ofSpans χ _ _ (all_low _) _ _ hO (by rw [List.length_map]; exact f4) (by rw [f6]; exact mrg_few vaw vak hG hn10))) rfl ?_
    rintro o9v h15 ⟨o9, K15⟩
    have o9 := RSpans.mono o9 (upA K15)
    obtain ⟨o9a, o9c, rfl⟩ := SlR.form2 o9
    try have KE := KE.newX K15 (fun x hx => .inr (by first | (simp at hx; done) | (simp at hx; omega)))
    have hP2 := RLevels.kk hP2 K15
    have hO := RSpans.kk hO K15
    have q2 := RSteps.kk q2 K15
    have g2 := RAnss.kk g2 K15
    have l2 := RSpans.kk l2 K15
    have O := O.keep2 K15 (fun x hm => by have := hob x hm; simp; try omega)
    have K := K.new0 K15; have Z15 := K15.1; have KL := KL.new0 K15
    refine rs_gw rfl (lkb g0) (w_call (vs := [_, _]) ok_laws_spanLike rfl ⟨rfl, rfl, trivial⟩ (c_spanLike χ _ _ _ (all_low _) (all_low _) _ _ _ _ l2 o9 (mrg_n vbw hfl) (by rw [List.length_map]; exact f4) (mrg_few vbw vbk hG hn10) (by rw [f6]; exact mrg_few vaw vak hG hn10) (by rw [f6]; exact mrg_like vbw vbk vaw vak hG hn10))) rfl ?_
    rintro _ h16 ⟨rfl, K16⟩
    try have KE := KE.newX K16 (fun x hx => .inr (by first | (simp at hx; done) | (simp at hx; omega)))
    have hP2 := RLevels.kk hP2 K16
    have hO := RSpans.kk hO K16
    have q2 := RSteps.kk q2 K16
    have g2 := RAnss.kk g2 K16
    have l2 := RSpans.kk l2 K16
    have o9 := RSpans.kk o9 K16
    have O := O.keep2 K16 (fun x hm => by have := hob x hm; simp; try omega)
    have K := K.new0 K16; have Z16 := K16.1; have KL := KL.new0 K16
    refine rs_v (v_pick_t (lkb g0) rfl) rfl ?_
    refine rA rfl rfl <| rN <| tr_ret <| q_ret (res_tmp rfl rfl) ?_
    exact ⟨rfl, K⟩
  -- yes
  simp only [dT, dF] at hif
  rcases hx1 with e9 | ⟨b, o, rfl, hAb, hR⟩
  · rw [e9] at hif; simp at hif; omega
  obtain ⟨x, hsk⟩ := ex_get (L := G) (k := k) (by omega)
  have hsm := List.mem_of_getElem? hsk
  obtain ⟨kv, hcc, hkx⟩ := hR k x hsk
  obtain ⟨ka, kc, rfl⟩ := hkx.form2
  have hcells := KE.cells (by simp) hcc
  have KL0 := KE.1
  have hnk : n = k := by rw [hn, List.length_map, List.length_take]; omega
  refine tr_skip ?_
  refine q_thn ?_
  refine tr_seq ?_
  refine tr_block <| rG <| rs_v (v_indexAddrN u_sl_impl_Span siz_impl_Span rfl rfl (by omega)) rfl ?_
  refine rs_v (v_loadAgg (vs := [_, _, _]) many_impl_Span rfl (by exact hcells)) rfl ?_
  refine rs_w (w_new zero_impl_Span) rfl ?_
  rintro _ h17 ⟨rfl, B17, K17, Z17⟩
  try have KE := KE.newX K17 (fun x hx => .inr (by first | (simp at hx; done) | (simp at hx; omega)))
  have O := O.keep2 K17 (fun x hm => by have := hob x hm; simp; try omega)
  have S17 := K.1; have K := K.new0 K17; have KL := KL.new0 K17
  refine rs_w0 (w_put siz_impl_Span rfl rfl rfl rfl B17 rfl) ?_
  rintro _ h18 ⟨B18, K18⟩
  try have KE := KE.newX K18 (fun x hx => .inr (by first | (simp at hx; done) | (simp at hx; omega)))
  have O := O.keep2 K18 (fun x hm => by have := hob x hm; simp; try omega)
  have B17 := B18; have K := K.new1 K18 (by first | (right; omega) | (left; simp; done)); have Z18 := K18.1; have KL := KL.new1 K18 (.inr (by omega))
  refine rN ?_
  refine tr_reg ?_
  refine rM rfl rfl <| rs_v (v_loadAgg (vs := [_, _, _]) many_impl_Span rfl (by exact B17.sub _ 3 rfl)) rfl ?_
  refine rM rfl rfl <| rs_w (w_call (vs := [_, _]) ok_impl_SpanVisible rfl ⟨rfl, rfl, trivial⟩ (c_implSpanVisible χ _ (All h9) ((all_low _).mono KE.1) x _ snap (hkx.stab (KE.st (all_low _))) (f1 x hsm) (f2 x hsm).1 (f2 x hsm).2)) rfl ?_
  rintro _ h19 ⟨⟨kv9, rfl, hkv9⟩, K19⟩
  obtain ⟨ka9, kc9, rfl⟩ := hkv9.form2
  have hz9 := K19.1
  have hlo9 := (n0low h18).up K19.1
  have KE := KE.new0 K19
  have B17 := K19.blk (by simp) B17
  have O := O.keep2 K19 (fun x hm => by have := hob x hm; simp; try omega)
  have K := K.new0 K19; have Z19 := K19.1; have KL := KL.new0 K19
  refine rs_w (w_new1 u_sl_impl_Span siz_impl_Span zero_impl_Span rfl rfl rfl rfl rfl) rfl ?_
  rintro _ h20 ⟨rfl, B20, K20, Z20⟩
  have B17 := K20.blk (by simp) B17
  have hkv9 := RKeys.stab hkv9 (Keep.st K20 hlo9)
  try have KE := KE.newX K20 (fun x hx => .inr (by first | (simp at hx; done) | (simp at hx; omega)))
  have O := O.keep2 K20 (fun x hm => by have := hob x hm; simp; try omega)
  have S20 := K.1; have K := K.new0 K20; have KL := KL.new0 K20
  refine rs_w (w_app1 u_sl_impl_Span info_impl_Span rfl rfl rfl O rfl rfl B20 rfl (by omega) (by omega) (by omega)) rfl ?_
  have K70 := K
  have KL70 := KL
  rintro v21 h21 ⟨O21, K21, N21, F21⟩
  have K := K.newX K21 (fun x hm => .inr (by have := hob x hm; omega)); have KE := KE.newX K21 (fun x hm => .inr (by have := hob x hm; omega)); have Z21 := K21.1
  have B17 := K21.blk (fun hm => by first | (have := hob _ hm; omega) | exact absurd rfl (hnb _ hm)) B17
  have B20 := K21.blk (fun hm => by first | (have := hob _ hm; omega) | exact absurd rfl (hnb _ hm)) B20
  refine rA rfl rfl ?_
  refine rs_nil ?_
  refine q_blk_n ?_
  refine q_thn ?_
  refine tr_reg ?_
  refine rs_v (v_add rfl rfl (by omega) (by omega)) rfl ?_
  refine rM rfl rfl ?_
  refine rs_nil ?_
  refine q_lp (G.length - (k + 1)) [(0, _), (1, _), (5, _), (6, _), (32, _), (33, _), (34, _)] (by omega) ⟨rfl, rfl, rfl, rfl, rfl, rfl, rfl, trivial⟩ ⟨k + 1, v21, n + 1, by omega, rfl, rfl, K, KE, ?_, ?_⟩
  · rw [take_snoc' hsk, List.map_append, List.length_append, ← hn]; rfl
  · rw [take_snoc' hsk, List.map_append]
    exact OutR.snoc cSpan_st (all_low _) (Nat.le_refl _) hob hrow hF KL0 KL70 O21 K21 F21 rfl ⟨_, rfl, hkv9.mono (fun b hb => by
      rcases hb with hb | hb
      · exact hb.elim
      · exact .inr ⟨by omega, by omega⟩)⟩
end Go.Proofs.YtmckkklhonfmcaaGreat
