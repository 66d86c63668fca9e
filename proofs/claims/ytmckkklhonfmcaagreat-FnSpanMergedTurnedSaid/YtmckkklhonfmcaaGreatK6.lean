/- Texts W129 to W129, as far as the statement reaches them, laid together by a program of ours. Conditions: those that each theorem names. -/
import Derived.Test.YtmckkklhonfmcaaGreatK5
set_option linter.unusedVariables false
set_option linter.unusedSimpArgs false
set_option linter.unusedSectionVars false
namespace Go.Proofs.YtmckkklhonfmcaaGreat
open Go.Tess Go.RowKit
set_option maxRecDepth 100000
set_option maxHeartbeats 2000000
theorem c_FnSpanMergedTurned (χ : Chi) (h : Heap) (A : Nat → Prop) (hA : Low A h) (v sv : Value) (ws : List (List SpanD)) (y snap : Nat) (steps : List StepD) (hy : y ≤ 255) (hrg : ∀ W, W ∈ ws → KRng W) (hW : RLevels A h v ws) (hS : RSteps A h sv steps) :
    Cl Tryz.prog χ 6 #[v, .int .u8 (y : Int), .int .u64 (snap : Int), sv] h (fun r h' => r = .bool true ∧ Keep [] h h') := by
  have hW := RLevels.mono hW hA
  have hS := RSteps.mono hS hA
  have hW9 := hW
  obtain ⟨hlen, a, c, rfl, hx⟩ := hW9.form
  obtain ⟨a2, c2, rfl⟩ := SlR.form2 hS
  refine cl_intro Tryz.func6 rfl rfl rfl ?_
  have K : Keep [] h h := Keep.refl _ _
  refine rG <| rA rfl rfl <| rN ?_
  refine tr_seq ?_
  refine tr_cut (fun E h' => Keep [] h h' ∧ E = [(0, .slice a ws.length c), (1, .int .u8 (y : Int)), (2, .int .u64 (snap : Int)), (3, .slice a2 steps.length c2), (8, .bool false), (24, .bool ((!fit3 ws) || (!fit8 steps)))]) ?_ ?_
  ·
    rcases bsplit2 (!fit3 ws) with g1 | g1
    · skip
      refine tr_reg ?_
      refine rM rfl rfl <| rs_w (w_call (vs := [_]) ok_laws_zzFits3 rfl ⟨rfl, trivial⟩ (c_zzFits3 χ h (All h) (all_low h) _ ws hW)) rfl ?_
      rintro _ h1 ⟨rfl, K1⟩
      have K := K.new0 K1; have Z1 := K1.1
      refine rs_v (v_not rfl) rfl ?_
      refine rM rfl rfl <| rs_gs rfl (lkb g1) rfl rfl <| rs_gs rfl (lkb g1) rfl rfl <| rs_gs rfl (lkb g1) rfl rfl <| rs_v (v_pick_t (lkb g1) rfl) rfl ?_
      refine rs_nil ?_
      exact q_cut [(0, _), (1, _), (2, _), (3, _), (8, _), (24, _)] ⟨rfl, rfl, rfl, rfl, rfl, rfl, trivial⟩ ⟨K, by rw [show ((!fit3 ws) || (!fit8 steps)) = (true) from by simp only [g1, Bool.true_or, Bool.false_or]]⟩
    · skip
      refine tr_reg ?_
      refine rM rfl rfl <| rs_w (w_call (vs := [_]) ok_laws_zzFits3 rfl ⟨rfl, trivial⟩ (c_zzFits3 χ h (All h) (all_low h) _ ws hW)) rfl ?_
      rintro _ h2 ⟨rfl, K2⟩
      have K := K.new0 K2; have Z2 := K2.1
      refine rs_v (v_not rfl) rfl ?_
      refine rM rfl rfl <| rs_gv rfl (lkb g1) (v_move rfl) rfl ?_
      refine rs_gw rfl (lkb g1) (w_call (vs := [_]) ok_laws_zzFits8 rfl ⟨rfl, trivial⟩ (c_zzFits8 χ _ _ _ steps (RSteps.kk hS K))) rfl ?_
      rintro _ h3 ⟨rfl, K3⟩
      have K := K.new0 K3; have Z3 := K3.1
      refine rs_gv rfl (lkb g1) (v_not rfl) rfl ?_
      refine rs_v (v_pick_f (lkb g1) rfl) rfl ?_
      refine rs_nil ?_
      exact q_cut [(0, _), (1, _), (2, _), (3, _), (8, _), (24, _)] ⟨rfl, rfl, rfl, rfl, rfl, rfl, trivial⟩ ⟨K, by rw [show ((!fit3 ws) || (!fit8 steps)) = (!fit8 steps) from by simp only [g1, Bool.true_or, Bool.false_or]]⟩
  rintro E h99 ⟨K, rfl⟩
  refine tr_if rfl (fun hif => ?_) (fun hif => ?_)
  · -- yes
    skip
    refine rG <| rA rfl rfl <| rN <| tr_ret <| q_thn_ret <| q_ret (res_tmp rfl rfl) ?_
    exact ⟨rfl, K⟩
  -- no
  simp only [Bool.or_eq_false_iff, Bool.not_eq_false'] at hif
  obtain ⟨hf3, hf8⟩ := hif
  refine tr_skip ?_
  refine q_thn ?_
  refine tr_seq ?_
  refine tr_cut (fun E h' => Keep [] h h' ∧ E = [(0, .slice a ws.length c), (1, .int .u8 (y : Int)), (2, .int .u64 (snap : Int)), (3, .slice a2 steps.length c2), (8, .bool false), (44, .bool ((!levB ws 8) || (decide ((ws.length : Int) = 0)) || (decide ((((ws[0]?).getD []).length : Int) = 0)) || (decide ((60 : Int) < (steps.length : Int)))))]) ?_ ?_
  ·
    rcases bsplit4 (!levB ws 8) (decide ((ws.length : Int) = 0)) (decide ((((ws[0]?).getD []).length : Int) = 0)) with g1 | ⟨g1, g2⟩ | ⟨g1, g2, g3⟩ | ⟨g1, g2, g3⟩
    · skip
      refine tr_reg ?_
      refine rM rfl rfl <| rs_w (w_call (vs := [_, _]) ok_laws_spanLevels rfl ⟨rfl, rfl, trivial⟩ (c_spanLevels χ _ _ (all_low _) _ ws 8 (RLevels.kk hW K))) rfl ?_
      rintro _ h5 ⟨rfl, K5⟩
      have K := K.new0 K5; have Z5 := K5.1
      refine rs_v (v_not rfl) rfl ?_
      refine rM rfl rfl <| rs_gs rfl (lkb g1) rfl rfl <| rs_gs rfl (lkb g1) rfl rfl <| rs_gs rfl (lkb g1) rfl rfl <| rs_v (v_pick_t (lkb g1) rfl) rfl ?_
      refine rM rfl rfl <| rs_gs rfl (rfl) rfl rfl <| rs_gs rfl (rfl) rfl rfl <| rs_gs rfl (rfl) rfl rfl <| rs_gs rfl (rfl) rfl rfl <| rs_gs rfl (rfl) rfl rfl <| rs_v (v_pick_t rfl rfl) rfl ?_
      refine rM rfl rfl <| rs_gs rfl (rfl) rfl rfl <| rs_gs rfl (rfl) rfl rfl <| rs_gs rfl (rfl) rfl rfl <| rs_v (v_pick_t rfl rfl) rfl ?_
      refine rs_nil ?_
      exact q_cut [(0, _), (1, _), (2, _), (3, _), (8, _), (44, _)] ⟨rfl, rfl, rfl, rfl, rfl, rfl, trivial⟩ ⟨K, by rw [show ((!levB ws 8) || (decide ((ws.length : Int) = 0)) || (decide ((((ws[0]?).getD []).length : Int) = 0)) || (decide ((60 : Int) < (steps.length : Int)))) = (true) from by simp only [g1, Bool.true_or, Bool.false_or]]⟩
    · skip
      refine tr_reg ?_
      refine rM rfl rfl <| rs_w (w_call (vs := [_, _]) ok_laws_spanLevels rfl ⟨rfl, rfl, trivial⟩ (c_spanLevels χ _ _ (all_low _) _ ws 8 (RLevels.kk hW K))) rfl ?_
      rintro _ h6 ⟨rfl, K6⟩
      have K := K.new0 K6; have Z6 := K6.1
      refine rs_v (v_not rfl) rfl ?_
      refine rM rfl rfl <| rs_gv rfl (lkb g1) (v_move rfl) rfl <| rs_gv rfl (lkb g1) (v_len u_sl_sl_spec_Span rfl) rfl ?_
      refine rs_gv rfl (lkb g1) (v_eq rfl rfl) rfl ?_
      refine rs_v (v_pick_f (lkb g1) rfl) rfl ?_
      refine rM rfl rfl <| rs_gs rfl (lkb g2) rfl rfl <| rs_gs rfl (lkb g2) rfl rfl <| rs_gs rfl (lkb g2) rfl rfl <| rs_gs rfl (lkb g2) rfl rfl <| rs_gs rfl (lkb g2) rfl rfl <| rs_v (v_pick_t (lkb g2) rfl) rfl ?_
      refine rM rfl rfl <| rs_gs rfl (rfl) rfl rfl <| rs_gs rfl (rfl) rfl rfl <| rs_gs rfl (rfl) rfl rfl <| rs_v (v_pick_t rfl rfl) rfl ?_
      refine rs_nil ?_
      exact q_cut [(0, _), (1, _), (2, _), (3, _), (8, _), (44, _)] ⟨rfl, rfl, rfl, rfl, rfl, rfl, trivial⟩ ⟨K, by rw [show ((!levB ws 8) || (decide ((ws.length : Int) = 0)) || (decide ((((ws[0]?).getD []).length : Int) = 0)) || (decide ((60 : Int) < (steps.length : Int)))) = (true) from by simp only [g1, g2, Bool.true_or, Bool.false_or]]⟩
    · have hz1 : ¬ (ws.length : Int) = 0 := of_decide_eq_false g2
      rcases hx with rfl | ⟨b0, o0, rfl, hAb, hR⟩
      · simp at hz1
      obtain ⟨W0, hW0⟩ := ex_get (L := ws) (k := 0) (by omega)
      obtain ⟨kv0, hc0, hk0⟩ := hR 0 W0 hW0
      obtain ⟨a0, c0, rfl⟩ := SlR.form2 hk0
      have e0 : (ws[0]?).getD [] = W0 := by rw [hW0]; rfl
      try rw [e0] at g3
      refine tr_reg ?_
      refine rM rfl rfl <| rs_w (w_call (vs := [_, _]) ok_laws_spanLevels rfl ⟨rfl, rfl, trivial⟩ (c_spanLevels χ _ _ (all_low _) _ ws 8 (RLevels.kk hW K))) rfl ?_
      rintro _ h7 ⟨rfl, K7⟩
      have K := K.new0 K7; have Z7 := K7.1
      refine rs_v (v_not rfl) rfl ?_
      refine rM rfl rfl <| rs_gv rfl (lkb g1) (v_move rfl) rfl <| rs_gv rfl (lkb g1) (v_len u_sl_sl_spec_Span rfl) rfl ?_
      refine rs_gv rfl (lkb g1) (v_eq rfl rfl) rfl ?_
      refine rs_v (v_pick_f (lkb g1) rfl) rfl ?_
      refine rM rfl rfl <| rs_gv rfl (lkb g2) (v_move rfl) rfl <| rs_gv rfl (lkb g2) (v_indexAddrE (i := 0) u_sl_sl_spec_Span siz_sl_spec_Span rfl rfl rfl (by omega)) rfl ?_
      refine rs_gv rfl (lkb g2) (v_load one_sl_spec_Span rfl (by exact K.cells (by simp) hc0 0 _ rfl)) rfl ?_
      refine rs_gv rfl (lkb g2) (v_len u_sl_spec_Span rfl) rfl ?_
      refine rs_gv rfl (lkb g2) (v_eq rfl rfl) rfl ?_
      refine rs_v (v_pick_f (lkb g2) rfl) rfl ?_
      refine rM rfl rfl <| rs_gs rfl (lkb g3) rfl rfl <| rs_gs rfl (lkb g3) rfl rfl <| rs_gs rfl (lkb g3) rfl rfl <| rs_v (v_pick_t (lkb g3) rfl) rfl ?_
      refine rs_nil ?_
      exact q_cut [(0, _), (1, _), (2, _), (3, _), (8, _), (44, _)] ⟨rfl, rfl, rfl, rfl, rfl, rfl, trivial⟩ ⟨K, by rw [show ((!levB ws 8) || (decide ((ws.length : Int) = 0)) || (decide ((((ws[0]?).getD []).length : Int) = 0)) || (decide ((60 : Int) < (steps.length : Int)))) = (true) from by simp only [e0, g1, g2, g3, Bool.true_or, Bool.false_or]]⟩
    · have hz1 : ¬ (ws.length : Int) = 0 := of_decide_eq_false g2
      rcases hx with rfl | ⟨b0, o0, rfl, hAb, hR⟩
      · simp at hz1
      obtain ⟨W0, hW0⟩ := ex_get (L := ws) (k := 0) (by omega)
      obtain ⟨kv0, hc0, hk0⟩ := hR 0 W0 hW0
      obtain ⟨a0, c0, rfl⟩ := SlR.form2 hk0
      have e0 : (ws[0]?).getD [] = W0 := by rw [hW0]; rfl
      try rw [e0] at g3
      refine tr_reg ?_
      refine rM rfl rfl <| rs_w (w_call (vs := [_, _]) ok_laws_spanLevels rfl ⟨rfl, rfl, trivial⟩ (c_spanLevels χ _ _ (all_low _) _ ws 8 (RLevels.kk hW K))) rfl ?_
      rintro _ h8 ⟨rfl, K8⟩
      have K := K.new0 K8; have Z8 := K8.1
      refine rs_v (v_not rfl) rfl ?_
      refine rM rfl rfl <| rs_gv rfl (lkb g1) (v_move rfl) rfl <| rs_gv rfl (lkb g1) (v_len u_sl_sl_spec_Span rfl) rfl ?_
      refine rs_gv rfl (lkb g1) (v_eq rfl rfl) rfl ?_
      refine rs_v (v_pick_f (lkb g1) rfl) rfl ?_
      refine rM rfl rfl <| rs_gv rfl (lkb g2) (v_move rfl) rfl <| rs_gv rfl (lkb g2) (v_indexAddrE (i := 0) u_sl_sl_spec_Span siz_sl_spec_Span rfl rfl rfl (by omega)) rfl ?_
      refine rs_gv rfl (lkb g2) (v_load one_sl_spec_Span rfl (by exact K.cells (by simp) hc0 0 _ rfl)) rfl ?_
      refine rs_gv rfl (lkb g2) (v_len u_sl_spec_Span rfl) rfl ?_
      refine rs_gv rfl (lkb g2) (v_eq rfl rfl) rfl ?_
      refine rs_v (v_pick_f (lkb g2) rfl) rfl ?_
      refine rM rfl rfl <| rs_gv rfl (lkb g3) (v_move rfl) rfl <| rs_gv rfl (lkb g3) (v_len u_sl_spec_Step rfl) rfl ?_
      refine rs_gv rfl (lkb g3) (v_gt rfl rfl) rfl ?_
      refine rs_v (v_pick_f (lkb g3) rfl) rfl ?_
      refine rs_nil ?_
      exact q_cut [(0, _), (1, _), (2, _), (3, _), (8, _), (44, _)] ⟨rfl, rfl, rfl, rfl, rfl, rfl, trivial⟩ ⟨K, by rw [show ((!levB ws 8) || (decide ((ws.length : Int) = 0)) || (decide ((((ws[0]?).getD []).length : Int) = 0)) || (decide ((60 : Int) < (steps.length : Int)))) = (decide ((60 : Int) < (steps.length : Int))) from by simp only [e0, g1, g2, g3, Bool.true_or, Bool.false_or]]⟩
  rintro E h99 ⟨K, rfl⟩
  refine tr_if rfl (fun hif => ?_) (fun hif => ?_)
  · -- yes
    skip
    refine rG <| rA rfl rfl <| rN <| tr_ret <| q_thn_ret <| q_ret (res_tmp rfl rfl) ?_
    exact ⟨rfl, K⟩
  -- no
  simp only [Bool.or_eq_false_iff, Bool.not_eq_false', decide_eq_false_iff_not] at hif
  obtain ⟨⟨⟨hw, hz1⟩, hz2⟩, hl6⟩ := hif
  obtain ⟨hG, hws6, hW8⟩ := lev_good hf3 (by decide) hw
  have hn10 : ws.length ≤ 10 := by omega
  have hfl : ws.flatten.length ≤ 50 := by have := flat_le (n := 8) ws (fun W hW => by have := hW8 W hW; omega); omega
  have hbl := bnd_small hf3
  have hBn := bnds_of (fun W hW => (hG W hW).ord)
  have hwok := fun W hW => good_wok (hG W hW) (hrg W hW)
  obtain ⟨W0, s0, r0, hW0m, hW0e⟩ := lev_first (ws := ws) (by omega) (by omega)
  subst hW0e
  have hk8 := fit8_small hf8
  have hLG := LG.of hG hn10
  have hylt : (y % ws.length) < ws.length := Nat.mod_lt _ (by omega)
  obtain ⟨us, hus⟩ : ∃ us, us = ws.drop (y % ws.length) ++ ws.take (y % ws.length) := ⟨_, rfl⟩
  have hup : us.Perm ws := by rw [hus]; exact turn_perm _ _
  have hum : ∀ W, W ∈ us → W ∈ ws := fun W hW => hup.mem_iff.1 hW
  have hul : us.length = ws.length := hup.length_eq
  have hLU := lg_sub hLG hum (by omega)
  obtain ⟨hfb, hff⟩ := frag_perm hup.flatten
  have hBu := bnds_of (fun W hW => (hG W (hum W hW)).ord)
  have hmf : mergF us snap = mergF ws snap := by unfold mergF; rw [hff]
  have hW0m' := hW0m
  refine tr_skip ?_
  refine q_thn ?_
  refine rG <| rM rfl rfl <| rs_v (v_conv_i64 u_uint8 u_int rfl (by omega) (by omega)) rfl ?_
  refine rM rfl rfl <| rs_v (v_len u_sl_sl_spec_Span rfl) rfl ?_
  refine rs_v (v_remN (a := y) (b := ws.length) (r := (y % ws.length)) rfl rfl (by omega) (by omega) rfl) rfl ?_
  refine rA rfl rfl <| rN <| rG <| rM rfl rfl <| rs_w (w_call (vs := [_]) ok_laws_toLevels rfl ⟨rfl, trivial⟩ (c_toLevelsN χ _ _ (all_low _) _ ws (RLevels.kk hW K) (by omega) (fun W hW => (hG W hW).n) (fun W hW => (hG W hW).few))) rfl ?_
  rintro _ h10 ⟨⟨hP, hPa, hPc, rfl, hPr⟩, K10⟩
  obtain ⟨pb, po, rfl⟩ := rlev_form hP (by omega)
  have hP := RLevels.mono hP (upA K10)
  have K := K.new0 K10; have Z10 := K10.1
  refine rA rfl rfl <| rN ?_
  refine tr_seq ?_
  have nL : ∀ {ops : Array Oper} {L : Nat → Bool} (j k : Nat), (match ops[j]? with | some q => waits q k | none => false) = true → (∀ j q k, ops[j]? = some q → L j = true → waits q k = true → L k = true) → L k = false → L j = false := fun j k hq hc hk => by
    rename_i ops L
    cases hl : L j with
    | false => rfl
    | true =>
      cases ho : ops[j]? with
      | none => rw [ho] at hq; cases hq
      | some q => rw [ho] at hq; have := hc j q k ho hl hq; rw [hk] at this; cases this
  have hle9 : (y % ws.length) ≤ ws.length := by omega
  have hPd := rlev_drop hP hle9 hPr
  have hPt := rlev_take hP hle9
  obtain ⟨da, dc, nw1, e1, hn1, hr1, hc1, ho1⟩ := lev_row hPd
  obtain ⟨ta, tc, nw2, e2, hn2, hr2, hc2, ho2⟩ := lev_row hPt
  have hdl : (ws.drop (y % ws.length)).length = ws.length - (y % ws.length) := List.length_drop
  have htl : (ws.take (y % ws.length)).length = (y % ws.length) := by rw [List.length_take]; omega
  rw [hdl] at hn1 e1
  rw [htl] at hn2 e2
  cases e1; cases e2
  refine tr_inv (TnI h10 _ (TnP (.slice (some ⟨pb, po, none⟩) ws.length hPc) (.slice (some ⟨pb, if hPc = (y % ws.length) then po else po + (y % ws.length) * 1, none⟩) (ws.length - (y % ws.length)) (hPc - (y % ws.length))) (.slice (some ⟨pb, po, none⟩) (y % ws.length) hPc) (.int .i64 (((y % ws.length) : Nat) : Int))) (ws.length - (y % ws.length)) (y % ws.length) nw1 nw2) (by kernel_rfl) (by kernel_rfl) rfl (fun g hg => ⟨hg, Keep.refl _ _, fun _ _ _ _ h => (by cases h), fun h => (by cases h), fun h => (by cases h), fun h => (by cases h), fun h => (by cases h)⟩) ⟨?_, ?_, ?_, ?_, ?_, ?_, ?_, ?_, ?_, ?_, trivial⟩ ?_
  · intro L g hx hLi hw hc I
    refine ⟨[], by simp, OpW.mono (w_new0 u_sl_sl_impl_Span siz_sl_impl_Span zero_sl_impl_Span rfl I.kb.1) ?_⟩
    rintro v h' ⟨O, Kn⟩
    exact I.s0 tnp_far rfl O Kn
  · intro L g hx hLi hw hc I
    refine ⟨[(10, _)], look_cons (I.e0 _ _ rfl) (by simp), OpW.mono (v_move rfl).w ?_⟩
    rintro v h' ⟨rfl, rfl⟩
    exact I.pure (by decide) (by decide) rfl (fun j d' w' hm => by
      simp only [TnP, List.mem_cons, Prod.mk.injEq, List.not_mem_nil, or_false] at hm
      rcases hm with ⟨rfl, rfl, rfl⟩ | ⟨rfl, rfl, rfl⟩ | ⟨rfl, rfl, rfl⟩ | ⟨rfl, rfl, rfl⟩ | ⟨rfl, rfl, rfl⟩ | ⟨rfl, rfl, rfl⟩ <;> first | exact .inl ⟨rfl, rfl, rfl⟩ | exact .inr ⟨by decide, by decide⟩)
  · intro L g hx hLi hw hc I
    refine ⟨[(9, _)], look_cons (I.e0 _ _ rfl) (by simp), OpW.mono (v_move rfl).w ?_⟩
    rintro v h' ⟨rfl, rfl⟩
    exact I.pure (by decide) (by decide) rfl (fun j d' w' hm => by
      simp only [TnP, List.mem_cons, Prod.mk.injEq, List.not_mem_nil, or_false] at hm
      rcases hm with ⟨rfl, rfl, rfl⟩ | ⟨rfl, rfl, rfl⟩ | ⟨rfl, rfl, rfl⟩ | ⟨rfl, rfl, rfl⟩ | ⟨rfl, rfl, rfl⟩ | ⟨rfl, rfl, rfl⟩ <;> first | exact .inl ⟨rfl, rfl, rfl⟩ | exact .inr ⟨by decide, by decide⟩)
  · intro L g hx hLi hw hc I
    refine ⟨[(53, (.slice (some ⟨pb, po, none⟩) ws.length hPc)), (54, (.int .i64 (((y % ws.length) : Nat) : Int)))], look_cons (I.p 1 53 _ (by simp [TnP]) (hw 1 (by kernel_rfl))) (look_cons (I.p 2 54 _ (by simp [TnP]) (hw 2 (by kernel_rfl))) (by simp)), OpW.mono (v_slice_lo u_sl_sl_impl_Span siz_sl_impl_Span rfl rfl rfl (by omega) (by omega)).w ?_⟩
    rintro v h' ⟨rfl, rfl⟩
    exact I.pure (by decide) (by decide) rfl (fun j d' w' hm => by
      simp only [TnP, List.mem_cons, Prod.mk.injEq, List.not_mem_nil, or_false] at hm
      rcases hm with ⟨rfl, rfl, rfl⟩ | ⟨rfl, rfl, rfl⟩ | ⟨rfl, rfl, rfl⟩ | ⟨rfl, rfl, rfl⟩ | ⟨rfl, rfl, rfl⟩ | ⟨rfl, rfl, rfl⟩ <;> first | exact .inl ⟨rfl, rfl, rfl⟩ | exact .inr ⟨by decide, by decide⟩)
  · intro L g hx hLi hw hc I
    have l8 := nL 8 4 (by kernel_rfl) hc hLi
    have l9 := nL 9 8 (by kernel_rfl) hc l8
    obtain ⟨u, hu, O⟩ := I.a0 (hw 0 (by kernel_rfl)) hLi
    refine ⟨[(52, u), (55, (.slice (some ⟨pb, if hPc = (y % ws.length) then po else po + (y % ws.length) * 1, none⟩) (ws.length - (y % ws.length)) (hPc - (y % ws.length))))], look_cons hu (look_cons (I.p 3 55 _ (by simp [TnP]) (hw 3 (by kernel_rfl))) (by simp)), OpW.mono (w_appS (news := nw1) u_sl_sl_impl_Span info_sl_impl_Span rfl rfl rfl O rfl (by rw [hn1]) (hc1.imp id (fun ⟨b, o, e, hc⟩ => ⟨b, o, e, I.kb.cells (by simp) hc⟩)) ho1 (by omega) (by omega) I.kb.1) ?_⟩
    rintro v h' ⟨O2, Kn, _⟩
    rw [Nat.zero_add, List.nil_append] at O2
    exact I.s4 tnp_far rfl O O2 Kn l8 l9
  · intro L g hx hLi hw hc I
    refine ⟨[(10, _)], look_cons (I.e0 _ _ rfl) (by simp), OpW.mono (v_move rfl).w ?_⟩
    rintro v h' ⟨rfl, rfl⟩
    exact I.pure (by decide) (by decide) rfl (fun j d' w' hm => by
      simp only [TnP, List.mem_cons, Prod.mk.injEq, List.not_mem_nil, or_false] at hm
      rcases hm with ⟨rfl, rfl, rfl⟩ | ⟨rfl, rfl, rfl⟩ | ⟨rfl, rfl, rfl⟩ | ⟨rfl, rfl, rfl⟩ | ⟨rfl, rfl, rfl⟩ | ⟨rfl, rfl, rfl⟩ <;> first | exact .inl ⟨rfl, rfl, rfl⟩ | exact .inr ⟨by decide, by decide⟩)
  · intro L g hx hLi hw hc I
    refine ⟨[(9, _)], look_cons (I.e0 _ _ rfl) (by simp), OpW.mono (v_move rfl).w ?_⟩
    rintro v h' ⟨rfl, rfl⟩
    exact I.pure (by decide) (by decide) rfl (fun j d' w' hm => by
      simp only [TnP, List.mem_cons, Prod.mk.injEq, List.not_mem_nil, or_false] at hm
      rcases hm with ⟨rfl, rfl, rfl⟩ | ⟨rfl, rfl, rfl⟩ | ⟨rfl, rfl, rfl⟩ | ⟨rfl, rfl, rfl⟩ | ⟨rfl, rfl, rfl⟩ | ⟨rfl, rfl, rfl⟩ <;> first | exact .inl ⟨rfl, rfl, rfl⟩ | exact .inr ⟨by decide, by decide⟩)
  · intro L g hx hLi hw hc I
    refine ⟨[(57, (.slice (some ⟨pb, po, none⟩) ws.length hPc)), (58, (.int .i64 (((y % ws.length) : Nat) : Int)))], look_cons (I.p 5 57 _ (by simp [TnP]) (hw 5 (by kernel_rfl))) (look_cons (I.p 6 58 _ (by simp [TnP]) (hw 6 (by kernel_rfl))) (by simp)), OpW.mono (v_slice_h u_sl_sl_impl_Span siz_sl_impl_Span rfl rfl rfl (by omega)).w ?_⟩
    rintro v h' ⟨rfl, rfl⟩
    exact I.pure (by decide) (by decide) rfl (fun j d' w' hm => by
      simp only [TnP, List.mem_cons, Prod.mk.injEq, List.not_mem_nil, or_false] at hm
      rcases hm with ⟨rfl, rfl, rfl⟩ | ⟨rfl, rfl, rfl⟩ | ⟨rfl, rfl, rfl⟩ | ⟨rfl, rfl, rfl⟩ | ⟨rfl, rfl, rfl⟩ | ⟨rfl, rfl, rfl⟩ <;> first | exact .inl ⟨rfl, rfl, rfl⟩ | exact .inr ⟨by decide, by decide⟩)
  · intro L g hx hLi hw hc I
    have l9 := nL 9 8 (by kernel_rfl) hc hLi
    have l4 := hw 4 (by kernel_rfl)
    obtain ⟨u, hu, O⟩ := I.a4 l4 hLi
    refine ⟨[(56, u), (59, (.slice (some ⟨pb, po, none⟩) (y % ws.length) hPc))], look_cons hu (look_cons (I.p 7 59 _ (by simp [TnP]) (hw 7 (by kernel_rfl))) (by simp)), OpW.mono (w_appS (news := nw2) u_sl_sl_impl_Span info_sl_impl_Span rfl rfl rfl O rfl (by rw [hn2]) (hc2.imp id (fun ⟨b, o, e, hc⟩ => ⟨b, o, e, I.kb.cells (by simp) hc⟩)) ho2 (by omega) (by omega) I.kb.1) ?_⟩
    rintro v h' ⟨O2, Kn, _⟩
    exact I.s8 tnp_far rfl O O2 Kn l4 l9
  · intro L g hx hLi hw hc I
    obtain ⟨u, hu, O⟩ := I.a8 (hw 8 (by kernel_rfl))
    refine ⟨[(60, u)], look_cons hu (by simp), OpW.mono (v_assign rfl).w ?_⟩
    rintro v h' ⟨rfl, rfl⟩
    exact I.s9 tnp_far rfl hu
  intro Lf gf h11 hL I
  obtain ⟨u11, hu, O⟩ := I.a8 (hL 8 (by decide))
  have g11 := I.a9 (hL 9 (by decide))
  rw [hu] at g11
  have Kr := I.kb
  have hlen : ws.length - (y % ws.length) + (y % ws.length) = ws.length := by omega
  have hTl : us.length = ws.length := hul
  have hT : RLevels (All h11) h11 u11 us := by
    have hst := Kr.st (all_low h10)
    rw [hus]
    refine SlR.of_rows O (by rw [← hus, hTl, hlen]) (RowsR.app (hr1.mono fun c a hr => ?_) (hr2.mono fun c a hr => ?_)) (fun b _ hb => hb) (fun b o c a hc hr => cLevel_r (All h11) _ b o c a hc hr)
    · exact cLevel_st.mono _ _ _ _ _ (all_up Kr) (cLevel_st.stab _ _ _ _ _ hst hr)
    · exact cLevel_st.mono _ _ _ _ _ (all_up Kr) (cLevel_st.stab _ _ _ _ _ hst hr)
  obtain ⟨ta, tc, e9⟩ := SlR.form2 hT
  refine ⟨_, look_cons g11 I.e0, ?_⟩
  rw [hTl] at e9
  subst e9
  have K11 := Kr
  have hP := RLevels.kk hP K11
  have K := K.new0 K11; have Z11 := K11.1
  refine q_thn ?_
  refine rG <| rM rfl rfl <| rM rfl rfl <| rM rfl rfl <| rs_w (w_call (vs := [_]) ok_laws_toSteps rfl ⟨rfl, trivial⟩ (c_toSteps χ _ _ (all_low _) _ steps (RSteps.kk hS K) (by omega))) rfl ?_
  rintro hQv h12 ⟨hQ, K12⟩
  have hQ := RSteps.mono hQ (upA K12)
  obtain ⟨hQa, hQc, rfl⟩ := SlR.form2 hQ
  have hP := RLevels.kk hP K12
  have hT := RLevels.kk hT K12
  have K := K.new0 K12; have Z12 := K12.1
  refine rs_w (w_call (vs := [_, _, _]) ok_impl_SpanMerged rfl ⟨rfl, rfl, rfl, trivial⟩ (c_implSpanMerged χ _ _ (all_low _) _ _ ws snap steps (bndF ws.flatten) hP hn10 hwok (fun W hW => (hG W hW).small) hBn hbl hQ (by omega) hk8)) rfl ?_
  rintro hgotv h13 ⟨⟨va, vaw, vak, hgot⟩, K13⟩
  have hgot := RAnss.mono hgot (upN K13)
  obtain ⟨hgota, hgotc, rfl⟩ := SlR.form2 hgot
  have hP := RLevels.kk hP K13
  have hT := RLevels.kk hT K13
  have hQ := RSteps.kk hQ K13
  have K := K.new0 K13; have Z13 := K13.1
  refine rA rfl rfl <| rN <| rG <| rM rfl rfl <| rM rfl rfl <| rM rfl rfl <| rs_w (w_call (vs := [_]) ok_laws_toSteps rfl ⟨rfl, trivial⟩ (c_toSteps χ _ _ (all_low _) _ steps (RSteps.kk hS K) (by omega))) rfl ?_
  rintro hQ2v h14 ⟨hQ2, K14⟩
  have hQ2 := RSteps.mono hQ2 (upA K14)
  obtain ⟨hQ2a, hQ2c, rfl⟩ := SlR.form2 hQ2
  have hP := RLevels.kk hP K14
  have hT := RLevels.kk hT K14
  have hQ := RSteps.kk hQ K14
  have hgot := RAnss.kk hgot K14
  have K := K.new0 K14; have Z14 := K14.1
  refine rs_w (w_call (vs := [_, _, _]) ok_impl_SpanMerged rfl ⟨rfl, rfl, rfl, trivial⟩ (c_implSpanMerged χ _ _ (all_low _) _ _ us snap steps (bndF us.flatten) hT (by omega) (fun W hW => hwok W (hum W hW)) (fun W hW => (hG W (hum W hW)).small) hBu (bnd_sub hbl hum) hQ2 (by omega) hk8)) rfl ?_
  rintro hcutv h15 ⟨⟨vb, vbw, vbk, hcut⟩, K15⟩
  have hcut := RAnss.mono hcut (upN K15)
  obtain ⟨hcuta, hcutc, rfl⟩ := SlR.form2 hcut
  obtain ⟨hgl9, a9, c9, e9, hx9⟩ := SlR.form (RAnss.kk hgot K15)
  cases e9
  have hGf := walk_few (lg_few (snap := snap) vaw vak hLG) steps .nowhere
  generalize hGdef : (walkP (mrgW va snap (bndF ws.flatten)) .nowhere steps) = G at hgot hgl9 hx9 hGf ⊢
  have hGl : G.length = steps.length := by rw [← hGdef]; exact walkP_len _ _
  have hEz := Nat.le_trans K.1 K15.1
  have hP := RLevels.kk hP K15
  have hT := RLevels.kk hT K15
  have hQ := RSteps.kk hQ K15
  have hgot := RAnss.kk hgot K15
  have hQ2 := RSteps.kk hQ2 K15
  have K := K.new0 K15; have Z15 := K15.1
  refine rA rfl rfl <| rN <| rG <| rA rfl rfl <| rN ?_
  refine tr_seq ?_
  refine rG <| rM rfl rfl <| rs_v (v_len u_sl_impl_SpanAnswer rfl) rfl ?_
  refine rM rfl rfl <| rN <| tr_block ?_
  refine tr_loop (fun m E h' => ∃ k v n, k ≤ G.length ∧ m = G.length - k ∧ E = [(10, .slice (some ⟨pb, po, none⟩) ws.length hPc), (13, .slice hcuta (walkP (mrgW vb snap (bndF us.flatten)) .nowhere steps).length hcutc), (14, v), (71, .slice hgota G.length hgotc), (72, .int .i64 (G.length : Int)), (73, .int .i64 (k : Int))] ∧ Keep [] h h' ∧ Keep [] h15 h' ∧ n = (G.take k).length ∧ OutR (All h15) h15 h' h15.size 69 5 cAns v n (G.take k)) G.length [(10, _), (13, _), (14, _), (71, _), (72, _), (73, _)] ⟨rfl, rfl, rfl, rfl, rfl, rfl, trivial⟩ ⟨0, _, 0, Nat.zero_le _, rfl, rfl, K, Keep.refl _ _, rfl, OutR.nil _ _ _ _ _ _ _⟩ ?_
  rintro m E hL16 ⟨k, v, n, hk, rfl, rfl, K, KE, hn, hout⟩
  have hout0 := hout
  obtain ⟨xs, F, O, hrow, hF⟩ := hout
  have hob := own_ne O; have KL := Keep.refl [] hL16
  refine rG <| rs_v (v_lt rfl rfl) rfl ?_
  refine rN ?_
  refine tr_seq ?_
  refine tr_ifn rfl (fun hif => ?_) (fun hif => ?_)
  · -- no
    simp only [dT, dF] at hif
    have hkk : k = G.length := by omega
    subst hkk
    rw [List.take_length] at hout0 hn
    have hwant := RAnss.mono (hout0.fin cAns_st hn (Nat.le_refl _) cAns_r) ((all_low _).up KE.1)
    obtain ⟨hwa, hwc, rfl⟩ := SlR.form2 hwant
    have hcut := RAnss.kk hcut KE
    have hP := RLevels.kk hP KE
    refine tr_exit <| q_thn_exit ?_
    refine q_lp_exit ?_
    refine q_blk_hit ?_
    refine q_thn ?_
    refine rG <| rM rfl rfl <| rM rfl rfl <| rs_w (w_call (vs := [_, _]) ok_laws_spanAnswers rfl ⟨rfl, rfl, trivial⟩ (c_spanAnswers χ _ _ _ (all_low _) (all_low _) _ _ _ _ hcut hwant (by rw [← hGdef]; exact (alk_join (by rw [← hmf]; exact lg_alk vbw vbk hLU) (lg_alk vaw vak hLG)).walk _ _))) rfl ?_
    rintro _ h17 ⟨rfl, K17⟩
    have hP := RLevels.kk hP K17
    try have KE := KE.newX K17 (fun x hx => .inr (by first | (simp at hx; done) | (simp at hx; omega)))
    have O := O.keep2 K17 (fun x hm => by have := hob x hm; simp; try omega)
    have K := K.new0 K17; have Z17 := K17.1; have KL := KL.new0 K17
    refine rM rfl rfl <| rs_gv rfl (rfl) (v_move rfl) rfl ?_
    refine rs_gw rfl (rfl) (w_call (vs := [_]) ok_laws_spanForth rfl ⟨rfl, trivial⟩ (c_spanForth χ _ 0 (by decide))) rfl ?_
    rintro _ h18 ⟨⟨q9, q9a, q9c, rfl, q9z⟩, K18⟩
    have q9 := RSteps.mono q9 (upN K18)
    try have KE := KE.newX K18 (fun x hx => .inr (by first | (simp at hx; done) | (simp at hx; omega)))
    have hP := RLevels.kk hP K18
    have O := O.keep2 K18 (fun x hm => by have := hob x hm; simp; try omega)
    have K := K.new0 K18; have Z18 := K18.1; have KL := KL.new0 K18
    refine rs_gw rfl (rfl) (w_call (vs := [_, _, _]) ok_impl_SpanMerged rfl ⟨rfl, rfl, rfl, trivial⟩ (c_implSpanMerged χ _ _ (all_low _) _ _ ws 72057594037927935 (fwdS 0) (bndF ws.flatten) hP hn10 hwok (fun W hW => (hG W hW).small) hBn hbl q9 (by rw [fwdS_len]; decide) (fwdS_small 0))) rfl ?_
    rintro g9v h19 ⟨⟨vc, vcw, vck, g9⟩, K19⟩
    have g9 := RAnss.mono g9 (upN K19)
    obtain ⟨g9a, g9c, rfl⟩ := SlR.form2 g9
    try have KE := KE.newX K19 (fun x hx => .inr (by first | (simp at hx; done) | (simp at hx; omega)))
    have hP := RLevels.kk hP K19
    have q9 := RSteps.kk q9 K19
    have O := O.keep2 K19 (fun x hm => by have := hob x hm; simp; try omega)
    have K := K.new0 K19; have Z19 := K19.1; have KL := KL.new0 K19
    refine rs_gw rfl (rfl) (w_call (vs := [_]) ok_laws_spanList rfl ⟨rfl, trivial⟩ (c_spanList χ _ _ (all_low _) _ _ g9 (by rw [walkP_len, fwdS_len]; decide))) rfl ?_
    rintro l9v h20 ⟨l9, K20⟩
    obtain ⟨l9a, l9c, rfl⟩ := SlR.form2 l9
    try have KE := KE.newX K20 (fun x hx => .inr (by first | (simp at hx; done) | (simp at hx; omega)))
    have hP := RLevels.kk hP K20
    have q9 := RSteps.kk q9 K20
    have g9 := RAnss.kk g9 K20
    have O := O.keep2 K20 (fun x hm => by have := hob x hm; simp; try omega)
    have K := K.new0 K20; have Z20 := K20.1; have KL := KL.new0 K20
    refine rs_gv rfl (rfl) (v_len u_sl_impl_Span rfl) rfl ?_
    refine rs_gv rfl (rfl) (v_eq rfl rfl) rfl ?_
    refine rs_v (v_pick_t rfl rfl) rfl ?_
    refine rA rfl rfl <| rN <| tr_ret <| q_ret (res_tmp rfl rfl) ?_
    exact ⟨by rw [one_first (mrg_pos vcw hBn hW0m)], K⟩
  -- yes
  simp only [dT, dF] at hif
  rcases hx9 with e | ⟨b, o, rfl, hAb, hR⟩
  · rw [e] at hif; simp at hif; omega
  obtain ⟨x, hxk⟩ := ex_get (L := G) (k := k) (by omega)
  have KL0 := KE.1
  have hxf := hGf x (List.mem_of_getElem? hxk)
  obtain ⟨kv, hcc, hkx⟩ := hR k x hxk
  obtain ⟨ka, kc, rfl⟩ := hkx.form2
  have hcells := KE.cells (by simp) hcc
  have hnk : n = k := by rw [hn, List.length_take]; omega
  refine tr_skip ?_
  refine q_thn ?_
  refine tr_seq ?_
  refine tr_block <| rG <| rs_v (v_indexAddrN u_sl_impl_SpanAnswer siz_impl_SpanAnswer rfl rfl (by omega)) rfl ?_
  refine rs_v (v_loadAgg (vs := [_, _, _, _, _]) many_impl_SpanAnswer rfl (by exact hcells)) rfl ?_
  refine rs_w (w_new zero_impl_SpanAnswer) rfl ?_
  rintro _ h21 ⟨rfl, B21, K21, Z21⟩
  try have KE := KE.newX K21 (fun x hx => .inr (by first | (simp at hx; done) | (simp at hx; omega)))
  have O := O.keep2 K21 (fun x hm => by have := hob x hm; simp; try omega)
  have S21 := K.1; have K := K.new0 K21; have KL := KL.new0 K21
  refine rs_w0 (w_put siz_impl_SpanAnswer rfl rfl rfl rfl B21 rfl) ?_
  rintro _ h22 ⟨B22, K22⟩
  try have KE := KE.newX K22 (fun x hx => .inr (by first | (simp at hx; done) | (simp at hx; omega)))
  have O := O.keep2 K22 (fun x hm => by have := hob x hm; simp; try omega)
  have B21 := B22; have K := K.new1 K22 (by first | (right; omega) | (left; simp; done)); have Z22 := K22.1; have KL := KL.new1 K22 (.inr (by omega))
  refine rN ?_
  have hAX : Low (All h15) h22 := (all_low _).mono KE.1
  refine tr_draw [(true, 10), (false, 2)] _ (by kernel_rfl) (by kernel_rfl) (by kernel_rfl) ?_
  refine rx_any (Keep []) (keep_pre _) ?_
  refine rm_v (keep_pre _) (fun h' hk => v_move rfl) ?_
  refine rm_v (keep_pre _) (fun h' hk => v_fieldAddr fa_impl_SpanAnswer_0 rfl) ?_
  refine rm_v (keep_pre _) (fun h' hk => v_load one_bool rfl (Blk.cell (hk.blk (by simp) B21) _ rfl)) ?_
  refine rm_v (keep_pre _) (fun h' hk => v_fieldAddr fa_impl_SpanAnswer_1 rfl) ?_
  refine rm_v (keep_pre _) (fun h' hk => v_load one_bool rfl (Blk.cell (hk.blk (by simp) B21) _ rfl)) ?_
  refine rm_v (keep_pre _) (fun h' hk => v_fieldAddr fa_impl_SpanAnswer_2 rfl) ?_
  refine rm_v (keep_pre _) (fun h' hk => v_loadAgg (vs := [_, _, _]) many_impl_Span rfl (Blk.sub (hk.blk (by simp) B21) 2 3 rfl)) ?_
  refine rm_w (fun v h' => ∃ kv', v = .agg #[.string x.sp.s, .string x.sp.e, kv'] ∧ RKeys (Up (All h15) h22 h') h' kv' x.sp.ks) (fun v _ _ k1 k2 hr => by obtain ⟨kv', e, hr⟩ := hr; exact ⟨kv', e, upk hAX k1.1 hr k2⟩) (fun h' hk => OpW.mono (w_call (vs := [_]) ok_laws_ofSpan rfl ⟨rfl, trivial⟩ (c_ofSpan χ h' (All h15) ((all_low _).mono (KE.new0 hk).1) x.sp _ (hkx.stab ((KE.new0 hk).st (all_low _))) hxf)) (fun v h'' hv => ⟨hv.2, by obtain ⟨kv', e, hr⟩ := hv.1; exact ⟨kv', e, hr.mono (Up.trans2 hk.1 (Nat.le_refl _))⟩⟩)) ?_
  refine rm_o 84 (fun v h' => ∃ kv', v = .agg #[.bool x.done, .bool x.ok, .string x.sp.s, .string x.sp.e, kv'] ∧ RKeys (Up (All h15) h22 h') h' kv' x.sp.ks) rfl (by kernel_rfl) (fun v _ _ k1 k2 hr => by obtain ⟨kv', e, hr⟩ := hr; exact ⟨kv', e, upk hAX k1.1 hr k2⟩) (fun u h' hk hu => by
    obtain ⟨kv', rfl, hu⟩ := hu
    obtain ⟨a, c, rfl⟩ := hu.form2
    exact (v_build3 rfl rfl rfl (bld_sa _ _ _ _ _ _ _)).w.mono (fun _ _ e => by obtain ⟨e1, e2⟩ := e; subst e1; subst e2; exact ⟨Keep.refl _ _, _, rfl, hu⟩)) ?_
  refine rm_o 85 (fun v h' => ∃ b kv', v = .slice (some ⟨b, 0, none⟩) 1 1 ∧ h22.size ≤ b ∧ Blk h' b [.bool x.done, .bool x.ok, .string x.sp.s, .string x.sp.e, kv'] 69 ∧ RKeys (Up (All h15) h22 h') h' kv' x.sp.ks) rfl (by kernel_rfl) (fun v _ _ k1 k2 hr => by obtain ⟨b, kv', e, hb, B, hr⟩ := hr; exact ⟨b, kv', e, hb, k2.blk (by simp) B, upk hAX k1.1 hr k2⟩) (fun u h' hk hu => by
    obtain ⟨kv', rfl, hu⟩ := hu
    obtain ⟨a, c, rfl⟩ := hu.form2
    exact (w_new1 u_sl_spec_SpanAnswer siz_spec_SpanAnswer zero_spec_SpanAnswer rfl rfl rfl rfl rfl).mono (fun v h'' e => by
      obtain ⟨rfl, B, Kn, _⟩ := e
      exact ⟨Kn, _, _, rfl, hk.1, B, upk hAX hk.1 hu Kn⟩)) ?_
  refine rm_end ?_; intro ha Ka; simp only [endM, hypF, ofE, argE, List.nil_append]
  intro v86 h72 v85 _ v84 _
  obtain ⟨b9, kv9, rfl, hb9, B9, hkv9⟩ := h72
  obtain ⟨ka9, kc9, rfl⟩ := hkv9.form2
  have O := O.keep2 Ka (fun x hm => by simp)
  have K := K.new0 Ka; have Za := Ka.1; have KE := KE.new0 Ka; have KL := KL.new0 Ka
  refine rx_seq ?_
  refine rs_w (w_app1 u_sl_spec_SpanAnswer info_spec_SpanAnswer rfl rfl rfl O rfl rfl B9 rfl (by omega) (by omega) (by omega)) rfl ?_
  rintro v13 h23 ⟨O13, K13, N13, F13⟩
  have K := K.newX K13 (fun x hm => .inr (by have := hob x hm; omega)); have KE := KE.newX K13 (fun x hm => .inr (by have := hob x hm; omega)); have Z13 := K13.1
  refine rA rfl rfl ?_
  refine rs_nil ?_
  refine q_con ?_
  refine rx_nil ?_
  refine q_blk_n ?_
  refine q_thn ?_
  refine tr_reg ?_
  refine rs_v (v_add rfl rfl (by omega) (by omega)) rfl ?_
  refine rM rfl rfl ?_
  refine rs_nil ?_
  refine q_lp (G.length - (k + 1)) [(10, _), (13, _), (14, _), (71, _), (72, _), (73, _)] (by omega) ⟨rfl, rfl, rfl, rfl, rfl, rfl, trivial⟩ ⟨k + 1, v13, n + 1, by omega, rfl, rfl, K, KE, ?_, ?_⟩
  · rw [take_snoc' hxk, List.length_append, ← hn]; rfl
  · rw [take_snoc' hxk]
    exact OutR.snoc cAns_st (all_low _) (Nat.le_refl _) hob hrow hF KL0 KL O13 K13 F13 rfl ⟨_, rfl, hkv9.mono (Up.trans2 (by omega) (Nat.le_refl _))⟩
end Go.Proofs.YtmckkklhonfmcaaGreat
