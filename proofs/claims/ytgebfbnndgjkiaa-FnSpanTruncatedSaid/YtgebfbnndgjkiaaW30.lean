/- Thirtieth part: the law of filtered spans, walked. Conditions: those that each theorem names. -/
import Derived.Test.YtgebfbnndgjkiaaW29
set_option linter.unusedVariables false
set_option linter.unusedSimpArgs false
namespace Go.Proofs.Ytgebfbnndgjkiaa
open Go.Tess Go.RowKit
set_option maxRecDepth 100000
set_option maxHeartbeats 1000000
/-- All blocks that are there. -/
def All (h : Heap) : Nat → Prop := fun b => b < h.size
theorem all_low (h : Heap) : Low (All h) h := fun _ hb => hb
section
variable {h h' : Heap} {v : Value}
theorem all_st (K : Keep [] h h') : Stab (All h) h h' := K.st (all_low h)
theorem all_up (K : Keep [] h h') : ∀ b, All h b → All h' b := fun _ hb => Nat.lt_of_lt_of_le hb K.1
theorem RSpans.kk {W : List SpanD} (hr : RSpans (All h) h v W) (K : Keep [] h h') : RSpans (All h') h' v W := (RSpans.stab hr (all_st K)).mono (all_up K)
theorem RSteps.kk {W : List StepD} (hr : RSteps (All h) h v W) (K : Keep [] h h') : RSteps (All h') h' v W := (RSteps.stab hr (all_st K)).mono (all_up K)
theorem RAnss.kk {W : List AnsD} (hr : RAnss (All h) h v W) (K : Keep [] h h') : RAnss (All h') h' v W := (RAnss.stab hr (all_st K)).mono (all_up K)
theorem upA (K : Keep [] h h') : ∀ b, Up (All h) h h' b → All h' b := (all_low h).up K.1
theorem upN (K : Keep [] h h') : ∀ b, Up N0 h h' b → All h' b := (n0low h).up K.1
end
theorem ffS_desc {low high : Int} {W : List SpanD} (hG : Good W) : ∀ s, s ∈ W.filterMap (ffS low high) → descB s.ks = true ∧ few s := by
  intro s hs
  obtain ⟨x, hx, hf⟩ := List.mem_filterMap.1 hs
  have h1 := (hG.full x hx).2.2
  unfold ffS at hf
  split at hf
  · cases hf
  · cases hf
    refine ⟨(desc_pair _).2 (((desc_pair _).1 h1.1).filter _), ?_⟩
    have := List.length_filter_le (passK low high) x.ks
    unfold few; show (x.ks.filter (passK low high)).length ≤ _; omega
def someW : List SpanD := [⟨⟨#[97]⟩, ⟨#[98]⟩, [⟨256, ByteArray.empty, ByteArray.empty⟩]⟩]
def startS : List StepD := [⟨0, ByteArray.empty⟩]
theorem ab_lt : slt ⟨#[97]⟩ ⟨#[98]⟩ = true := by rw [slt_cmp]; decide
theorem some_good : Good someW := ⟨by decide, by intro s hs; simp [someW] at hs; subst hs; exact ⟨ab_lt, by simp, by decide, by decide⟩, by
  intro s hs; simp [someW] at hs; subst hs; exact ⟨by decide, by decide, by decide, by intro k hk; simp at hk; subst hk; exact ⟨by decide, by decide⟩⟩, by
  refine ⟨by intro s hs; simp [someW] at hs; subst hs; exact ab_lt, ?_⟩
  intro i s t h1 h2
  cases i <;> simp [someW] at h2⟩
theorem start_small : ∀ s, s ∈ startS → s.key.size ≤ 9223372036854775807 := by intro s hs; simp [startS] at hs; subst hs; decide

theorem c_FnSpanFiltered (χ : Chi) (h : Heap) (A : Nat → Prop) (hA : Low A h) (v sv : Value) (W : List SpanD) (steps : List StepD) (low high : Int) (hW : RSpans A h v W) (hS : RSteps A h sv steps) :
    Cl Try.prog χ 3 #[v, .int .u64 low, .int .u64 high, sv] h (fun r h' => r = .bool true ∧ Keep [] h h') := by
  have hW := RSpans.mono hW hA
  have hS := RSteps.mono hS hA
  obtain ⟨a, c, rfl⟩ := SlR.form2 hW
  obtain ⟨a2, c2, rfl⟩ := SlR.form2 hS
  refine cl_intro Try.func3 rfl rfl rfl ?_
  have K : Keep [] h h := Keep.refl _ _
  refine tr_seq ?_
  refine tr_reg ?_
  refine rs_v (v_assign rfl) rfl ?_
  refine rs_nil ?_
  refine q_thn ?_
  refine tr_seq ?_
  refine tr_cut (fun E h' => Keep [] h h' ∧ E = [(0, .slice a W.length c), (1, .int .u64 low), (2, .int .u64 high), (3, .slice a2 steps.length c2), (8, .bool false), (17, .bool ((!fit4 W) || (!fit8 steps)))]) ?_ ?_
  ·
    rcases bsplit2 (!fit4 W) with g1 | g1
    · skip
      refine tr_reg ?_
      refine rs_v (v_move rfl) rfl ?_
      refine rs_w (w_call (vs := [_]) ok_laws_zzFits4 rfl ⟨rfl, trivial⟩ (c_zzFits4 χ h (All h) (all_low h) _ W hW)) rfl ?_
      rintro _ h1 ⟨rfl, K1⟩
      have K := K.new0 K1; have Z1 := K1.1
      refine rs_v (v_not rfl) rfl ?_
      refine rs_v (v_move rfl) rfl ?_
      refine rs_gs rfl (lkb g1) rfl rfl ?_
      refine rs_gs rfl (lkb g1) rfl rfl ?_
      refine rs_gs rfl (lkb g1) rfl rfl ?_
      refine rs_v (v_pick_t (lkb g1) rfl) rfl ?_
      refine rs_nil ?_
      exact q_cut [(0, _), (1, _), (2, _), (3, _), (8, _), (17, _)] ⟨rfl, rfl, rfl, rfl, rfl, rfl, trivial⟩ ⟨K, by rw [show ((!fit4 W) || (!fit8 steps)) = (true) from by simp only [g1, Bool.true_or, Bool.false_or]]⟩
    · skip
      refine tr_reg ?_
      refine rs_v (v_move rfl) rfl ?_
      refine rs_w (w_call (vs := [_]) ok_laws_zzFits4 rfl ⟨rfl, trivial⟩ (c_zzFits4 χ h (All h) (all_low h) _ W hW)) rfl ?_
      rintro _ h2 ⟨rfl, K2⟩
      have K := K.new0 K2; have Z2 := K2.1
      refine rs_v (v_not rfl) rfl ?_
      refine rs_v (v_move rfl) rfl ?_
      refine rs_gv rfl (lkb g1) (v_move rfl) rfl ?_
      refine rs_gw rfl (lkb g1) (w_call (vs := [_]) ok_laws_zzFits8 rfl ⟨rfl, trivial⟩ (c_zzFits8 χ _ _ _ steps (RSteps.kk hS K))) rfl ?_
      rintro _ h3 ⟨rfl, K3⟩
      have K := K.new0 K3; have Z3 := K3.1
      refine rs_gv rfl (lkb g1) (v_not rfl) rfl ?_
      refine rs_v (v_pick_f (lkb g1) rfl) rfl ?_
      refine rs_nil ?_
      exact q_cut [(0, _), (1, _), (2, _), (3, _), (8, _), (17, _)] ⟨rfl, rfl, rfl, rfl, rfl, rfl, trivial⟩ ⟨K, by rw [show ((!fit4 W) || (!fit8 steps)) = (!fit8 steps) from by simp only [g1, Bool.true_or, Bool.false_or]]⟩
  rintro E h99 ⟨K, rfl⟩
  refine tr_if rfl (fun hif => ?_) (fun hif => ?_)
  · -- yes
    skip
    refine tr_seq ?_
    refine tr_reg ?_
    refine rs_v (v_assign rfl) rfl ?_
    refine rs_nil ?_
    refine q_thn ?_
    refine tr_ret ?_
    refine q_thn_ret ?_
    refine q_ret (res_tmp rfl rfl) ?_
    exact ⟨rfl, K⟩
  -- no
  simp only [Bool.or_eq_false_iff, Bool.not_eq_false'] at hif
  obtain ⟨hf4, hf8⟩ := hif
  refine tr_skip ?_
  refine q_thn ?_
  refine tr_seq ?_
  refine tr_cut (fun E h' => Keep [] h h' ∧ E = [(0, .slice a W.length c), (1, .int .u64 low), (2, .int .u64 high), (3, .slice a2 steps.length c2), (8, .bool false), (25, .bool ((!(mostB W 40 && wellB W)) || (decide ((60 : Int) < (steps.length : Int)))))]) ?_ ?_
  ·
    rcases bsplit2 (!(mostB W 40 && wellB W)) with g1 | g1
    · skip
      refine tr_reg ?_
      refine rs_v (v_move rfl) rfl ?_
      refine rs_w (w_call (vs := [_, _]) ok_laws_spanWell rfl ⟨rfl, rfl, trivial⟩ (c_spanWell χ _ _ (all_low _) _ W 40 (RSpans.kk hW K))) rfl ?_
      rintro _ h5 ⟨rfl, K5⟩
      have K := K.new0 K5; have Z5 := K5.1
      refine rs_v (v_not rfl) rfl ?_
      refine rs_v (v_move rfl) rfl ?_
      refine rs_gs rfl (lkb g1) rfl rfl ?_
      refine rs_gs rfl (lkb g1) rfl rfl ?_
      refine rs_gs rfl (lkb g1) rfl rfl ?_
      refine rs_v (v_pick_t (lkb g1) rfl) rfl ?_
      refine rs_nil ?_
      exact q_cut [(0, _), (1, _), (2, _), (3, _), (8, _), (25, _)] ⟨rfl, rfl, rfl, rfl, rfl, rfl, trivial⟩ ⟨K, by rw [show ((!(mostB W 40 && wellB W)) || (decide ((60 : Int) < (steps.length : Int)))) = (true) from by simp only [g1, Bool.true_or, Bool.false_or]]⟩
    · skip
      refine tr_reg ?_
      refine rs_v (v_move rfl) rfl ?_
      refine rs_w (w_call (vs := [_, _]) ok_laws_spanWell rfl ⟨rfl, rfl, trivial⟩ (c_spanWell χ _ _ (all_low _) _ W 40 (RSpans.kk hW K))) rfl ?_
      rintro _ h6 ⟨rfl, K6⟩
      have K := K.new0 K6; have Z6 := K6.1
      refine rs_v (v_not rfl) rfl ?_
      refine rs_v (v_move rfl) rfl ?_
      refine rs_gv rfl (lkb g1) (v_move rfl) rfl ?_
      refine rs_gv rfl (lkb g1) (v_len u_sl_spec_Step rfl) rfl ?_
      refine rs_gv rfl (lkb g1) (v_gt rfl rfl) rfl ?_
      refine rs_v (v_pick_f (lkb g1) rfl) rfl ?_
      refine rs_nil ?_
      exact q_cut [(0, _), (1, _), (2, _), (3, _), (8, _), (25, _)] ⟨rfl, rfl, rfl, rfl, rfl, rfl, trivial⟩ ⟨K, by rw [show ((!(mostB W 40 && wellB W)) || (decide ((60 : Int) < (steps.length : Int)))) = (decide ((60 : Int) < (steps.length : Int))) from by simp only [g1, Bool.true_or, Bool.false_or]]⟩
  rintro E h99 ⟨K, rfl⟩
  refine tr_if rfl (fun hif => ?_) (fun hif => ?_)
  · -- yes
    skip
    refine tr_seq ?_
    refine tr_reg ?_
    refine rs_v (v_assign rfl) rfl ?_
    refine rs_nil ?_
    refine q_thn ?_
    refine tr_ret ?_
    refine q_thn_ret ?_
    refine q_ret (res_tmp rfl rfl) ?_
    exact ⟨rfl, K⟩
  -- no
  simp only [Bool.or_eq_false_iff, Bool.not_eq_false', decide_eq_false_iff_not] at hif
  obtain ⟨hw, hl6⟩ := hif
  obtain ⟨hG, _⟩ := good_of (by decide) hf4 hw
  have hk8 := fit8_small hf8
  refine tr_skip ?_
  refine q_thn ?_
  refine tr_seq ?_
  refine tr_reg ?_
  refine rs_v (v_move rfl) rfl ?_
  refine rs_v (v_move rfl) rfl ?_
  refine rs_v (v_move rfl) rfl ?_
  refine rs_w (w_call (vs := [_, _, _]) ok_spec_SpanFiltered rfl ⟨rfl, rfl, rfl, trivial⟩ (c_SpanFiltered χ _ _ (all_low _) _ W low high (RSpans.kk hW K) hG.n hG.few)) rfl ?_
  rintro hFv h8 ⟨hF, K8⟩
  have hF := RSpans.mono hF (upN K8)
  obtain ⟨hFa, hFc, rfl⟩ := SlR.form2 hF
  have K := K.new0 K8; have Z8 := K8.1
  refine rs_v (v_move rfl) rfl ?_
  refine rs_w (w_call (vs := [_, _]) ok_spec_SpanWalk rfl ⟨rfl, rfl, trivial⟩ (c_SpanWalk χ _ _ (all_low _) _ _ _ steps hF (RSteps.kk hS K) (by omega))) rfl ?_
  rintro hwantv h9 ⟨hwant, K9⟩
  have hwant := RAnss.mono hwant (upA K9)
  obtain ⟨hwanta, hwantc, rfl⟩ := SlR.form2 hwant
  have hF := RSpans.kk hF K9
  have K := K.new0 K9; have Z9 := K9.1
  refine rs_v (v_assign rfl) rfl ?_
  refine rs_nil ?_
  refine q_thn ?_
  refine tr_seq ?_
  refine tr_reg ?_
  refine rs_v (v_move rfl) rfl ?_
  refine rs_w (w_call (vs := [_]) ok_laws_toSpans rfl ⟨rfl, trivial⟩ (c_toSpans χ _ _ (all_low _) _ W (RSpans.kk hW K) hG.n hG.few)) rfl ?_
  rintro hPv h10 ⟨hP, K10⟩
  have hP := RSpans.mono hP (upA K10)
  obtain ⟨hPa, hPc, rfl⟩ := SlR.form2 hP
  have hF := RSpans.kk hF K10
  have hwant := RAnss.kk hwant K10
  have K := K.new0 K10; have Z10 := K10.1
  refine rs_v (v_move rfl) rfl ?_
  refine rs_v (v_move rfl) rfl ?_
  refine rs_v (v_move rfl) rfl ?_
  refine rs_w (w_call (vs := [_]) ok_laws_toSteps rfl ⟨rfl, trivial⟩ (c_toSteps χ _ _ (all_low _) _ steps (RSteps.kk hS K) (by omega))) rfl ?_
  rintro hQv h11 ⟨hQ, K11⟩
  have hQ := RSteps.mono hQ (upA K11)
  obtain ⟨hQa, hQc, rfl⟩ := SlR.form2 hQ
  have hF := RSpans.kk hF K11
  have hwant := RAnss.kk hwant K11
  have hP := RSpans.kk hP K11
  have K := K.new0 K11; have Z11 := K11.1
  refine rs_w (w_call (vs := [_, _, _, _]) ok_impl_SpanFiltered rfl ⟨rfl, rfl, rfl, rfl, trivial⟩ (c_implSpanFiltered χ _ _ (all_low _) _ _ W steps low high hP hG.n hG.small hG.ord hQ (by omega) hk8)) rfl ?_
  rintro hgotv h12 ⟨hgot, K12⟩
  have hgot := RAnss.mono hgot (upN K12)
  obtain ⟨hgota, hgotc, rfl⟩ := SlR.form2 hgot
  have hF := RSpans.kk hF K12
  have hwant := RAnss.kk hwant K12
  have hP := RSpans.kk hP K12
  have hQ := RSteps.kk hQ K12
  have K := K.new0 K12; have Z12 := K12.1
  refine rs_v (v_move rfl) rfl ?_
  refine rs_w (w_call (vs := [_, _]) ok_laws_spanAnswers rfl ⟨rfl, rfl, trivial⟩ (c_spanAnswers χ _ _ _ (all_low _) (all_low _) _ _ _ _ hgot hwant (ansLike_walk (ffS_desc hG) _ _))) rfl ?_
  rintro _ h13 ⟨rfl, K13⟩
  have hF := RSpans.kk hF K13
  have hwant := RAnss.kk hwant K13
  have hP := RSpans.kk hP K13
  have hQ := RSteps.kk hQ K13
  have hgot := RAnss.kk hgot K13
  have K := K.new0 K13; have Z13 := K13.1
  refine rs_v (v_move rfl) rfl ?_
  refine rs_gw rfl (rfl) (w_call (vs := []) ok_laws_spanSome rfl trivial (c_spanSome χ _)) rfl ?_
  rintro hP2v h14 ⟨hP2, K14⟩
  have hP2 := RSpans.mono hP2 (upN K14)
  obtain ⟨hP2a, hP2c, rfl⟩ := SlR.form2 hP2
  have hF := RSpans.kk hF K14
  have hwant := RAnss.kk hwant K14
  have hP := RSpans.kk hP K14
  have hQ := RSteps.kk hQ K14
  have hgot := RAnss.kk hgot K14
  have K := K.new0 K14; have Z14 := K14.1
  refine rs_gw rfl (rfl) (w_call (vs := []) ok_laws_spanStart rfl trivial (c_spanStart χ _)) rfl ?_
  rintro hQ2v h15 ⟨hQ2, K15⟩
  have hQ2 := RSteps.mono hQ2 (upN K15)
  obtain ⟨hQ2a, hQ2c, rfl⟩ := SlR.form2 hQ2
  have hF := RSpans.kk hF K15
  have hwant := RAnss.kk hwant K15
  have hP := RSpans.kk hP K15
  have hQ := RSteps.kk hQ K15
  have hgot := RAnss.kk hgot K15
  have hP2 := RSpans.kk hP2 K15
  have K := K.new0 K15; have Z15 := K15.1
  refine rs_gw rfl (rfl) (w_call (vs := [_, _, _, _]) ok_impl_SpanFiltered rfl ⟨rfl, rfl, rfl, rfl, trivial⟩ (c_implSpanFiltered χ _ _ (all_low _) _ _ someW startS 0 256 hP2 some_good.n some_good.small some_good.ord hQ2 (by decide) start_small)) rfl ?_
  rintro hg2v h16 ⟨hg2, K16⟩
  have hg2 := RAnss.mono hg2 (upN K16)
  obtain ⟨hg2a, hg2c, rfl⟩ := SlR.form2 hg2
  have hF := RSpans.kk hF K16
  have hwant := RAnss.kk hwant K16
  have hP := RSpans.kk hP K16
  have hQ := RSteps.kk hQ K16
  have hgot := RAnss.kk hgot K16
  have hP2 := RSpans.kk hP2 K16
  have hQ2 := RSteps.kk hQ2 K16
  have K := K.new0 K16; have Z16 := K16.1
  refine rs_gw rfl (rfl) (w_call (vs := [_]) ok_laws_spanFound rfl ⟨rfl, trivial⟩ (c_spanFound χ _ _ _ ⟨true, true, ⟨⟨#[97]⟩, ⟨#[98]⟩, [⟨256, ByteArray.empty, ByteArray.empty⟩]⟩⟩ hg2)) rfl ?_
  rintro _ h17 ⟨rfl, K17⟩
  have hF := RSpans.kk hF K17
  have hwant := RAnss.kk hwant K17
  have hP := RSpans.kk hP K17
  have hQ := RSteps.kk hQ K17
  have hgot := RAnss.kk hgot K17
  have hP2 := RSpans.kk hP2 K17
  have hQ2 := RSteps.kk hQ2 K17
  have hg2 := RAnss.kk hg2 K17
  have K := K.new0 K17; have Z17 := K17.1
  refine rs_v (v_pick_t rfl rfl) rfl ?_
  refine rs_v (v_assign rfl) rfl ?_
  refine rs_nil ?_
  refine q_thn ?_
  refine tr_ret ?_
  refine q_ret (res_tmp rfl rfl) ?_
  exact ⟨rfl, K⟩
end Go.Proofs.Ytgebfbnndgjkiaa
