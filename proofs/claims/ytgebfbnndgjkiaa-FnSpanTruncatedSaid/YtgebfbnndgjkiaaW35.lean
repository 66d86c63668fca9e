/- Thirty-fifth part: the law of truncated spans, walked. Conditions: those that each theorem names. -/
import Derived.Test.YtgebfbnndgjkiaaW34
set_option linter.unusedVariables false
set_option linter.unusedSimpArgs false
namespace Go.Proofs.Ytgebfbnndgjkiaa
open Go.Tess Go.RowKit
set_option maxRecDepth 100000
set_option maxHeartbeats 1000000
theorem ffT_desc {st en : Option ByteArray} {lo up : ByteArray} {W : List SpanD} (hG : Good W) : ∀ s, s ∈ W.filterMap (ffT st en lo up) → descB s.ks = true ∧ few s := by
  intro s hs
  obtain ⟨x, hx, hf⟩ := List.mem_filterMap.1 hs
  obtain ⟨_, rfl⟩ := ffT_some hf
  exact ⟨(hG.full x hx).2.2.1, hG.few x hx⟩
theorem Good.ne {W : List SpanD} (h : Good W) : ∀ s, s ∈ W → s.ks ≠ [] := fun s hs => (h.full s hs).2.1
theorem aa_lt : slt ⟨#[97]⟩ ⟨#[97]⟩ = false := by rw [slt_cmp]; decide
theorem bb_lt : slt ⟨#[98]⟩ ⟨#[98]⟩ = false := by rw [slt_cmp]; decide
theorem someT : someW.filterMap (ffT none none ⟨#[97]⟩ ⟨#[98]⟩) = someW := by
  have h1 : ffT none none ⟨#[97]⟩ ⟨#[98]⟩ ⟨⟨#[97]⟩, ⟨#[98]⟩, [⟨256, ByteArray.empty, ByteArray.empty⟩]⟩ = some ⟨⟨#[97]⟩, ⟨#[98]⟩, [⟨256, ByteArray.empty, ByteArray.empty⟩]⟩ := by
    rw [ffT_plain]
    simp only [cutLo, cutUp, aa_lt, bb_lt, Bool.false_eq_true, if_false, ab_lt, if_true]
  simp only [someW, List.filterMap_cons, h1, List.filterMap_nil]

theorem c_FnSpanTruncated (χ : Chi) (h : Heap) (A : Nat → Prop) (hA : Low A h) (v sv : Value) (W : List SpanD) (steps : List StepD) (lo up : ByteArray) (hW : RSpans A h v W) (hS : RSteps A h sv steps) :
    Cl Try.prog χ 8 #[v, .string lo, .string up, sv] h (fun r h' => r = .bool true ∧ Keep [] h h') := by
  have hW := RSpans.mono hW hA
  have hS := RSteps.mono hS hA
  obtain ⟨a, c, rfl⟩ := SlR.form2 hW
  obtain ⟨a2, c2, rfl⟩ := SlR.form2 hS
  refine cl_intro Try.func8 rfl rfl rfl ?_
  have K : Keep [] h h := Keep.refl _ _
  refine tr_seq ?_
  refine tr_reg ?_
  refine rs_v (v_assign rfl) rfl ?_
  refine rs_nil ?_
  refine q_thn ?_
  refine tr_seq ?_
  refine tr_cut (fun E h' => Keep [] h h' ∧ E = [(0, .slice a W.length c), (1, .string lo), (2, .string up), (3, .slice a2 steps.length c2), (8, .bool false), (26, .bool ((!fit4 W) || (decide ((2147483647 : Int) < (lo.size : Int))) || (decide ((2147483647 : Int) < (up.size : Int))) || (!fit8 steps)))]) ?_ ?_
  ·
    rcases bsplit4 (!fit4 W) (decide ((2147483647 : Int) < (lo.size : Int))) (decide ((2147483647 : Int) < (up.size : Int))) with g1 | ⟨g1, g2⟩ | ⟨g1, g2, g3⟩ | ⟨g1, g2, g3⟩
    · skip
      refine tr_reg ?_
      refine rs_v (v_move rfl) rfl ?_
      refine rs_w (w_call (vs := [_]) ok_laws_zzFits4 rfl ⟨rfl, trivial⟩ (c_zzFits4 χ h (All h) (all_low h) _ W hW)) rfl ?_
      rintro _ h1 ⟨rfl, K1⟩
      have K := K.new0 K1; have Z1 := K1.1
      refine rs_v (v_not rfl) rfl ?_
      refine rs_v (v_move rfl) rfl ?_
      refine rs_gs rfl (lkb g1) rfl rfl ?_
      refine rs_gs rfl (lkb g1) rfl rfl ?_
      refine rs_gs rfl (lkb g1) rfl rfl ?_
      refine rs_v (v_pick_t (lkb g1) rfl) rfl ?_
      refine rs_v (v_move rfl) rfl ?_
      refine rs_gs rfl (rfl) rfl rfl ?_
      refine rs_gs rfl (rfl) rfl rfl ?_
      refine rs_gs rfl (rfl) rfl rfl ?_
      refine rs_v (v_pick_t rfl rfl) rfl ?_
      refine rs_v (v_move rfl) rfl ?_
      refine rs_gs rfl (rfl) rfl rfl ?_
      refine rs_gs rfl (rfl) rfl rfl ?_
      refine rs_gs rfl (rfl) rfl rfl ?_
      refine rs_v (v_pick_t rfl rfl) rfl ?_
      refine rs_nil ?_
      exact q_cut [(0, _), (1, _), (2, _), (3, _), (8, _), (26, _)] ⟨rfl, rfl, rfl, rfl, rfl, rfl, trivial⟩ ⟨K, by rw [show ((!fit4 W) || (decide ((2147483647 : Int) < (lo.size : Int))) || (decide ((2147483647 : Int) < (up.size : Int))) || (!fit8 steps)) = (true) from by simp only [g1, Bool.true_or, Bool.false_or]]⟩
    · skip
      refine tr_reg ?_
      refine rs_v (v_move rfl) rfl ?_
      refine rs_w (w_call (vs := [_]) ok_laws_zzFits4 rfl ⟨rfl, trivial⟩ (c_zzFits4 χ h (All h) (all_low h) _ W hW)) rfl ?_
      rintro _ h2 ⟨rfl, K2⟩
      have K := K.new0 K2; have Z2 := K2.1
      refine rs_v (v_not rfl) rfl ?_
      refine rs_v (v_move rfl) rfl ?_
      refine rs_gv rfl (lkb g1) (v_move rfl) rfl ?_
      refine rs_gv rfl (lkb g1) (v_lenStr u_string rfl) rfl ?_
      refine rs_gv rfl (lkb g1) (v_gt rfl rfl) rfl ?_
      refine rs_v (v_pick_f (lkb g1) rfl) rfl ?_
      refine rs_v (v_move rfl) rfl ?_
      refine rs_gs rfl (lkb g2) rfl rfl ?_
      refine rs_gs rfl (lkb g2) rfl rfl ?_
      refine rs_gs rfl (lkb g2) rfl rfl ?_
      refine rs_v (v_pick_t (lkb g2) rfl) rfl ?_
      refine rs_v (v_move rfl) rfl ?_
      refine rs_gs rfl (rfl) rfl rfl ?_
      refine rs_gs rfl (rfl) rfl rfl ?_
      refine rs_gs rfl (rfl) rfl rfl ?_
      refine rs_v (v_pick_t rfl rfl) rfl ?_
      refine rs_nil ?_
      exact q_cut [(0, _), (1, _), (2, _), (3, _), (8, _), (26, _)] ⟨rfl, rfl, rfl, rfl, rfl, rfl, trivial⟩ ⟨K, by rw [show ((!fit4 W) || (decide ((2147483647 : Int) < (lo.size : Int))) || (decide ((2147483647 : Int) < (up.size : Int))) || (!fit8 steps)) = (true) from by simp only [g1, g2, Bool.true_or, Bool.false_or]]⟩
    · skip
      refine tr_reg ?_
      refine rs_v (v_move rfl) rfl ?_
      refine rs_w (w_call (vs := [_]) ok_laws_zzFits4 rfl ⟨rfl, trivial⟩ (c_zzFits4 χ h (All h) (all_low h) _ W hW)) rfl ?_
      rintro _ h3 ⟨rfl, K3⟩
      have K := K.new0 K3; have Z3 := K3.1
      refine rs_v (v_not rfl) rfl ?_
      refine rs_v (v_move rfl) rfl ?_
      refine rs_gv rfl (lkb g1) (v_move rfl) rfl ?_
      refine rs_gv rfl (lkb g1) (v_lenStr u_string rfl) rfl ?_
      refine rs_gv rfl (lkb g1) (v_gt rfl rfl) rfl ?_
      refine rs_v (v_pick_f (lkb g1) rfl) rfl ?_
      refine rs_v (v_move rfl) rfl ?_
      refine rs_gv rfl (lkb g2) (v_move rfl) rfl ?_
      refine rs_gv rfl (lkb g2) (v_lenStr u_string rfl) rfl ?_
      refine rs_gv rfl (lkb g2) (v_gt rfl rfl) rfl ?_
      refine rs_v (v_pick_f (lkb g2) rfl) rfl ?_
      refine rs_v (v_move rfl) rfl ?_
      refine rs_gs rfl (lkb g3) rfl rfl ?_
      refine rs_gs rfl (lkb g3) rfl rfl ?_
      refine rs_gs rfl (lkb g3) rfl rfl ?_
      refine rs_v (v_pick_t (lkb g3) rfl) rfl ?_
      refine rs_nil ?_
      exact q_cut [(0, _), (1, _), (2, _), (3, _), (8, _), (26, _)] ⟨rfl, rfl, rfl, rfl, rfl, rfl, trivial⟩ ⟨K, by rw [show ((!fit4 W) || (decide ((2147483647 : Int) < (lo.size : Int))) || (decide ((2147483647 : Int) < (up.size : Int))) || (!fit8 steps)) = (true) from by simp only [g1, g2, g3, Bool.true_or, Bool.false_or]]⟩
    · skip
      refine tr_reg ?_
      refine rs_v (v_move rfl) rfl ?_
      refine rs_w (w_call (vs := [_]) ok_laws_zzFits4 rfl ⟨rfl, trivial⟩ (c_zzFits4 χ h (All h) (all_low h) _ W hW)) rfl ?_
      rintro _ h4 ⟨rfl, K4⟩
      have K := K.new0 K4; have Z4 := K4.1
      refine rs_v (v_not rfl) rfl ?_
      refine rs_v (v_move rfl) rfl ?_
      refine rs_gv rfl (lkb g1) (v_move rfl) rfl ?_
      refine rs_gv rfl (lkb g1) (v_lenStr u_string rfl) rfl ?_
      refine rs_gv rfl (lkb g1) (v_gt rfl rfl) rfl ?_
      refine rs_v (v_pick_f (lkb g1) rfl) rfl ?_
      refine rs_v (v_move rfl) rfl ?_
      refine rs_gv rfl (lkb g2) (v_move rfl) rfl ?_
      refine rs_gv rfl (lkb g2) (v_lenStr u_string rfl) rfl ?_
      refine rs_gv rfl (lkb g2) (v_gt rfl rfl) rfl ?_
      refine rs_v (v_pick_f (lkb g2) rfl) rfl ?_
      refine rs_v (v_move rfl) rfl ?_
      refine rs_gv rfl (lkb g3) (v_move rfl) rfl ?_
      refine rs_gw rfl (lkb g3) (w_call (vs := [_]) ok_laws_zzFits8 rfl ⟨rfl, trivial⟩ (c_zzFits8 χ _ _ _ steps (RSteps.kk hS K))) rfl ?_
      rintro _ h5 ⟨rfl, K5⟩
      have K := K.new0 K5; have Z5 := K5.1
      refine rs_gv rfl (lkb g3) (v_not rfl) rfl ?_
      refine rs_v (v_pick_f (lkb g3) rfl) rfl ?_
      refine rs_nil ?_
      exact q_cut [(0, _), (1, _), (2, _), (3, _), (8, _), (26, _)] ⟨rfl, rfl, rfl, rfl, rfl, rfl, trivial⟩ ⟨K, by rw [show ((!fit4 W) || (decide ((2147483647 : Int) < (lo.size : Int))) || (decide ((2147483647 : Int) < (up.size : Int))) || (!fit8 steps)) = (!fit8 steps) from by simp only [g1, g2, g3, Bool.true_or, Bool.false_or]]⟩
  rintro E h99 ⟨K, rfl⟩
  refine tr_if rfl (fun hif => ?_) (fun hif => ?_)
  · -- yes
    skip
    refine tr_seq ?_
    refine tr_reg ?_
    refine rs_v (v_assign rfl) rfl ?_
    refine rs_nil ?_
    refine q_thn ?_
    refine tr_ret ?_
    refine q_thn_ret ?_
    refine q_ret (res_tmp rfl rfl) ?_
    exact ⟨rfl, K⟩
  -- no
  simp only [Bool.or_eq_false_iff, Bool.not_eq_false', decide_eq_false_iff_not] at hif
  obtain ⟨⟨⟨hf4, hlo⟩, hup⟩, hf8⟩ := hif
  refine tr_skip ?_
  refine q_thn ?_
  refine tr_seq ?_
  refine tr_cut (fun E h' => Keep [] h h' ∧ E = [(0, .slice a W.length c), (1, .string lo), (2, .string up), (3, .slice a2 steps.length c2), (8, .bool false), (34, .bool ((!(mostB W 40 && wellB W)) || (decide ((60 : Int) < (steps.length : Int)))))]) ?_ ?_
  ·
    rcases bsplit2 (!(mostB W 40 && wellB W)) with g1 | g1
    · skip
      refine tr_reg ?_
      refine rs_v (v_move rfl) rfl ?_
      refine rs_w (w_call (vs := [_, _]) ok_laws_spanWell rfl ⟨rfl, rfl, trivial⟩ (c_spanWell χ _ _ (all_low _) _ W 40 (RSpans.kk hW K))) rfl ?_
      rintro _ h7 ⟨rfl, K7⟩
      have K := K.new0 K7; have Z7 := K7.1
      refine rs_v (v_not rfl) rfl ?_
      refine rs_v (v_move rfl) rfl ?_
      refine rs_gs rfl (lkb g1) rfl rfl ?_
      refine rs_gs rfl (lkb g1) rfl rfl ?_
      refine rs_gs rfl (lkb g1) rfl rfl ?_
      refine rs_v (v_pick_t (lkb g1) rfl) rfl ?_
      refine rs_nil ?_
      exact q_cut [(0, _), (1, _), (2, _), (3, _), (8, _), (34, _)] ⟨rfl, rfl, rfl, rfl, rfl, rfl, trivial⟩ ⟨K, by rw [show ((!(mostB W 40 && wellB W)) || (decide ((60 : Int) < (steps.length : Int)))) = (true) from by simp only [g1, Bool.true_or, Bool.false_or]]⟩
    · skip
      refine tr_reg ?_
      refine rs_v (v_move rfl) rfl ?_
      refine rs_w (w_call (vs := [_, _]) ok_laws_spanWell rfl ⟨rfl, rfl, trivial⟩ (c_spanWell χ _ _ (all_low _) _ W 40 (RSpans.kk hW K))) rfl ?_
      rintro _ h8 ⟨rfl, K8⟩
      have K := K.new0 K8; have Z8 := K8.1
      refine rs_v (v_not rfl) rfl ?_
      refine rs_v (v_move rfl) rfl ?_
      refine rs_gv rfl (lkb g1) (v_move rfl) rfl ?_
      refine rs_gv rfl (lkb g1) (v_len u_sl_spec_Step rfl) rfl ?_
      refine rs_gv rfl (lkb g1) (v_gt rfl rfl) rfl ?_
      refine rs_v (v_pick_f (lkb g1) rfl) rfl ?_
      refine rs_nil ?_
      exact q_cut [(0, _), (1, _), (2, _), (3, _), (8, _), (34, _)] ⟨rfl, rfl, rfl, rfl, rfl, rfl, trivial⟩ ⟨K, by rw [show ((!(mostB W 40 && wellB W)) || (decide ((60 : Int) < (steps.length : Int)))) = (decide ((60 : Int) < (steps.length : Int))) from by simp only [g1, Bool.true_or, Bool.false_or]]⟩
  rintro E h99 ⟨K, rfl⟩
  refine tr_if rfl (fun hif => ?_) (fun hif => ?_)
  · -- yes
    skip
    refine tr_seq ?_
    refine tr_reg ?_
    refine rs_v (v_assign rfl) rfl ?_
    refine rs_nil ?_
    refine q_thn ?_
    refine tr_ret ?_
    refine q_thn_ret ?_
    refine q_ret (res_tmp rfl rfl) ?_
    exact ⟨rfl, K⟩
  -- no
  simp only [Bool.or_eq_false_iff, Bool.not_eq_false', decide_eq_false_iff_not] at hif
  obtain ⟨hw, hl6⟩ := hif
  obtain ⟨hG, _⟩ := good_of (by decide) hf4 hw
  have hk8 := fit8_small hf8
  refine tr_skip ?_
  refine q_thn ?_
  refine tr_seq ?_
  refine tr_reg ?_
  refine rs_v (v_move rfl) rfl ?_
  refine rs_w (w_call (vs := [_]) ok_laws_toSpans rfl ⟨rfl, trivial⟩ (c_toSpans χ _ _ (all_low _) _ W (RSpans.kk hW K) hG.n hG.few)) rfl ?_
  rintro hPv h10 ⟨hP, K10⟩
  have hP := RSpans.mono hP (upA K10)
  obtain ⟨hPa, hPc, rfl⟩ := SlR.form2 hP
  have K := K.new0 K10; have Z10 := K10.1
  refine rs_v (v_move rfl) rfl ?_
  refine rs_v (v_move rfl) rfl ?_
  refine rs_v (v_move rfl) rfl ?_
  refine rs_w (w_call (vs := [_]) ok_laws_toSteps rfl ⟨rfl, trivial⟩ (c_toSteps χ _ _ (all_low _) _ steps (RSteps.kk hS K) (by omega))) rfl ?_
  rintro hQv h11 ⟨hQ, K11⟩
  have hQ := RSteps.mono hQ (upA K11)
  obtain ⟨hQa, hQc, rfl⟩ := SlR.form2 hQ
  have hP := RSpans.kk hP K11
  have K := K.new0 K11; have Z11 := K11.1
  refine rs_w (w_call (vs := [_, _, _, _]) ok_impl_SpanTruncated rfl ⟨rfl, rfl, rfl, rfl, trivial⟩ (c_implSpanTruncated χ _ _ (all_low _) _ _ W steps lo up hP hG.n hG.small hG.ne hG.ord (by omega) (by omega) hQ (by omega) hk8)) rfl ?_
  rintro hgotv h12 ⟨hgot, K12⟩
  have hgot := RAnss.mono hgot (upN K12)
  obtain ⟨hgota, hgotc, rfl⟩ := SlR.form2 hgot
  have hP := RSpans.kk hP K12
  have hQ := RSteps.kk hQ K12
  have K := K.new0 K12; have Z12 := K12.1
  refine rs_v (v_move rfl) rfl ?_
  refine rs_v (v_move rfl) rfl ?_
  refine rs_v (v_move rfl) rfl ?_
  refine rs_w (w_call (vs := [_, _, _]) ok_spec_SpanTruncated rfl ⟨rfl, rfl, rfl, trivial⟩ (c_SpanTruncated χ _ _ (all_low _) _ W lo up (RSpans.kk hW K) hG.n)) rfl ?_
  rintro hFv h13 ⟨hF, K13⟩
  have hF := RSpans.mono hF (upA K13)
  obtain ⟨hFa, hFc, rfl⟩ := SlR.form2 hF
  have hP := RSpans.kk hP K13
  have hQ := RSteps.kk hQ K13
  have hgot := RAnss.kk hgot K13
  have K := K.new0 K13; have Z13 := K13.1
  refine rs_v (v_move rfl) rfl ?_
  refine rs_w (w_call (vs := [_, _]) ok_spec_SpanWalk rfl ⟨rfl, rfl, trivial⟩ (c_SpanWalk χ _ _ (all_low _) _ _ _ steps hF (RSteps.kk hS K) (by omega))) rfl ?_
  rintro hwantv h14 ⟨hwant, K14⟩
  have hwant := RAnss.mono hwant (upA K14)
  obtain ⟨hwanta, hwantc, rfl⟩ := SlR.form2 hwant
  have hP := RSpans.kk hP K14
  have hQ := RSteps.kk hQ K14
  have hgot := RAnss.kk hgot K14
  have hF := RSpans.kk hF K14
  have K := K.new0 K14; have Z14 := K14.1
  refine rs_w (w_call (vs := [_, _]) ok_laws_spanAnswers rfl ⟨rfl, rfl, trivial⟩ (c_spanAnswers χ _ _ _ (all_low _) (all_low _) _ _ _ _ hgot hwant (ansLike_walk (ffT_desc hG) _ _))) rfl ?_
  rintro _ h15 ⟨rfl, K15⟩
  have hP := RSpans.kk hP K15
  have hQ := RSteps.kk hQ K15
  have hgot := RAnss.kk hgot K15
  have hF := RSpans.kk hF K15
  have hwant := RAnss.kk hwant K15
  have K := K.new0 K15; have Z15 := K15.1
  refine rs_v (v_move rfl) rfl ?_
  refine rs_gw rfl (rfl) (w_call (vs := []) ok_laws_spanSome rfl trivial (c_spanSome χ _)) rfl ?_
  rintro hP2v h16 ⟨hP2, K16⟩
  have hP2 := RSpans.mono hP2 (upN K16)
  obtain ⟨hP2a, hP2c, rfl⟩ := SlR.form2 hP2
  have hP := RSpans.kk hP K16
  have hQ := RSteps.kk hQ K16
  have hgot := RAnss.kk hgot K16
  have hF := RSpans.kk hF K16
  have hwant := RAnss.kk hwant K16
  have K := K.new0 K16; have Z16 := K16.1
  refine rs_gw rfl (rfl) (w_call (vs := []) ok_laws_spanStart rfl trivial (c_spanStart χ _)) rfl ?_
  rintro hQ2v h17 ⟨hQ2, K17⟩
  have hQ2 := RSteps.mono hQ2 (upN K17)
  obtain ⟨hQ2a, hQ2c, rfl⟩ := SlR.form2 hQ2
  have hP := RSpans.kk hP K17
  have hQ := RSteps.kk hQ K17
  have hgot := RAnss.kk hgot K17
  have hF := RSpans.kk hF K17
  have hwant := RAnss.kk hwant K17
  have hP2 := RSpans.kk hP2 K17
  have K := K.new0 K17; have Z17 := K17.1
  refine rs_gw rfl (rfl) (w_call (vs := [_, _, _, _]) ok_impl_SpanTruncated rfl ⟨rfl, rfl, rfl, rfl, trivial⟩ (c_implSpanTruncated χ _ _ (all_low _) _ _ someW startS ⟨#[97]⟩ ⟨#[98]⟩ hP2 some_good.n some_good.small some_good.ne some_good.ord (by decide) (by decide) hQ2 (by decide) start_small)) rfl ?_
  rintro hg2v h18 ⟨hg2, K18⟩
  rw [someT] at hg2
  have hg2 := RAnss.mono hg2 (upN K18)
  obtain ⟨hg2a, hg2c, rfl⟩ := SlR.form2 hg2
  have hP := RSpans.kk hP K18
  have hQ := RSteps.kk hQ K18
  have hgot := RAnss.kk hgot K18
  have hF := RSpans.kk hF K18
  have hwant := RAnss.kk hwant K18
  have hP2 := RSpans.kk hP2 K18
  have hQ2 := RSteps.kk hQ2 K18
  have K := K.new0 K18; have Z18 := K18.1
  refine rs_gw rfl (rfl) (w_call (vs := [_]) ok_laws_spanFound rfl ⟨rfl, trivial⟩ (c_spanFound χ _ _ _ ⟨true, true, ⟨⟨#[97]⟩, ⟨#[98]⟩, [⟨256, ByteArray.empty, ByteArray.empty⟩]⟩⟩ hg2)) rfl ?_
  rintro _ h19 ⟨rfl, K19⟩
  have hP := RSpans.kk hP K19
  have hQ := RSteps.kk hQ K19
  have hgot := RAnss.kk hgot K19
  have hF := RSpans.kk hF K19
  have hwant := RAnss.kk hwant K19
  have hP2 := RSpans.kk hP2 K19
  have hQ2 := RSteps.kk hQ2 K19
  have hg2 := RAnss.kk hg2 K19
  have K := K.new0 K19; have Z19 := K19.1
  refine rs_v (v_pick_t rfl rfl) rfl ?_
  refine rs_v (v_assign rfl) rfl ?_
  refine rs_nil ?_
  refine q_thn ?_
  refine tr_ret ?_
  refine q_ret (res_tmp rfl rfl) ?_
  exact ⟨rfl, K⟩
end Go.Proofs.Ytgebfbnndgjkiaa
