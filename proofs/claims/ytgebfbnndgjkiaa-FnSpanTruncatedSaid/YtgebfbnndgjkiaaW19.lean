/- Nineteenth part: how the filtering iterator searches. Conditions: those that each theorem names. -/
import Derived.Test.YtgebfbnndgjkiaaW18
set_option linter.unusedVariables false
set_option linter.unusedSimpArgs false
namespace Go.Proofs.Ytgebfbnndgjkiaa
open Go.Tess Go.RowKit
set_option maxRecDepth 100000
set_option maxHeartbeats 1000000
def mF (W : List SpanD) : Pos → Nat
  | .pt i => W.length - i
  | _ => 0
def mB : Pos → Nat
  | .pt i => i + 1
  | _ => 0
theorem mF_next {W : List SpanD} {i : Nat} (hi : i < W.length) : mF W (pNext W (.pt i)) < mF W (.pt i) := by
  simp only [pNext]
  by_cases e : i + 1 < W.length
  · rw [if_pos e]; simp only [mF]; omega
  · rw [if_neg e]; simp only [mF]; omega
theorem mB_prev {W : List SpanD} {i : Nat} : mB (pPrev W (.pt i)) < mB (.pt i) := by
  simp only [pPrev]
  by_cases e : i = 0
  · rw [if_pos e]; simp only [mB]; omega
  · rw [if_neg e]; simp only [mB]; omega
theorem in_next {W : List SpanD} {i : Nat} : ∀ j, pNext W (.pt i) = .pt j → j < W.length := by
  intro j h
  simp only [pNext] at h
  by_cases e : i + 1 < W.length
  · rw [if_pos e] at h; cases h; exact e
  · rw [if_neg e] at h; cases h
theorem in_prev {W : List SpanD} {i : Nat} (hi : i < W.length) : ∀ j, pPrev W (.pt i) = .pt j → j < W.length := by
  intro j h
  simp only [pPrev] at h
  by_cases e : i = 0
  · rw [if_pos e] at h; cases h
  · rw [if_neg e] at h; cases h; omega
theorem cur_some {W : List SpanD} {q : Pos} {s : SpanD} (h : cur W q = some s) : ∃ i, q = .pt i ∧ W[i]? = some s := by
  cases q with
  | pt i => exact ⟨i, rfl, h⟩
  | _ => simp [cur] at h

theorem c_filterF {χ : Chi} {ff : SpanD → Option SpanD} {fv : Value} {G0 : Nat → Prop} {Env : Heap → Prop} {W : List SpanD} {t : TypeId} {v0 : Value} {I : ItI} {c : Nat} {q : Pos} {Fin F : Nat → Prop} {h : Heap} {sv ev kv : Value} {kk : Int} {n : Nat} {xs : List Value} {r0 : Value}
    (hit : IterOK Try.prog χ W t v0 I) (hfn : FnOK χ W ff fv G0 Env) (hWn : ∀ s, s ∈ W → s.ks.length ≤ 100000) (hin : ∀ i, q = .pt i → i < W.length) (hs0 : FSt I t v0 fv c G0 Env q Fin F h sv ev kv kk n xs) (hret0 : Ret W q Fin h r0) :
    Cl Try.prog χ 168 #[.pointer (some ⟨c, 0, none⟩), r0, .int .i8 1] h (ItPost (W.filterMap ff) (FIt ff W I t v0 fv c G0 Env) F h (fwdP ff W q)) := by
  have hfn0 := hfn
  obtain ⟨f, cap, rfl, hokf, hcl⟩ := hfn0.form
  have Bc := hs0.2.1
  obtain ⟨q0, rfl, _⟩ := hret0.form
  refine cl_intro Try.func168 rfl rfl rfl ?_
  have K : Keep [] h h := Keep.refl _ _
  refine tr_seq ?_
  refine tr_reg ?_
  refine rs_v (v_assign rfl) rfl ?_
  refine rs_nil ?_
  refine q_thn ?_
  refine tr_seq ?_
  refine tr_seq ?_
  refine tr_reg ?_
  refine rs_v (v_move rfl) rfl ?_
  refine rs_v (v_nilCheck_ptr rfl) rfl ?_
  refine rs_v (v_fieldAddr fa_keyspan_filteringIter_1 rfl) rfl ?_
  refine rs_v (v_load one_keyspan_FilterFunc rfl (by exact Bc.cell _ rfl)) rfl ?_
  refine rs_v (v_feq isf_keyspan_FilterFunc rfl rfl) rfl ?_
  refine rs_nil ?_
  refine q_thn ?_
  refine tr_if_f rfl ?_
  refine tr_skip ?_
  refine q_thn ?_
  refine tr_seq ?_
  refine tr_block ?_
  refine tr_loop (fun m E h' => ∃ q1 Fin1 F1 sv1 ev1 kv1 n1 xs1 qv, (∀ i, q1 = .pt i → i < W.length) ∧ m = mF W q1 ∧ E = [(0, .pointer (some ⟨c, 0, none⟩)), (1, .pointer qv), (2, .int .i8 1)] ∧ FSt I t v0 (.func (.func f) #[] (List.toArray cap)) c G0 Env q1 Fin1 F1 h' sv1 ev1 kv1 kk n1 xs1 ∧ KeepP F h h' ∧ (∀ b, F1 b → F b ∨ h.size ≤ b) ∧ Ret W q1 Fin1 h' (.pointer qv) ∧ fwdP ff W q1 = fwdP ff W q) (mF W q) [(0, _), (1, _), (2, _)] ⟨rfl, rfl, rfl, trivial⟩ ⟨q, Fin, F, sv, ev, kv, n, xs, q0, hin, rfl, rfl, hs0, KeepP.refl _ _, fun b hb => .inl hb, hret0, rfl⟩ ?_
  rintro m E hL1 ⟨q1, Fin1, F1, sv1, ev1, kv1, n1, xs1, qv, hin1, rfl, rfl, hs, KP, hF1, hret, hfw⟩
  have Bc := hs.2.1
  obtain ⟨qv', e', hq⟩ := hret.form
  cases e'
  refine tr_seq ?_
  refine tr_seq ?_
  refine tr_reg ?_
  refine rs_v (v_move rfl) rfl ?_
  refine rs_w (w_call (vs := [_]) ok_keyspan_filteringIter_Error rfl ⟨rfl, trivial⟩ (c_FiError χ hit _ c q1 Fin1 _ hs.1 Bc)) rfl ?_
  rintro _ h2 ⟨rfl, hsame⟩; have hsame := hsame.symm; subst hsame
  refine rs_v (v_ieq_nil isi_error rfl rfl) rfl ?_
  refine rs_v (v_move rfl) rfl ?_
  refine rs_gv rfl rfl (v_move rfl) rfl ?_
  refine rs_gv rfl rfl (v_pne u_p_keyspan_Span rfl rfl) rfl ?_
  refine rs_v (v_pick_t rfl rfl) rfl ?_
  refine rs_nil ?_
  refine q_thn ?_
  refine tr_ifn rfl (fun hif => ?_) (fun hif => ?_)
  · -- no
    skip
    refine tr_exit ?_
    refine q_thn_exit ?_
    refine q_lp_exit ?_
    refine q_blk_hit ?_
    refine q_thn ?_
    refine tr_seq ?_
    refine tr_reg ?_
    refine rs_v (v_move rfl) rfl ?_
    refine rs_v (v_assign rfl) rfl ?_
    refine rs_nil ?_
    refine q_thn ?_
    refine tr_ret ?_
    refine q_ret (res_tmp rfl rfl) ?_
    rcases hq with ⟨rfl, hcur⟩ | ⟨s, b, o, rfl, _⟩
    rotate_left
    · simp at hif
    have hq1 : fwdP ff W q1 = q1 ∧ relP ff W q1 q1 ∧ cur (W.filterMap ff) q1 = none := by
      cases q1 with
      | pt i =>
        have h9 := hin1 i rfl
        simp only [cur, List.getElem?_eq_getElem h9] at hcur
        cases hcur
      | behind => exact ⟨rfl, trivial, rfl⟩
      | ahead => exact ⟨rfl, trivial, rfl⟩
      | nowhere => exact ⟨rfl, trivial, rfl⟩
    refine ⟨F1, ⟨q1, Fin1, _, _, _, _, _, _, hs, by rw [← hfw, hq1.1]; exact hq1.2.1⟩, hF1, KP, ?_⟩
    rw [← hfw, hq1.1]; unfold Ret; rw [hq1.2.2]
  -- yes
  rcases hq with ⟨rfl, hcur⟩ | ⟨s, bi, oi, rfl, hcur, hFb, hps⟩
  · simp at hif
  obtain ⟨i, rfl, hsi⟩ := cur_some hcur
  refine tr_skip ?_
  refine q_thn ?_
  refine tr_block ?_
  refine tr_seq ?_
  refine tr_seq ?_
  obtain ⟨hI1, B1, O1, hE1, hx1, hc1, hg1, hd1, hs1, hs2, hs3, hs4, hl1⟩ := hs
  have hs : FSt I t v0 (.func (.func f) #[] (List.toArray cap)) c G0 Env (.pt i) Fin1 F1 hL1 sv1 ev1 kv1 kk n1 xs1 := ⟨hI1, B1, O1, hE1, hx1, hc1, hg1, hd1, hs1, hs2, hs3, hs4, hl1⟩
  refine tr_draw [(true, 8), (false, 2)] _ (by kernel_rfl) (by kernel_rfl) (by kernel_rfl) ?_
  refine rx_any Same same_pre ?_
  refine rq_v (v_move rfl) ?_
  refine rq_v (v_nilCheck_ptr rfl) ?_
  refine rq_v (v_fieldAddr fa_keyspan_filteringIter_1 rfl) ?_
  refine rq_v (v_load one_keyspan_FilterFunc rfl (Bc.cell _ rfl)) ?_
  refine rq_v (v_move rfl) ?_
  refine rq_v (v_move rfl) ?_
  refine rq_v (v_nilCheck_ptr rfl) ?_
  refine rq_v (v_fieldAddr fa_keyspan_filteringIter_3 rfl) ?_
  refine rm_end ?_; intro ha Ka; simp only [endM, hypF, ofE, argE, List.nil_append]
  have Ka : hL1 = ha := Eq.symm Ka
  subst Ka
  refine rx_seq ?_
  refine rs_w (w_callv (first := []) (cap := cap) (vs := [_, _]) hokf rfl ⟨rfl, rfl, trivial⟩ (hcl _ Fin1 s bi oi c _ _ _ _ _ _ kk _ _ (hit.low hI1) hps hFb Bc hc1 O1 hx1 hE1 hg1 (cur_mem hcur))) rfl ?_
  rintro r3 h3 hp3
  obtain ⟨rfl, sv2, ev2, kv2, n2, xs2, hs', KP', hsF, hkv, hout⟩ := fst_fn hit hfn hs hp3
  have Bc := hs'.2.1
  refine rs_v (v_assign rfl) rfl ?_
  refine rs_nil ?_
  refine q_con ?_
  refine rx_nil ?_
  refine q_thn ?_
  refine tr_seq ?_
  refine tr_reg ?_
  refine rs_v (v_move rfl) rfl ?_
  refine rs_nil ?_
  refine q_thn ?_
  refine tr_if rfl (fun hif => ?_) (fun hif => ?_)
  · -- yes
    skip
    refine tr_seq ?_
    refine tr_reg ?_
    refine rs_v (v_move rfl) rfl ?_
    refine rs_v (v_nilCheck_ptr rfl) rfl ?_
    refine rs_v (v_fieldAddr fa_keyspan_filteringIter_3 rfl) rfl ?_
    refine rs_v (v_assign rfl) rfl ?_
    refine rs_nil ?_
    refine q_thn ?_
    refine tr_ret ?_
    refine q_thn_ret ?_
    refine q_blk_ret ?_
    refine q_lp_ret ?_
    refine q_blk_ret ?_
    refine q_thn_ret ?_
    refine q_ret (res_tmp rfl rfl) ?_
    obtain ⟨s', hs9⟩ := Option.isSome_iff_exists.1 hif
    obtain ⟨g1, g2, g3, g4⟩ := hout s' hs9
    have hsub : ∀ b, (Fin1 b ∨ G0 b) → (F1 b ∨ b ∈ kv2.ownBlock.toList) := fun b hb => hb.elim (fun e => .inl (hs1 b e)) (fun e => .inl (hs4 b e))
    rw [← hfw, fwd_hit hsi hs9]
    refine ⟨_, ⟨.pt i, Fin1, _, _, _, _, _, _, hs', s, s', hsi, hs9, rfl⟩, fun b hb => ?_, KP.trans KP' hF1, ?_⟩
    · rcases hb with hb | hb
      · exact hF1 b hb
      · rcases hkv b hb with h9 | h9
        · exact hF1 b h9
        · exact .inr (by have := KP.1; omega)
    · unfold Ret; rw [show cur (W.filterMap ff) (.pt ((W.take i).filterMap ff).length) = some s' from fm_at hsi hs9]
      exact ⟨c, 3, rfl, .inl hs2, _, _, _, kk, hs'.2.1.sub 3 4 rfl, g1.mono hsub, g2.mono hsub, SlR.of_rows2 hs'.2.2.1 g3 g4 (fun b hb => .inr hb) (fun b o c a hc hr => cPKey_r _ _ _ _ _ _ hc (cPKey_st.mono _ _ _ _ _ hsub hr))⟩
  -- no
  skip
  refine tr_skip ?_
  refine q_thn ?_
  refine tr_seq ?_
  refine tr_reg ?_
  refine rs_v (v_move rfl) rfl ?_
  refine rs_v (v_eq rfl rfl) rfl ?_
  refine rs_nil ?_
  refine q_thn ?_
  refine tr_if_t rfl ?_
  refine tr_reg ?_
  refine rs_v (v_move rfl) rfl ?_
  refine rs_v (v_nilCheck_ptr rfl) rfl ?_
  refine rs_v (v_fieldAddr fa_keyspan_filteringIter_0 rfl) rfl ?_
  refine rs_v (v_load one_keyspan_FragmentIterator rfl (by exact Bc.cell _ rfl)) rfl ?_
  refine rs_w (w_mcall (vs := []) (hit.next hs'.1 rfl) rfl trivial) rfl ?_
  rintro r3 h4 hp3
  refine rs_v (v_assign rfl) rfl ?_
  refine rs_nil ?_
  refine q_blk_n ?_
  have hfm : ff s = none := by
    cases hq9 : ff s with
    | none => rfl
    | some y => rw [hq9] at hif; simp at hif
  obtain ⟨Fin3, hs3', hF3, KP3, hret3⟩ := fst_inner hit hfn hs' hp3
  obtain ⟨qv3, rfl, _⟩ := hret3.form
  have hFk : ∀ x, (F1 x ∨ x ∈ kv2.ownBlock.toList) → F x ∨ h.size ≤ x := fun b hb => by
    rcases hb with hb | hb
    · exact hF1 b hb
    · rcases hkv b hb with h9 | h9
      · exact hF1 b h9
      · exact .inr (by have := KP.1; omega)
  refine q_lp (mF W (pNext W (.pt i))) [(0, _), (1, _), (2, _)] (mF_next (List.getElem?_eq_some_iff.1 hsi).1) ⟨rfl, rfl, rfl, trivial⟩ ⟨_, Fin3, _, _, _, _, _, _, qv3, in_next, rfl, rfl, hs3', (KP.trans KP' hF1).trans KP3 hFk, fun b hb => ?_, hret3, ?_⟩
  · rcases hb with hb | hb
    · exact hFk b hb
    · rcases hF3 b hb with h9 | h9
      · exact hFk b (.inl (hs1 b h9))
      · exact .inr (by have := (KP.trans KP' hF1).1; omega)
  · rw [← fwd_miss hsi hfm]; exact hfw
theorem c_filterB {χ : Chi} {ff : SpanD → Option SpanD} {fv : Value} {G0 : Nat → Prop} {Env : Heap → Prop} {W : List SpanD} {t : TypeId} {v0 : Value} {I : ItI} {c : Nat} {q : Pos} {Fin F : Nat → Prop} {h : Heap} {sv ev kv : Value} {kk : Int} {n : Nat} {xs : List Value} {r0 : Value}
    (hit : IterOK Try.prog χ W t v0 I) (hfn : FnOK χ W ff fv G0 Env) (hWn : ∀ s, s ∈ W → s.ks.length ≤ 100000) (hin : ∀ i, q = .pt i → i < W.length) (hs0 : FSt I t v0 fv c G0 Env q Fin F h sv ev kv kk n xs) (hret0 : Ret W q Fin h r0) :
    Cl Try.prog χ 168 #[.pointer (some ⟨c, 0, none⟩), r0, .int .i8 (-1)] h (ItPost (W.filterMap ff) (FIt ff W I t v0 fv c G0 Env) F h (bwdP ff W q)) := by
  have hfn0 := hfn
  obtain ⟨f, cap, rfl, hokf, hcl⟩ := hfn0.form
  have Bc := hs0.2.1
  obtain ⟨q0, rfl, _⟩ := hret0.form
  refine cl_intro Try.func168 rfl rfl rfl ?_
  have K : Keep [] h h := Keep.refl _ _
  refine tr_seq ?_
  refine tr_reg ?_
  refine rs_v (v_assign rfl) rfl ?_
  refine rs_nil ?_
  refine q_thn ?_
  refine tr_seq ?_
  refine tr_seq ?_
  refine tr_reg ?_
  refine rs_v (v_move rfl) rfl ?_
  refine rs_v (v_nilCheck_ptr rfl) rfl ?_
  refine rs_v (v_fieldAddr fa_keyspan_filteringIter_1 rfl) rfl ?_
  refine rs_v (v_load one_keyspan_FilterFunc rfl (by exact Bc.cell _ rfl)) rfl ?_
  refine rs_v (v_feq isf_keyspan_FilterFunc rfl rfl) rfl ?_
  refine rs_nil ?_
  refine q_thn ?_
  refine tr_if_f rfl ?_
  refine tr_skip ?_
  refine q_thn ?_
  refine tr_seq ?_
  refine tr_block ?_
  refine tr_loop (fun m E h' => ∃ q1 Fin1 F1 sv1 ev1 kv1 n1 xs1 qv, (∀ i, q1 = .pt i → i < W.length) ∧ m = mB q1 ∧ E = [(0, .pointer (some ⟨c, 0, none⟩)), (1, .pointer qv), (2, .int .i8 (-1))] ∧ FSt I t v0 (.func (.func f) #[] (List.toArray cap)) c G0 Env q1 Fin1 F1 h' sv1 ev1 kv1 kk n1 xs1 ∧ KeepP F h h' ∧ (∀ b, F1 b → F b ∨ h.size ≤ b) ∧ Ret W q1 Fin1 h' (.pointer qv) ∧ bwdP ff W q1 = bwdP ff W q) (mB q) [(0, _), (1, _), (2, _)] ⟨rfl, rfl, rfl, trivial⟩ ⟨q, Fin, F, sv, ev, kv, n, xs, q0, hin, rfl, rfl, hs0, KeepP.refl _ _, fun b hb => .inl hb, hret0, rfl⟩ ?_
  rintro m E hL1 ⟨q1, Fin1, F1, sv1, ev1, kv1, n1, xs1, qv, hin1, rfl, rfl, hs, KP, hF1, hret, hfw⟩
  have Bc := hs.2.1
  obtain ⟨qv', e', hq⟩ := hret.form
  cases e'
  refine tr_seq ?_
  refine tr_seq ?_
  refine tr_reg ?_
  refine rs_v (v_move rfl) rfl ?_
  refine rs_w (w_call (vs := [_]) ok_keyspan_filteringIter_Error rfl ⟨rfl, trivial⟩ (c_FiError χ hit _ c q1 Fin1 _ hs.1 Bc)) rfl ?_
  rintro _ h2 ⟨rfl, hsame⟩; have hsame := hsame.symm; subst hsame
  refine rs_v (v_ieq_nil isi_error rfl rfl) rfl ?_
  refine rs_v (v_move rfl) rfl ?_
  refine rs_gv rfl rfl (v_move rfl) rfl ?_
  refine rs_gv rfl rfl (v_pne u_p_keyspan_Span rfl rfl) rfl ?_
  refine rs_v (v_pick_t rfl rfl) rfl ?_
  refine rs_nil ?_
  refine q_thn ?_
  refine tr_ifn rfl (fun hif => ?_) (fun hif => ?_)
  · -- no
    skip
    refine tr_exit ?_
    refine q_thn_exit ?_
    refine q_lp_exit ?_
    refine q_blk_hit ?_
    refine q_thn ?_
    refine tr_seq ?_
    refine tr_reg ?_
    refine rs_v (v_move rfl) rfl ?_
    refine rs_v (v_assign rfl) rfl ?_
    refine rs_nil ?_
    refine q_thn ?_
    refine tr_ret ?_
    refine q_ret (res_tmp rfl rfl) ?_
    rcases hq with ⟨rfl, hcur⟩ | ⟨s, b, o, rfl, _⟩
    rotate_left
    · simp at hif
    have hq1 : bwdP ff W q1 = q1 ∧ relP ff W q1 q1 ∧ cur (W.filterMap ff) q1 = none := by
      cases q1 with
      | pt i =>
        have h9 := hin1 i rfl
        simp only [cur, List.getElem?_eq_getElem h9] at hcur
        cases hcur
      | behind => exact ⟨rfl, trivial, rfl⟩
      | ahead => exact ⟨rfl, trivial, rfl⟩
      | nowhere => exact ⟨rfl, trivial, rfl⟩
    refine ⟨F1, ⟨q1, Fin1, _, _, _, _, _, _, hs, by rw [← hfw, hq1.1]; exact hq1.2.1⟩, hF1, KP, ?_⟩
    rw [← hfw, hq1.1]; unfold Ret; rw [hq1.2.2]
  -- yes
  rcases hq with ⟨rfl, hcur⟩ | ⟨s, bi, oi, rfl, hcur, hFb, hps⟩
  · simp at hif
  obtain ⟨i, rfl, hsi⟩ := cur_some hcur
  refine tr_skip ?_
  refine q_thn ?_
  refine tr_block ?_
  refine tr_seq ?_
  refine tr_seq ?_
  obtain ⟨hI1, B1, O1, hE1, hx1, hc1, hg1, hd1, hs1, hs2, hs3, hs4, hl1⟩ := hs
  have hs : FSt I t v0 (.func (.func f) #[] (List.toArray cap)) c G0 Env (.pt i) Fin1 F1 hL1 sv1 ev1 kv1 kk n1 xs1 := ⟨hI1, B1, O1, hE1, hx1, hc1, hg1, hd1, hs1, hs2, hs3, hs4, hl1⟩
  refine tr_draw [(true, 8), (false, 2)] _ (by kernel_rfl) (by kernel_rfl) (by kernel_rfl) ?_
  refine rx_any Same same_pre ?_
  refine rq_v (v_move rfl) ?_
  refine rq_v (v_nilCheck_ptr rfl) ?_
  refine rq_v (v_fieldAddr fa_keyspan_filteringIter_1 rfl) ?_
  refine rq_v (v_load one_keyspan_FilterFunc rfl (Bc.cell _ rfl)) ?_
  refine rq_v (v_move rfl) ?_
  refine rq_v (v_move rfl) ?_
  refine rq_v (v_nilCheck_ptr rfl) ?_
  refine rq_v (v_fieldAddr fa_keyspan_filteringIter_3 rfl) ?_
  refine rm_end ?_; intro ha Ka; simp only [endM, hypF, ofE, argE, List.nil_append]
  have Ka : hL1 = ha := Eq.symm Ka
  subst Ka
  refine rx_seq ?_
  refine rs_w (w_callv (first := []) (cap := cap) (vs := [_, _]) hokf rfl ⟨rfl, rfl, trivial⟩ (hcl _ Fin1 s bi oi c _ _ _ _ _ _ kk _ _ (hit.low hI1) hps hFb Bc hc1 O1 hx1 hE1 hg1 (cur_mem hcur))) rfl ?_
  rintro r3 h3 hp3
  obtain ⟨rfl, sv2, ev2, kv2, n2, xs2, hs', KP', hsF, hkv, hout⟩ := fst_fn hit hfn hs hp3
  have Bc := hs'.2.1
  refine rs_v (v_assign rfl) rfl ?_
  refine rs_nil ?_
  refine q_con ?_
  refine rx_nil ?_
  refine q_thn ?_
  refine tr_seq ?_
  refine tr_reg ?_
  refine rs_v (v_move rfl) rfl ?_
  refine rs_nil ?_
  refine q_thn ?_
  refine tr_if rfl (fun hif => ?_) (fun hif => ?_)
  · -- yes
    skip
    refine tr_seq ?_
    refine tr_reg ?_
    refine rs_v (v_move rfl) rfl ?_
    refine rs_v (v_nilCheck_ptr rfl) rfl ?_
    refine rs_v (v_fieldAddr fa_keyspan_filteringIter_3 rfl) rfl ?_
    refine rs_v (v_assign rfl) rfl ?_
    refine rs_nil ?_
    refine q_thn ?_
    refine tr_ret ?_
    refine q_thn_ret ?_
    refine q_blk_ret ?_
    refine q_lp_ret ?_
    refine q_blk_ret ?_
    refine q_thn_ret ?_
    refine q_ret (res_tmp rfl rfl) ?_
    obtain ⟨s', hs9⟩ := Option.isSome_iff_exists.1 hif
    obtain ⟨g1, g2, g3, g4⟩ := hout s' hs9
    have hsub : ∀ b, (Fin1 b ∨ G0 b) → (F1 b ∨ b ∈ kv2.ownBlock.toList) := fun b hb => hb.elim (fun e => .inl (hs1 b e)) (fun e => .inl (hs4 b e))
    rw [← hfw, bwd_hit hsi hs9]
    refine ⟨_, ⟨.pt i, Fin1, _, _, _, _, _, _, hs', s, s', hsi, hs9, rfl⟩, fun b hb => ?_, KP.trans KP' hF1, ?_⟩
    · rcases hb with hb | hb
      · exact hF1 b hb
      · rcases hkv b hb with h9 | h9
        · exact hF1 b h9
        · exact .inr (by have := KP.1; omega)
    · unfold Ret; rw [show cur (W.filterMap ff) (.pt ((W.take i).filterMap ff).length) = some s' from fm_at hsi hs9]
      exact ⟨c, 3, rfl, .inl hs2, _, _, _, kk, hs'.2.1.sub 3 4 rfl, g1.mono hsub, g2.mono hsub, SlR.of_rows2 hs'.2.2.1 g3 g4 (fun b hb => .inr hb) (fun b o c a hc hr => cPKey_r _ _ _ _ _ _ hc (cPKey_st.mono _ _ _ _ _ hsub hr))⟩
  -- no
  skip
  refine tr_skip ?_
  refine q_thn ?_
  refine tr_seq ?_
  refine tr_reg ?_
  refine rs_v (v_move rfl) rfl ?_
  refine rs_v (v_eq rfl rfl) rfl ?_
  refine rs_nil ?_
  refine q_thn ?_
  refine tr_if_f rfl ?_
  refine tr_reg ?_
  refine rs_v (v_move rfl) rfl ?_
  refine rs_v (v_nilCheck_ptr rfl) rfl ?_
  refine rs_v (v_fieldAddr fa_keyspan_filteringIter_0 rfl) rfl ?_
  refine rs_v (v_load one_keyspan_FragmentIterator rfl (by exact Bc.cell _ rfl)) rfl ?_
  refine rs_w (w_mcall (vs := []) (hit.prev hs'.1 rfl) rfl trivial) rfl ?_
  rintro r3 h4 hp3
  refine rs_v (v_assign rfl) rfl ?_
  refine rs_nil ?_
  refine q_blk_n ?_
  have hfm : ff s = none := by
    cases hq9 : ff s with
    | none => rfl
    | some y => rw [hq9] at hif; simp at hif
  obtain ⟨Fin3, hs3', hF3, KP3, hret3⟩ := fst_inner hit hfn hs' hp3
  obtain ⟨qv3, rfl, _⟩ := hret3.form
  have hFk : ∀ x, (F1 x ∨ x ∈ kv2.ownBlock.toList) → F x ∨ h.size ≤ x := fun b hb => by
    rcases hb with hb | hb
    · exact hF1 b hb
    · rcases hkv b hb with h9 | h9
      · exact hF1 b h9
      · exact .inr (by have := KP.1; omega)
  refine q_lp (mB (pPrev W (.pt i))) [(0, _), (1, _), (2, _)] (mB_prev) ⟨rfl, rfl, rfl, trivial⟩ ⟨_, Fin3, _, _, _, _, _, _, qv3, in_prev (List.getElem?_eq_some_iff.1 hsi).1, rfl, rfl, hs3', (KP.trans KP' hF1).trans KP3 hFk, fun b hb => ?_, hret3, ?_⟩
  · rcases hb with hb | hb
    · exact hFk b hb
    · rcases hF3 b hb with h9 | h9
      · exact hFk b (.inl (hs1 b h9))
      · exact .inr (by have := (KP.trans KP' hF1).1; omega)
  · rw [← bwd_miss hsi hfm]; exact hfw
end Go.Proofs.Ytgebfbnndgjkiaa
