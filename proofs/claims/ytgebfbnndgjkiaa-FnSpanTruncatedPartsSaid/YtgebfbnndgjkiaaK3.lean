/- Texts W19 to W57, as far as the statement reaches them, laid together by a program of ours. Conditions: those that each theorem names. -/
import Derived.Test.YtgebfbnndgjkiaaK2
import Derived.Test.YtgebfbnndgjkiaaRows
import Derived.ProofKit
import Derived.Deep.Slices
set_option linter.unusedVariables false
set_option linter.unusedSimpArgs false
set_option linter.unusedSectionVars false
namespace Go.Proofs.Ytgebfbnndgjkiaa
open Go.Tess Go.RowKit
set_option maxRecDepth 100000
set_option maxHeartbeats 1000000
def mF (W : List SpanD) : Pos → Nat
  | .pt i => W.length - i
  | _ => 0
def mB : Pos → Nat
  | .pt i => i + 1
  | _ => 0
theorem mF_next {W : List SpanD} {i : Nat} (hi : i < W.length) : mF W (pNext W (.pt i)) < mF W (.pt i) := by
  simp only [pNext]
  by_cases e : i + 1 < W.length
  · rw [if_pos e]; simp only [mF]; omega
  · rw [if_neg e]; simp only [mF]; omega
theorem mB_prev {W : List SpanD} {i : Nat} : mB (pPrev W (.pt i)) < mB (.pt i) := by
  simp only [pPrev]
  by_cases e : i = 0
  · rw [if_pos e]; simp only [mB]; omega
  · rw [if_neg e]; simp only [mB]; omega
theorem in_next {W : List SpanD} {i : Nat} : ∀ j, pNext W (.pt i) = .pt j → j < W.length := by
  intro j h
  simp only [pNext] at h
  by_cases e : i + 1 < W.length
  · rw [if_pos e] at h; cases h; exact e
  · rw [if_neg e] at h; cases h
theorem in_prev {W : List SpanD} {i : Nat} (hi : i < W.length) : ∀ j, pPrev W (.pt i) = .pt j → j < W.length := by
  intro j h
  simp only [pPrev] at h
  by_cases e : i = 0
  · rw [if_pos e] at h; cases h
  · rw [if_neg e] at h; cases h; omega
theorem cur_some {W : List SpanD} {q : Pos} {s : SpanD} (h : cur W q = some s) : ∃ i, q = .pt i ∧ W[i]? = some s := by
  cases q with
  | pt i => exact ⟨i, rfl, h⟩
  | _ => simp [cur] at h

theorem c_filterF {χ : Chi} {ff : SpanD → Option SpanD} {fv : Value} {G0 : Nat → Prop} {Env : Heap → Prop} {W : List SpanD} {t : TypeId} {v0 : Value} {I : ItI} {c : Nat} {q : Pos} {Fin F : Nat → Prop} {h : Heap} {sv ev kv : Value} {kk : Int} {n : Nat} {xs : List Value} {r0 : Value}
    (hit : IterOK Try.prog χ W t v0 I) (hfn : FnOK χ W ff fv G0 Env) (hWn : ∀ s, s ∈ W → s.ks.length ≤ 100000) (hin : ∀ i, q = .pt i → i < W.length) (hs0 : FSt I t v0 fv c G0 Env q Fin F h sv ev kv kk n xs) (hret0 : Ret W q Fin h r0) :
    Cl Try.prog χ 168 #[.pointer (some ⟨c, 0, none⟩), r0, .int .i8 1] h (ItPost (W.filterMap ff) (FIt ff W I t v0 fv c G0 Env) F h (fwdP ff W q)) := by
  have hfn0 := hfn
  obtain ⟨f, cap, rfl, hokf, hcl⟩ := hfn0.form
  have Bc := hs0.2.1
  obtain ⟨q0, rfl, _⟩ := hret0.form
  refine cl_intro Try.func168 rfl rfl rfl ?_
  have K : Keep [] h h := Keep.refl _ _
  refine tr_seq ?_
  refine tr_reg ?_
  refine rs_v (v_assign rfl) rfl ?_
  refine rs_nil ?_
  refine q_thn ?_
  refine tr_seq ?_
  refine tr_seq ?_
  refine tr_reg ?_
  refine rs_v (v_move rfl) rfl ?_
  refine rs_v (v_nilCheck_ptr rfl) rfl ?_
  refine rs_v (v_fieldAddr fa_keyspan_filteringIter_1 rfl) rfl ?_
  refine rs_v (v_load one_keyspan_FilterFunc rfl (by exact Bc.cell _ rfl)) rfl ?_
  refine rs_v (v_feq isf_keyspan_FilterFunc rfl rfl) rfl ?_
  refine rs_nil ?_
  refine q_thn ?_
  refine tr_if_f rfl ?_
  refine tr_skip ?_
  refine q_thn ?_
  refine tr_seq ?_
  refine tr_block ?_
  refine tr_loop (fun m E h' => ∃ q1 Fin1 F1 sv1 ev1 kv1 n1 xs1 qv, (∀ i, q1 = .pt i → i < W.length) ∧ m = mF W q1 ∧ E = [(0, .pointer (some ⟨c, 0, none⟩)), (1, .pointer qv), (2, .int .i8 1)] ∧ FSt I t v0 (.func (.func f) #[] (List.toArray cap)) c G0 Env q1 Fin1 F1 h' sv1 ev1 kv1 kk n1 xs1 ∧ KeepP F h h' ∧ (∀ b, F1 b → F b ∨ h.size ≤ b) ∧ Ret W q1 Fin1 h' (.pointer qv) ∧ fwdP ff W q1 = fwdP ff W q) (mF W q) [(0, _), (1, _), (2, _)] ⟨rfl, rfl, rfl, trivial⟩ ⟨q, Fin, F, sv, ev, kv, n, xs, q0, hin, rfl, rfl, hs0, KeepP.refl _ _, fun b hb => .inl hb, hret0, rfl⟩ ?_
  rintro m E hL1 ⟨q1, Fin1, F1, sv1, ev1, kv1, n1, xs1, qv, hin1, rfl, rfl, hs, KP, hF1, hret, hfw⟩
  have Bc := hs.2.1
  obtain ⟨qv', e', hq⟩ := hret.form
  cases e'
  refine tr_seq ?_
  refine tr_seq ?_
  refine tr_reg ?_
  refine rs_v (v_move rfl) rfl ?_
  refine rs_w (w_call (vs := [_]) ok_keyspan_filteringIter_Error rfl ⟨rfl, trivial⟩ (c_FiError χ hit _ c q1 Fin1 _ hs.1 Bc)) rfl ?_
  rintro _ h2 ⟨rfl, hsame⟩; have hsame := hsame.symm; subst hsame
  refine rs_v (v_ieq_nil isi_error rfl rfl) rfl ?_
  refine rs_v (v_move rfl) rfl ?_
  refine rs_gv rfl rfl (v_move rfl) rfl ?_
  refine rs_gv rfl rfl (v_pne u_p_keyspan_Span rfl rfl) rfl ?_
  refine rs_v (v_pick_t rfl rfl) rfl ?_
  refine rs_nil ?_
  refine q_thn ?_
  refine tr_ifn rfl (fun hif => ?_) (fun hif => ?_)
  · -- no
    skip
    refine tr_exit ?_
    refine q_thn_exit ?_
    refine q_lp_exit ?_
    refine q_blk_hit ?_
    refine q_thn ?_
    refine tr_seq ?_
    refine tr_reg ?_
    refine rs_v (v_move rfl) rfl ?_
    refine rs_v (v_assign rfl) rfl ?_
    refine rs_nil ?_
    refine q_thn ?_
    refine tr_ret ?_
    refine q_ret (res_tmp rfl rfl) ?_
    rcases hq with ⟨rfl, hcur⟩ | ⟨s, b, o, rfl, _⟩
    rotate_left
    · simp at hif
    have hq1 : fwdP ff W q1 = q1 ∧ relP ff W q1 q1 ∧ cur (W.filterMap ff) q1 = none := by
      cases q1 with
      | pt i =>
        have h9 := hin1 i rfl
        simp only [cur, List.getElem?_eq_getElem h9] at hcur
        cases hcur
      | behind => exact ⟨rfl, trivial, rfl⟩
      | ahead => exact ⟨rfl, trivial, rfl⟩
      | nowhere => exact ⟨rfl, trivial, rfl⟩
    refine ⟨F1, ⟨q1, Fin1, _, _, _, _, _, _, hs, by rw [← hfw, hq1.1]; exact hq1.2.1⟩, hF1, KP, ?_⟩
    rw [← hfw, hq1.1]; unfold Ret; rw [hq1.2.2]
  -- yes
  rcases hq with ⟨rfl, hcur⟩ | ⟨s, bi, oi, rfl, hcur, hFb, hps⟩
  · simp at hif
  obtain ⟨i, rfl, hsi⟩ := cur_some hcur
  refine tr_skip ?_
  refine q_thn ?_
  refine tr_block ?_
  refine tr_seq ?_
  refine tr_seq ?_
  obtain ⟨hI1, B1, O1, hE1, hx1, hc1, hg1, hd1, hs1, hs2, hs3, hs4, hl1⟩ := hs
  have hs : FSt I t v0 (.func (.func f) #[] (List.toArray cap)) c G0 Env (.pt i) Fin1 F1 hL1 sv1 ev1 kv1 kk n1 xs1 := ⟨hI1, B1, O1, hE1, hx1, hc1, hg1, hd1, hs1, hs2, hs3, hs4, hl1⟩
  refine tr_draw [(true, 8), (false, 2)] _ (by kernel_rfl) (by kernel_rfl) (by kernel_rfl) ?_
  refine rx_any Same same_pre ?_
  refine rq_v (v_move rfl) ?_
  refine rq_v (v_nilCheck_ptr rfl) ?_
  refine rq_v (v_fieldAddr fa_keyspan_filteringIter_1 rfl) ?_
  refine rq_v (v_load one_keyspan_FilterFunc rfl (Bc.cell _ rfl)) ?_
  refine rq_v (v_move rfl) ?_
  refine rq_v (v_move rfl) ?_
  refine rq_v (v_nilCheck_ptr rfl) ?_
  refine rq_v (v_fieldAddr fa_keyspan_filteringIter_3 rfl) ?_
  refine rm_end ?_; intro ha Ka; simp only [endM, hypF, ofE, argE, List.nil_append]
  have Ka : hL1 = ha := Eq.symm Ka
  subst Ka
  refine rx_seq ?_
  refine rs_w (w_callv (first := []) (cap := cap) (vs := [_, _]) hokf rfl ⟨rfl, rfl, trivial⟩ (hcl _ Fin1 s bi oi c _ _ _ _ _ _ kk _ _ (hit.low hI1) hps hFb Bc hc1 O1 hx1 hE1 hg1 (cur_mem hcur))) rfl ?_
  rintro r3 h3 hp3
  obtain ⟨rfl, sv2, ev2, kv2, n2, xs2, hs', KP', hsF, hkv, hout⟩ := fst_fn hit hfn hs hp3
  have Bc := hs'.2.1
  refine rs_v (v_assign rfl) rfl ?_
  refine rs_nil ?_
  refine q_con ?_
  refine rx_nil ?_
  refine q_thn ?_
  refine tr_seq ?_
  refine tr_reg ?_
  refine rs_v (v_move rfl) rfl ?_
  refine rs_nil ?_
  refine q_thn ?_
  refine tr_if rfl (fun hif => ?_) (fun hif => ?_)
  · -- yes
    skip
    refine tr_seq ?_
    refine tr_reg ?_
    refine rs_v (v_move rfl) rfl ?_
    refine rs_v (v_nilCheck_ptr rfl) rfl ?_
    refine rs_v (v_fieldAddr fa_keyspan_filteringIter_3 rfl) rfl ?_
    refine rs_v (v_assign rfl) rfl ?_
    refine rs_nil ?_
    refine q_thn ?_
    refine tr_ret ?_
    refine q_thn_ret ?_
    refine q_blk_ret ?_
    refine q_lp_ret ?_
    refine q_blk_ret ?_
    refine q_thn_ret ?_
    refine q_ret (res_tmp rfl rfl) ?_
    obtain ⟨s', hs9⟩ := Option.isSome_iff_exists.1 hif
    obtain ⟨g1, g2, g3, g4⟩ := hout s' hs9
    have hsub : ∀ b, (Fin1 b ∨ G0 b) → (F1 b ∨ b ∈ kv2.ownBlock.toList) := fun b hb => hb.elim (fun e => .inl (hs1 b e)) (fun e => .inl (hs4 b e))
    rw [← hfw, fwd_hit hsi hs9]
    refine ⟨_, ⟨.pt i, Fin1, _, _, _, _, _, _, hs', s, s', hsi, hs9, rfl⟩, fun b hb => ?_, KP.trans KP' hF1, ?_⟩
    · rcases hb with hb | hb
      · exact hF1 b hb
      · rcases hkv b hb with h9 | h9
        · exact hF1 b h9
        · exact .inr (by have := KP.1; omega)
    · unfold Ret; rw [show cur (W.filterMap ff) (.pt ((W.take i).filterMap ff).length) = some s' from fm_at hsi hs9]
      exact ⟨c, 3, rfl, .inl hs2, _, _, _, kk, hs'.2.1.sub 3 4 rfl, g1.mono hsub, g2.mono hsub, SlR.of_rows2 hs'.2.2.1 g3 g4 (fun b hb => .inr hb) (fun b o c a hc hr => cPKey_r _ _ _ _ _ _ hc (cPKey_st.mono _ _ _ _ _ hsub hr))⟩
  -- no
  skip
  refine tr_skip ?_
  refine q_thn ?_
  refine tr_seq ?_
  refine tr_reg ?_
  refine rs_v (v_move rfl) rfl ?_
  refine rs_v (v_eq rfl rfl) rfl ?_
  refine rs_nil ?_
  refine q_thn ?_
  refine tr_if_t rfl ?_
  refine tr_reg ?_
  refine rs_v (v_move rfl) rfl ?_
  refine rs_v (v_nilCheck_ptr rfl) rfl ?_
  refine rs_v (v_fieldAddr fa_keyspan_filteringIter_0 rfl) rfl ?_
  refine rs_v (v_load one_keyspan_FragmentIterator rfl (by exact Bc.cell _ rfl)) rfl ?_
  refine rs_w (w_mcall (vs := []) (hit.next hs'.1 rfl) rfl trivial) rfl ?_
  rintro r3 h4 hp3
  refine rs_v (v_assign rfl) rfl ?_
  refine rs_nil ?_
  refine q_blk_n ?_
  have hfm : ff s = none := by
    cases hq9 : ff s with
    | none => rfl
    | some y => rw [hq9] at hif; simp at hif
  obtain ⟨Fin3, hs3', hF3, KP3, hret3⟩ := fst_inner hit hfn hs' hp3
  obtain ⟨qv3, rfl, _⟩ := hret3.form
  have hFk : ∀ x, (F1 x ∨ x ∈ kv2.ownBlock.toList) → F x ∨ h.size ≤ x := fun b hb => by
    rcases hb with hb | hb
    · exact hF1 b hb
    · rcases hkv b hb with h9 | h9
      · exact hF1 b h9
      · exact .inr (by have := KP.1; omega)
  refine q_lp (mF W (pNext W (.pt i))) [(0, _), (1, _), (2, _)] (mF_next (List.getElem?_eq_some_iff.1 hsi).1) ⟨rfl, rfl, rfl, trivial⟩ ⟨_, Fin3, _, _, _, _, _, _, qv3, in_next, rfl, rfl, hs3', (KP.trans KP' hF1).trans KP3 hFk, fun b hb => ?_, hret3, ?_⟩
  · rcases hb with hb | hb
    · exact hFk b hb
    · rcases hF3 b hb with h9 | h9
      · exact hFk b (.inl (hs1 b h9))
      · exact .inr (by have := (KP.trans KP' hF1).1; omega)
  · rw [← fwd_miss hsi hfm]; exact hfw
theorem c_filterB {χ : Chi} {ff : SpanD → Option SpanD} {fv : Value} {G0 : Nat → Prop} {Env : Heap → Prop} {W : List SpanD} {t : TypeId} {v0 : Value} {I : ItI} {c : Nat} {q : Pos} {Fin F : Nat → Prop} {h : Heap} {sv ev kv : Value} {kk : Int} {n : Nat} {xs : List Value} {r0 : Value}
    (hit : IterOK Try.prog χ W t v0 I) (hfn : FnOK χ W ff fv G0 Env) (hWn : ∀ s, s ∈ W → s.ks.length ≤ 100000) (hin : ∀ i, q = .pt i → i < W.length) (hs0 : FSt I t v0 fv c G0 Env q Fin F h sv ev kv kk n xs) (hret0 : Ret W q Fin h r0) :
    Cl Try.prog χ 168 #[.pointer (some ⟨c, 0, none⟩), r0, .int .i8 (-1)] h (ItPost (W.filterMap ff) (FIt ff W I t v0 fv c G0 Env) F h (bwdP ff W q)) := by
  have hfn0 := hfn
  obtain ⟨f, cap, rfl, hokf, hcl⟩ := hfn0.form
  have Bc := hs0.2.1
  obtain ⟨q0, rfl, _⟩ := hret0.form
  refine cl_intro Try.func168 rfl rfl rfl ?_
  have K : Keep [] h h := Keep.refl _ _
  refine tr_seq ?_
  refine tr_reg ?_
  refine rs_v (v_assign rfl) rfl ?_
  refine rs_nil ?_
  refine q_thn ?_
  refine tr_seq ?_
  refine tr_seq ?_
  refine tr_reg ?_
  refine rs_v (v_move rfl) rfl ?_
  refine rs_v (v_nilCheck_ptr rfl) rfl ?_
  refine rs_v (v_fieldAddr fa_keyspan_filteringIter_1 rfl) rfl ?_
  refine rs_v (v_load one_keyspan_FilterFunc rfl (by exact Bc.cell _ rfl)) rfl ?_
  refine rs_v (v_feq isf_keyspan_FilterFunc rfl rfl) rfl ?_
  refine rs_nil ?_
  refine q_thn ?_
  refine tr_if_f rfl ?_
  refine tr_skip ?_
  refine q_thn ?_
  refine tr_seq ?_
  refine tr_block ?_
  refine tr_loop (fun m E h' => ∃ q1 Fin1 F1 sv1 ev1 kv1 n1 xs1 qv, (∀ i, q1 = .pt i → i < W.length) ∧ m = mB q1 ∧ E = [(0, .pointer (some ⟨c, 0, none⟩)), (1, .pointer qv), (2, .int .i8 (-1))] ∧ FSt I t v0 (.func (.func f) #[] (List.toArray cap)) c G0 Env q1 Fin1 F1 h' sv1 ev1 kv1 kk n1 xs1 ∧ KeepP F h h' ∧ (∀ b, F1 b → F b ∨ h.size ≤ b) ∧ Ret W q1 Fin1 h' (.pointer qv) ∧ bwdP ff W q1 = bwdP ff W q) (mB q) [(0, _), (1, _), (2, _)] ⟨rfl, rfl, rfl, trivial⟩ ⟨q, Fin, F, sv, ev, kv, n, xs, q0, hin, rfl, rfl, hs0, KeepP.refl _ _, fun b hb => .inl hb, hret0, rfl⟩ ?_
  rintro m E hL1 ⟨q1, Fin1, F1, sv1, ev1, kv1, n1, xs1, qv, hin1, rfl, rfl, hs, KP, hF1, hret, hfw⟩
  have Bc := hs.2.1
  obtain ⟨qv', e', hq⟩ := hret.form
  cases e'
  refine tr_seq ?_
  refine tr_seq ?_
  refine tr_reg ?_
  refine rs_v (v_move rfl) rfl ?_
  refine rs_w (w_call (vs := [_]) ok_keyspan_filteringIter_Error rfl ⟨rfl, trivial⟩ (c_FiError χ hit _ c q1 Fin1 _ hs.1 Bc)) rfl ?_
  rintro _ h2 ⟨rfl, hsame⟩; have hsame := hsame.symm; subst hsame
  refine rs_v (v_ieq_nil isi_error rfl rfl) rfl ?_
  refine rs_v (v_move rfl) rfl ?_
  refine rs_gv rfl rfl (v_move rfl) rfl ?_
  refine rs_gv rfl rfl (v_pne u_p_keyspan_Span rfl rfl) rfl ?_
  refine rs_v (v_pick_t rfl rfl) rfl ?_
  refine rs_nil ?_
  refine q_thn ?_
  refine tr_ifn rfl (fun hif => ?_) (fun hif => ?_)
  · -- no
    skip
    refine tr_exit ?_
    refine q_thn_exit ?_
    refine q_lp_exit ?_
    refine q_blk_hit ?_
    refine q_thn ?_
    refine tr_seq ?_
    refine tr_reg ?_
    refine rs_v (v_move rfl) rfl ?_
    refine rs_v (v_assign rfl) rfl ?_
    refine rs_nil ?_
    refine q_thn ?_
    refine tr_ret ?_
    refine q_ret (res_tmp rfl rfl) ?_
    rcases hq with ⟨rfl, hcur⟩ | ⟨s, b, o, rfl, _⟩
    rotate_left
    · simp at hif
    have hq1 : bwdP ff W q1 = q1 ∧ relP ff W q1 q1 ∧ cur (W.filterMap ff) q1 = none := by
      cases q1 with
      | pt i =>
        have h9 := hin1 i rfl
        simp only [cur, List.getElem?_eq_getElem h9] at hcur
        cases hcur
      | behind => exact ⟨rfl, trivial, rfl⟩
      | ahead => exact ⟨rfl, trivial, rfl⟩
      | nowhere => exact ⟨rfl, trivial, rfl⟩
    refine ⟨F1, ⟨q1, Fin1, _, _, _, _, _, _, hs, by rw [← hfw, hq1.1]; exact hq1.2.1⟩, hF1, KP, ?_⟩
    rw [← hfw, hq1.1]; unfold Ret; rw [hq1.2.2]
  -- yes
  rcases hq with ⟨rfl, hcur⟩ | ⟨s, bi, oi, rfl, hcur, hFb, hps⟩
  · simp at hif
  obtain ⟨i, rfl, hsi⟩ := cur_some hcur
  refine tr_skip ?_
  refine q_thn ?_
  refine tr_block ?_
  refine tr_seq ?_
  refine tr_seq ?_
  obtain ⟨hI1, B1, O1, hE1, hx1, hc1, hg1, hd1, hs1, hs2, hs3, hs4, hl1⟩ := hs
  have hs : FSt I t v0 (.func (.func f) #[] (List.toArray cap)) c G0 Env (.pt i) Fin1 F1 hL1 sv1 ev1 kv1 kk n1 xs1 := ⟨hI1, B1, O1, hE1, hx1, hc1, hg1, hd1, hs1, hs2, hs3, hs4, hl1⟩
  refine tr_draw [(true, 8), (false, 2)] _ (by kernel_rfl) (by kernel_rfl) (by kernel_rfl) ?_
  refine rx_any Same same_pre ?_
  refine rq_v (v_move rfl) ?_
  refine rq_v (v_nilCheck_ptr rfl) ?_
  refine rq_v (v_fieldAddr fa_keyspan_filteringIter_1 rfl) ?_
  refine rq_v (v_load one_keyspan_FilterFunc rfl (Bc.cell _ rfl)) ?_
  refine rq_v (v_move rfl) ?_
  refine rq_v (v_move rfl) ?_
  refine rq_v (v_nilCheck_ptr rfl) ?_
  refine rq_v (v_fieldAddr fa_keyspan_filteringIter_3 rfl) ?_
  refine rm_end ?_; intro ha Ka; simp only [endM, hypF, ofE, argE, List.nil_append]
  have Ka : hL1 = ha := Eq.symm Ka
  subst Ka
  refine rx_seq ?_
  refine rs_w (w_callv (first := []) (cap := cap) (vs := [_, _]) hokf rfl ⟨rfl, rfl, trivial⟩ (hcl _ Fin1 s bi oi c _ _ _ _ _ _ kk _ _ (hit.low hI1) hps hFb Bc hc1 O1 hx1 hE1 hg1 (cur_mem hcur))) rfl ?_
  rintro r3 h3 hp3
  obtain ⟨rfl, sv2, ev2, kv2, n2, xs2, hs', KP', hsF, hkv, hout⟩ := fst_fn hit hfn hs hp3
  have Bc := hs'.2.1
  refine rs_v (v_assign rfl) rfl ?_
  refine rs_nil ?_
  refine q_con ?_
  refine rx_nil ?_
  refine q_thn ?_
  refine tr_seq ?_
  refine tr_reg ?_
  refine rs_v (v_move rfl) rfl ?_
  refine rs_nil ?_
  refine q_thn ?_
  refine tr_if rfl (fun hif => ?_) (fun hif => ?_)
  · -- yes
    skip
    refine tr_seq ?_
    refine tr_reg ?_
    refine rs_v (v_move rfl) rfl ?_
    refine rs_v (v_nilCheck_ptr rfl) rfl ?_
    refine rs_v (v_fieldAddr fa_keyspan_filteringIter_3 rfl) rfl ?_
    refine rs_v (v_assign rfl) rfl ?_
    refine rs_nil ?_
    refine q_thn ?_
    refine tr_ret ?_
    refine q_thn_ret ?_
    refine q_blk_ret ?_
    refine q_lp_ret ?_
    refine q_blk_ret ?_
    refine q_thn_ret ?_
    refine q_ret (res_tmp rfl rfl) ?_
    obtain ⟨s', hs9⟩ := Option.isSome_iff_exists.1 hif
    obtain ⟨g1, g2, g3, g4⟩ := hout s' hs9
    have hsub : ∀ b, (Fin1 b ∨ G0 b) → (F1 b ∨ b ∈ kv2.ownBlock.toList) := fun b hb => hb.elim (fun e => .inl (hs1 b e)) (fun e => .inl (hs4 b e))
    rw [← hfw, bwd_hit hsi hs9]
    refine ⟨_, ⟨.pt i, Fin1, _, _, _, _, _, _, hs', s, s', hsi, hs9, rfl⟩, fun b hb => ?_, KP.trans KP' hF1, ?_⟩
    · rcases hb with hb | hb
      · exact hF1 b hb
      · rcases hkv b hb with h9 | h9
        · exact hF1 b h9
        · exact .inr (by have := KP.1; omega)
    · unfold Ret; rw [show cur (W.filterMap ff) (.pt ((W.take i).filterMap ff).length) = some s' from fm_at hsi hs9]
      exact ⟨c, 3, rfl, .inl hs2, _, _, _, kk, hs'.2.1.sub 3 4 rfl, g1.mono hsub, g2.mono hsub, SlR.of_rows2 hs'.2.2.1 g3 g4 (fun b hb => .inr hb) (fun b o c a hc hr => cPKey_r _ _ _ _ _ _ hc (cPKey_st.mono _ _ _ _ _ hsub hr))⟩
  -- no
  skip
  refine tr_skip ?_
  refine q_thn ?_
  refine tr_seq ?_
  refine tr_reg ?_
  refine rs_v (v_move rfl) rfl ?_
  refine rs_v (v_eq rfl rfl) rfl ?_
  refine rs_nil ?_
  refine q_thn ?_
  refine tr_if_f rfl ?_
  refine tr_reg ?_
  refine rs_v (v_move rfl) rfl ?_
  refine rs_v (v_nilCheck_ptr rfl) rfl ?_
  refine rs_v (v_fieldAddr fa_keyspan_filteringIter_0 rfl) rfl ?_
  refine rs_v (v_load one_keyspan_FragmentIterator rfl (by exact Bc.cell _ rfl)) rfl ?_
  refine rs_w (w_mcall (vs := []) (hit.prev hs'.1 rfl) rfl trivial) rfl ?_
  rintro r3 h4 hp3
  refine rs_v (v_assign rfl) rfl ?_
  refine rs_nil ?_
  refine q_blk_n ?_
  have hfm : ff s = none := by
    cases hq9 : ff s with
    | none => rfl
    | some y => rw [hq9] at hif; simp at hif
  obtain ⟨Fin3, hs3', hF3, KP3, hret3⟩ := fst_inner hit hfn hs' hp3
  obtain ⟨qv3, rfl, _⟩ := hret3.form
  have hFk : ∀ x, (F1 x ∨ x ∈ kv2.ownBlock.toList) → F x ∨ h.size ≤ x := fun b hb => by
    rcases hb with hb | hb
    · exact hF1 b hb
    · rcases hkv b hb with h9 | h9
      · exact hF1 b h9
      · exact .inr (by have := KP.1; omega)
  refine q_lp (mB (pPrev W (.pt i))) [(0, _), (1, _), (2, _)] (mB_prev) ⟨rfl, rfl, rfl, trivial⟩ ⟨_, Fin3, _, _, _, _, _, _, qv3, in_prev (List.getElem?_eq_some_iff.1 hsi).1, rfl, rfl, hs3', (KP.trans KP' hF1).trans KP3 hFk, fun b hb => ?_, hret3, ?_⟩
  · rcases hb with hb | hb
    · exact hFk b hb
    · rcases hF3 b hb with h9 | h9
      · exact hFk b (.inl (hs1 b h9))
      · exact .inr (by have := (KP.trans KP' hF1).1; omega)
  · rw [← bwd_miss hsi hfm]; exact hfw
end Go.Proofs.Ytgebfbnndgjkiaa
namespace Go.Proofs.Ytgebfbnndgjkiaa
open Go.Tess Go.RowKit
set_option maxRecDepth 100000
set_option maxHeartbeats 1000000
theorem itpost_trans {W : List SpanD} {I : ItI} {F F' : Nat → Prop} {h h1 h' : Heap} {p : Pos} {r : Value} (K : KeepP F h h1) (hF : ∀ b, F' b → F b ∨ h.size ≤ b) (hp : ItPost W I F' h1 p r h') : ItPost W I F h p r h' := by
  obtain ⟨F2, h2, h3, h4, h5⟩ := hp
  refine ⟨F2, h2, fun b hb => ?_, K.trans h4 hF, h5⟩
  rcases h3 b hb with h9 | h9
  · exact hF b h9
  · exact .inr (by have := K.1; omega)
theorem itpost_weak {ff : SpanD → Option SpanD} {W : List SpanD} {I : ItI} {t : TypeId} {v0 fv : Value} {c : Nat} {G0 : Nat → Prop} {Env : Heap → Prop} {F : Nat → Prop} {h h' : Heap} {p p' : Pos} {r : Value}
    (hp : ItPost (W.filterMap ff) (FIt ff W I t v0 fv c G0 Env) F h p r h') (he : p = p' ∨ (p' = .nowhere ∧ cur (W.filterMap ff) p = none)) : ItPost (W.filterMap ff) (FIt ff W I t v0 fv c G0 Env) F h p' r h' := by
  rcases he with rfl | ⟨rfl, hc⟩
  · exact hp
  · obtain ⟨F', ⟨q, Fin, sv, ev, kv, kk, n, xs, hs, _⟩, h3, h4, h5⟩ := hp
    refine ⟨F', ⟨q, Fin, sv, ev, kv, kk, n, xs, hs, trivial⟩, h3, h4, ?_⟩
    unfold Ret at h5 ⊢
    rw [hc] at h5
    exact h5
theorem in_first {W : List SpanD} : ∀ j, pFirst W = .pt j → j < W.length := by
  intro j h; simp only [pFirst] at h; split at h
  · cases h
  · cases h; omega
theorem in_last {W : List SpanD} : ∀ j, pLast W = .pt j → j < W.length := by
  intro j h; simp only [pLast] at h; split at h
  · cases h
  · cases h; omega
theorem in_nextq {W : List SpanD} {q : Pos} (hc : canNext q = true) : ∀ j, pNext W q = .pt j → j < W.length := by
  cases q with
  | pt i => exact in_next
  | ahead => intro j h; simp only [pNext] at h; split at h; · cases h; assumption
             · cases h
  | _ => simp [canNext] at hc
theorem in_prevq {W : List SpanD} {q : Pos} (hq : ∀ i, q = .pt i → i < W.length) (hc : canPrev q = true) : ∀ j, pPrev W q = .pt j → j < W.length := by
  cases q with
  | pt i => exact in_prev (hq i rfl)
  | behind => intro j h; simp only [pPrev] at h; split at h
              · cases h
              · cases h; omega
  | _ => simp [canPrev] at hc
theorem in_ge {W : List SpanD} {k : ByteArray} : ∀ j, pGE W k = .pt j → j < W.length := by
  intro j h; simp only [pGE] at h; split at h
  · cases h; assumption
  · cases h
theorem in_lt {W : List SpanD} {k : ByteArray} : ∀ j, pLT W k = .pt j → j < W.length := by
  intro j h; simp only [pLT] at h; have := ltI_le W k; split at h
  · cases h
  · cases h; omega
theorem rel_in {ff : SpanD → Option SpanD} {W : List SpanD} {p q : Pos} (hr : relP ff W p q) (hp : p ≠ .nowhere) : ∀ i, q = .pt i → i < W.length := by
  rintro i rfl
  cases p with
  | pt j => obtain ⟨s, s', h, _⟩ := hr; exact (List.getElem?_eq_some_iff.1 h).1
  | nowhere => exact absurd rfl hp
  | _ => exact hr.elim

theorem c_FiFirst {χ : Chi} {ff : SpanD → Option SpanD} {fv : Value} {G0 : Nat → Prop} {Env : Heap → Prop} {W : List SpanD} {t : TypeId} {v0 : Value} {I : ItI} {c : Nat} {F : Nat → Prop} {h : Heap} {p : Pos}
    (hit : IterOK Try.prog χ W t v0 I) (hfn : FnOK χ W ff fv G0 Env) (hWn : ∀ s, s ∈ W → s.ks.length ≤ 100000) (hI : FIt ff W I t v0 fv c G0 Env p F h)  :
    Cl Try.prog χ 162 #[.pointer (some ⟨c, 0, none⟩)] h (ItPost (W.filterMap ff) (FIt ff W I t v0 fv c G0 Env) F h (pFirst (W.filterMap ff))) := by
  obtain ⟨q, Fin, sv, ev, kv, kk, n, xs, hs, hrel⟩ := hI
  have Bc := hs.2.1
  refine cl_intro Try.func162 rfl rfl rfl ?_
  have K : Keep [] h h := Keep.refl _ _
  refine tr_seq ?_
  refine tr_reg ?_
  refine rs_v (v_assign rfl) rfl ?_
  refine rs_nil ?_
  refine q_thn ?_
  refine tr_seq ?_
  refine tr_reg ?_
  refine rs_v (v_move rfl) rfl ?_
  refine rs_v (v_move rfl) rfl ?_
  refine rs_v (v_nilCheck_ptr rfl) rfl ?_
  refine rs_v (v_fieldAddr fa_keyspan_filteringIter_0 rfl) rfl ?_
  refine rs_v (v_load one_keyspan_FragmentIterator rfl (by exact Bc.cell _ rfl)) rfl ?_
  refine rs_w (w_mcall (vs := []) (hit.first hs.1) rfl trivial) rfl ?_
  rintro r1 h1 hp1
  obtain ⟨Fin', hs', hF', KP', hret'⟩ := fst_inner hit hfn hs hp1
  refine rs_w (w_call (vs := [_, _, _]) ok_keyspan_filteringIter_filter rfl ⟨rfl, rfl, rfl, trivial⟩ (c_filterF hit hfn hWn in_first hs' hret')) rfl ?_
  rintro r2 h2 hp2
  refine rs_v (v_assign rfl) rfl ?_
  refine rs_nil ?_
  refine q_thn ?_
  refine tr_ret ?_
  refine q_ret (res_tmp rfl rfl) ?_
  have hFF : ∀ b, (F b ∨ Fin' b) → F b ∨ h.size ≤ b := fun b hb => hb.elim .inl (fun e => (hF' b e).imp (hs.2.2.2.2.2.2.2.2.1 b) id)
  exact itpost_weak (itpost_trans KP' hFF hp2) fwd_first
theorem c_FiLast {χ : Chi} {ff : SpanD → Option SpanD} {fv : Value} {G0 : Nat → Prop} {Env : Heap → Prop} {W : List SpanD} {t : TypeId} {v0 : Value} {I : ItI} {c : Nat} {F : Nat → Prop} {h : Heap} {p : Pos}
    (hit : IterOK Try.prog χ W t v0 I) (hfn : FnOK χ W ff fv G0 Env) (hWn : ∀ s, s ∈ W → s.ks.length ≤ 100000) (hI : FIt ff W I t v0 fv c G0 Env p F h)  :
    Cl Try.prog χ 163 #[.pointer (some ⟨c, 0, none⟩)] h (ItPost (W.filterMap ff) (FIt ff W I t v0 fv c G0 Env) F h (pLast (W.filterMap ff))) := by
  obtain ⟨q, Fin, sv, ev, kv, kk, n, xs, hs, hrel⟩ := hI
  have Bc := hs.2.1
  refine cl_intro Try.func163 rfl rfl rfl ?_
  have K : Keep [] h h := Keep.refl _ _
  refine tr_seq ?_
  refine tr_reg ?_
  refine rs_v (v_assign rfl) rfl ?_
  refine rs_nil ?_
  refine q_thn ?_
  refine tr_seq ?_
  refine tr_reg ?_
  refine rs_v (v_move rfl) rfl ?_
  refine rs_v (v_move rfl) rfl ?_
  refine rs_v (v_nilCheck_ptr rfl) rfl ?_
  refine rs_v (v_fieldAddr fa_keyspan_filteringIter_0 rfl) rfl ?_
  refine rs_v (v_load one_keyspan_FragmentIterator rfl (by exact Bc.cell _ rfl)) rfl ?_
  refine rs_w (w_mcall (vs := []) (hit.last hs.1) rfl trivial) rfl ?_
  rintro r1 h1 hp1
  obtain ⟨Fin', hs', hF', KP', hret'⟩ := fst_inner hit hfn hs hp1
  refine rs_w (w_call (vs := [_, _, _]) ok_keyspan_filteringIter_filter rfl ⟨rfl, rfl, rfl, trivial⟩ (c_filterB hit hfn hWn in_last hs' hret')) rfl ?_
  rintro r2 h2 hp2
  refine rs_v (v_assign rfl) rfl ?_
  refine rs_nil ?_
  refine q_thn ?_
  refine tr_ret ?_
  refine q_ret (res_tmp rfl rfl) ?_
  have hFF : ∀ b, (F b ∨ Fin' b) → F b ∨ h.size ≤ b := fun b hb => hb.elim .inl (fun e => (hF' b e).imp (hs.2.2.2.2.2.2.2.2.1 b) id)
  exact itpost_weak (itpost_trans KP' hFF hp2) bwd_last
theorem c_FiNext {χ : Chi} {ff : SpanD → Option SpanD} {fv : Value} {G0 : Nat → Prop} {Env : Heap → Prop} {W : List SpanD} {t : TypeId} {v0 : Value} {I : ItI} {c : Nat} {F : Nat → Prop} {h : Heap} {p : Pos}
    (hit : IterOK Try.prog χ W t v0 I) (hfn : FnOK χ W ff fv G0 Env) (hWn : ∀ s, s ∈ W → s.ks.length ≤ 100000) (hI : FIt ff W I t v0 fv c G0 Env p F h) (hc : canNext p = true) :
    Cl Try.prog χ 164 #[.pointer (some ⟨c, 0, none⟩)] h (ItPost (W.filterMap ff) (FIt ff W I t v0 fv c G0 Env) F h (pNext (W.filterMap ff) p)) := by
  obtain ⟨q, Fin, sv, ev, kv, kk, n, xs, hs, hrel⟩ := hI
  have Bc := hs.2.1
  have hn := fwd_next hrel hc
  refine cl_intro Try.func164 rfl rfl rfl ?_
  have K : Keep [] h h := Keep.refl _ _
  refine tr_seq ?_
  refine tr_reg ?_
  refine rs_v (v_assign rfl) rfl ?_
  refine rs_nil ?_
  refine q_thn ?_
  refine tr_seq ?_
  refine tr_reg ?_
  refine rs_v (v_move rfl) rfl ?_
  refine rs_v (v_move rfl) rfl ?_
  refine rs_v (v_nilCheck_ptr rfl) rfl ?_
  refine rs_v (v_fieldAddr fa_keyspan_filteringIter_0 rfl) rfl ?_
  refine rs_v (v_load one_keyspan_FragmentIterator rfl (by exact Bc.cell _ rfl)) rfl ?_
  refine rs_w (w_mcall (vs := []) (hit.next hs.1 hn.1) rfl trivial) rfl ?_
  rintro r1 h1 hp1
  obtain ⟨Fin', hs', hF', KP', hret'⟩ := fst_inner hit hfn hs hp1
  refine rs_w (w_call (vs := [_, _, _]) ok_keyspan_filteringIter_filter rfl ⟨rfl, rfl, rfl, trivial⟩ (c_filterF hit hfn hWn (in_nextq hn.1) hs' hret')) rfl ?_
  rintro r2 h2 hp2
  refine rs_v (v_assign rfl) rfl ?_
  refine rs_nil ?_
  refine q_thn ?_
  refine tr_ret ?_
  refine q_ret (res_tmp rfl rfl) ?_
  have hFF : ∀ b, (F b ∨ Fin' b) → F b ∨ h.size ≤ b := fun b hb => hb.elim .inl (fun e => (hF' b e).imp (hs.2.2.2.2.2.2.2.2.1 b) id)
  rw [← hn.2]
  exact itpost_trans KP' hFF hp2
theorem c_FiPrev {χ : Chi} {ff : SpanD → Option SpanD} {fv : Value} {G0 : Nat → Prop} {Env : Heap → Prop} {W : List SpanD} {t : TypeId} {v0 : Value} {I : ItI} {c : Nat} {F : Nat → Prop} {h : Heap} {p : Pos}
    (hit : IterOK Try.prog χ W t v0 I) (hfn : FnOK χ W ff fv G0 Env) (hWn : ∀ s, s ∈ W → s.ks.length ≤ 100000) (hI : FIt ff W I t v0 fv c G0 Env p F h) (hc : canPrev p = true) :
    Cl Try.prog χ 165 #[.pointer (some ⟨c, 0, none⟩)] h (ItPost (W.filterMap ff) (FIt ff W I t v0 fv c G0 Env) F h (pPrev (W.filterMap ff) p)) := by
  obtain ⟨q, Fin, sv, ev, kv, kk, n, xs, hs, hrel⟩ := hI
  have Bc := hs.2.1
  have hn := bwd_prev hrel hc
  refine cl_intro Try.func165 rfl rfl rfl ?_
  have K : Keep [] h h := Keep.refl _ _
  refine tr_seq ?_
  refine tr_reg ?_
  refine rs_v (v_assign rfl) rfl ?_
  refine rs_nil ?_
  refine q_thn ?_
  refine tr_seq ?_
  refine tr_reg ?_
  refine rs_v (v_move rfl) rfl ?_
  refine rs_v (v_move rfl) rfl ?_
  refine rs_v (v_nilCheck_ptr rfl) rfl ?_
  refine rs_v (v_fieldAddr fa_keyspan_filteringIter_0 rfl) rfl ?_
  refine rs_v (v_load one_keyspan_FragmentIterator rfl (by exact Bc.cell _ rfl)) rfl ?_
  refine rs_w (w_mcall (vs := []) (hit.prev hs.1 hn.1) rfl trivial) rfl ?_
  rintro r1 h1 hp1
  obtain ⟨Fin', hs', hF', KP', hret'⟩ := fst_inner hit hfn hs hp1
  refine rs_w (w_call (vs := [_, _, _]) ok_keyspan_filteringIter_filter rfl ⟨rfl, rfl, rfl, trivial⟩ (c_filterB hit hfn hWn (in_prevq (rel_in hrel (fun e => by subst e; simp [canPrev] at hc)) hn.1) hs' hret')) rfl ?_
  rintro r2 h2 hp2
  refine rs_v (v_assign rfl) rfl ?_
  refine rs_nil ?_
  refine q_thn ?_
  refine tr_ret ?_
  refine q_ret (res_tmp rfl rfl) ?_
  have hFF : ∀ b, (F b ∨ Fin' b) → F b ∨ h.size ≤ b := fun b hb => hb.elim .inl (fun e => (hF' b e).imp (hs.2.2.2.2.2.2.2.2.1 b) id)
  rw [← hn.2]
  exact itpost_trans KP' hFF hp2
end Go.Proofs.Ytgebfbnndgjkiaa
namespace Go.Proofs.Ytgebfbnndgjkiaa
open Go.Tess Go.RowKit
set_option maxRecDepth 100000
set_option maxHeartbeats 1000000
theorem c_FiSeekGE {χ : Chi} {ff : SpanD → Option SpanD} {fv : Value} {G0 : Nat → Prop} {Env : Heap → Prop} {W : List SpanD} {t : TypeId} {v0 : Value} {I : ItI} {c : Nat} {F : Nat → Prop} {h : Heap} {p : Pos} {kv0 : Value} {key : ByteArray}
    (hit : IterOK Try.prog χ W t v0 I) (hfn : FnOK χ W ff fv G0 Env) (hWn : ∀ s, s ∈ W → s.ks.length ≤ 100000) (hO : Tess.Ord W) (hSh : Shrink ff W) (hI : FIt ff W I t v0 fv c G0 Env p F h) (hkey : RBytes (fun b => ¬ F b) h kv0 key) :
    Cl Try.prog χ 166 #[.pointer (some ⟨c, 0, none⟩), kv0] h (ItPost (W.filterMap ff) (FIt ff W I t v0 fv c G0 Env) F h (pGE (W.filterMap ff) key)) := by
  obtain ⟨q, Fin, sv, ev, kv, kk, n, xs, hs, hrel⟩ := hI
  have Bc := hs.2.1
  refine cl_intro Try.func166 rfl rfl rfl ?_
  have K : Keep [] h h := Keep.refl _ _
  refine tr_seq ?_
  refine tr_reg ?_
  refine rs_v (v_assign rfl) rfl ?_
  refine rs_nil ?_
  refine q_thn ?_
  refine tr_seq ?_
  refine tr_reg ?_
  refine rs_v (v_move rfl) rfl ?_
  refine rs_v (v_move rfl) rfl ?_
  refine rs_v (v_nilCheck_ptr rfl) rfl ?_
  refine rs_v (v_fieldAddr fa_keyspan_filteringIter_0 rfl) rfl ?_
  refine rs_v (v_load one_keyspan_FragmentIterator rfl (by exact Bc.cell _ rfl)) rfl ?_
  refine rs_v (v_move rfl) rfl ?_
  refine rs_w (w_mcall (vs := [_]) (hit.ge hs.1 (hkey.mono (fun b hb hf => hb (hs.2.2.2.2.2.2.2.2.1 b hf)))) rfl ⟨rfl, trivial⟩) rfl ?_
  rintro r1 h1 hp1
  obtain ⟨Fin', hs', hF', KP', hret'⟩ := fst_inner hit hfn hs hp1
  refine rs_w (w_call (vs := [_, _, _]) ok_keyspan_filteringIter_filter rfl ⟨rfl, rfl, rfl, trivial⟩ (c_filterF hit hfn hWn in_ge hs' hret')) rfl ?_
  rintro r2 h2 hp2
  have hFF : ∀ b, (F b ∨ Fin' b) → F b ∨ h.size ≤ b := fun b hb => hb.elim .inl (fun e => (hF' b e).imp (hs.2.2.2.2.2.2.2.2.1 b) id)
  have hp20 := hp2
  obtain ⟨F2, hI2, hF2, KP2, hret2⟩ := hp2
  have hI20 := hI2
  obtain ⟨q2, Fin2, sv2, ev2, kv2, kk2, n2, xs2, hs2, hrel2⟩ := hI20
  have Bc := hs2.2.1
  have KPt := KP'.trans KP2 hFF
  have hF9 : ∀ b, F2 b → F b ∨ h.size ≤ b := fun b hb => (hF2 b hb).elim (hFF b) (fun e => .inr (by have := KP'.1; omega))
  have hke : RBy h2 kv0 key := RBytes.by ((RBytes.lowen hkey).stab (fun b hb => KPt.2 b hb.2 hb.1))
  have hlaw := seek_ge hO hSh key
  refine rs_v (v_assign rfl) rfl ?_
  refine rs_nil ?_
  refine q_thn ?_
  refine tr_seq ?_
  refine tr_cut (fun E h' => ∃ bb : Bool, h2 = h' ∧ E = [(0, .pointer (some ⟨c, 0, none⟩)), (1, kv0), (5, r2), (28, .bool bb)] ∧ (bb = true → ∃ s2, cur (W.filterMap ff) (fwdP ff W (pGE W key)) = some s2 ∧ sle s2.e key = true) ∧ (bb = false → ∀ s2, cur (W.filterMap ff) (fwdP ff W (pGE W key)) = some s2 → sle s2.e key = false)) ?_ ?_
  ·
    obtain ⟨qv, rfl, hq⟩ := hret2.form
    rcases hq with ⟨rfl, hcur⟩ | ⟨s2, b, o, rfl, hcur, hFb, hps⟩
    · skip
      refine tr_quiet (by kernel_rfl) (by kernel_rfl) ?_
      refine rq_v (v_move rfl) ?_
      refine rq_v (v_pne u_p_keyspan_Span rfl rfl) ?_
      refine rq_v (v_move rfl) ?_
      refine rm_gs same_pre rfl rfl rfl ?_
      refine rm_gs same_pre rfl rfl rfl ?_
      refine rm_gs same_pre rfl rfl rfl ?_
      refine rm_gs same_pre rfl rfl rfl ?_
      refine rm_gs same_pre rfl rfl rfl ?_
      refine rm_gs same_pre rfl rfl rfl ?_
      refine rm_gs same_pre rfl rfl rfl ?_
      refine rm_gs same_pre rfl rfl rfl ?_
      refine rm_gs same_pre rfl rfl rfl ?_
      refine rm_gs same_pre rfl rfl rfl ?_
      refine rm_gs same_pre rfl rfl rfl ?_
      refine rq_v (v_pick_f rfl rfl) ?_
      refine rm_end ?_; simp only [endM, hypF, ofE, argE]
      exact q_cut [(0, _), (1, _), (5, _), (28, _)] ⟨rfl, rfl, rfl, rfl, trivial⟩ ⟨_, rfl, rfl, (fun h9 => by cases h9), fun _ s2 hs9 => by rw [hcur] at hs9; cases hs9⟩
    · obtain ⟨sv9, ev9, kv9, kk9, hcell, g1, g2, g3⟩ := hps
      refine tr_quiet (by kernel_rfl) (by kernel_rfl) ?_
      refine rq_v (v_move rfl) ?_
      refine rq_v (v_pne u_p_keyspan_Span rfl rfl) ?_
      refine rq_v (v_move rfl) ?_
      refine rq_gv rfl rfl (v_move rfl) ?_
      refine rq_gv rfl rfl (v_nilCheck_ptr rfl) ?_
      refine rq_gv rfl rfl (v_fieldAddr fa_keyspan_filteringIter_2 rfl) ?_
      refine rq_gv rfl rfl (v_load one_base_Compare rfl (by exact Bc.cell _ rfl)) ?_
      refine rq_gv rfl rfl (v_move rfl) ?_
      refine rq_gv rfl rfl (v_nilCheck_ptr rfl) ?_
      refine rq_gv rfl rfl (v_fieldAddr fa_keyspan_Span_1 rfl) ?_
      refine rq_gv rfl rfl (v_load one_sl_uint8 rfl (by exact hcell.at 1 rfl)) ?_
      refine rq_gv rfl rfl (v_move rfl) ?_
      refine rq_gw rfl rfl (w_callv (first := []) (cap := []) (vs := [_, _]) ok_bytes_Compare rfl ⟨rfl, rfl, trivial⟩ (c_Compare χ _ _ _ s2.e key (RBytes.by g2) hke)) ?_
      refine rq_gv rfl rfl (v_le rfl rfl) ?_
      refine rq_v (v_pick_t rfl rfl) ?_
      refine rm_end ?_; simp only [endM, hypF, ofE, argE]
      exact q_cut [(0, _), (1, _), (5, _), (28, _)] ⟨rfl, rfl, rfl, rfl, trivial⟩ ⟨_, rfl, rfl, (fun h9 => ⟨s2, hcur, sle_iff.2 (of_decide_eq_true h9)⟩), fun h9 s3 hs9 => by rw [hcur] at hs9; cases hs9; exact sle_no.2 (by have := of_decide_eq_false h9; omega)⟩
  rintro E h9 ⟨bb, hh, rfl, hb1, hb0⟩
  subst hh
  refine tr_if rfl (fun hif => ?_) (fun hif => ?_)
  · -- yes
    obtain ⟨s2, hcur, hgood⟩ := hb1 hif
    have hcan : canNext (fwdP ff W (pGE W key)) = true := by
      obtain ⟨i9, e9, _⟩ := cur_some hcur
      rw [e9]; rfl
    refine tr_seq ?_
    refine tr_reg ?_
    refine rs_v (v_move rfl) rfl ?_
    refine rs_w (w_call (vs := [_]) ok_keyspan_filteringIter_Next rfl ⟨rfl, trivial⟩ (c_FiNext hit hfn hWn hI2 hcan)) rfl ?_
    rintro r3 h4 hp3
    refine rs_v (v_assign rfl) rfl ?_
    refine rs_nil ?_
    refine q_thn ?_
    refine tr_ret ?_
    refine q_thn_ret ?_
    refine q_ret (res_tmp rfl rfl) ?_
    rw [hlaw.2 s2 hcur, if_pos hgood]
    exact itpost_trans (KP'.trans KP2 hFF) hF9 hp3
  -- no
  skip
  refine tr_skip ?_
  refine q_thn ?_
  refine tr_seq ?_
  refine tr_reg ?_
  refine rs_v (v_move rfl) rfl ?_
  refine rs_v (v_assign rfl) rfl ?_
  refine rs_nil ?_
  refine q_thn ?_
  refine tr_ret ?_
  refine q_ret (res_tmp rfl rfl) ?_
  have hpp : pGE (W.filterMap ff) key = fwdP ff W (pGE W key) := by
    cases hc9 : cur (W.filterMap ff) (fwdP ff W (pGE W key)) with
    | none => exact hlaw.1 hc9
    | some s2 =>
      have h9 := hb0 hif s2 hc9
      rw [hlaw.2 s2 hc9, if_neg (by rw [h9]; decide)]
  rw [hpp]
  exact itpost_trans KP' hFF hp20
theorem c_FiSeekLT {χ : Chi} {ff : SpanD → Option SpanD} {fv : Value} {G0 : Nat → Prop} {Env : Heap → Prop} {W : List SpanD} {t : TypeId} {v0 : Value} {I : ItI} {c : Nat} {F : Nat → Prop} {h : Heap} {p : Pos} {kv0 : Value} {key : ByteArray}
    (hit : IterOK Try.prog χ W t v0 I) (hfn : FnOK χ W ff fv G0 Env) (hWn : ∀ s, s ∈ W → s.ks.length ≤ 100000) (hO : Tess.Ord W) (hSh : Shrink ff W) (hI : FIt ff W I t v0 fv c G0 Env p F h) (hkey : RBytes (fun b => ¬ F b) h kv0 key) :
    Cl Try.prog χ 167 #[.pointer (some ⟨c, 0, none⟩), kv0] h (ItPost (W.filterMap ff) (FIt ff W I t v0 fv c G0 Env) F h (pLT (W.filterMap ff) key)) := by
  obtain ⟨q, Fin, sv, ev, kv, kk, n, xs, hs, hrel⟩ := hI
  have Bc := hs.2.1
  refine cl_intro Try.func167 rfl rfl rfl ?_
  have K : Keep [] h h := Keep.refl _ _
  refine tr_seq ?_
  refine tr_reg ?_
  refine rs_v (v_assign rfl) rfl ?_
  refine rs_nil ?_
  refine q_thn ?_
  refine tr_seq ?_
  refine tr_reg ?_
  refine rs_v (v_move rfl) rfl ?_
  refine rs_v (v_move rfl) rfl ?_
  refine rs_v (v_nilCheck_ptr rfl) rfl ?_
  refine rs_v (v_fieldAddr fa_keyspan_filteringIter_0 rfl) rfl ?_
  refine rs_v (v_load one_keyspan_FragmentIterator rfl (by exact Bc.cell _ rfl)) rfl ?_
  refine rs_v (v_move rfl) rfl ?_
  refine rs_w (w_mcall (vs := [_]) (hit.lt hs.1 (hkey.mono (fun b hb hf => hb (hs.2.2.2.2.2.2.2.2.1 b hf)))) rfl ⟨rfl, trivial⟩) rfl ?_
  rintro r1 h1 hp1
  obtain ⟨Fin', hs', hF', KP', hret'⟩ := fst_inner hit hfn hs hp1
  refine rs_w (w_call (vs := [_, _, _]) ok_keyspan_filteringIter_filter rfl ⟨rfl, rfl, rfl, trivial⟩ (c_filterB hit hfn hWn in_lt hs' hret')) rfl ?_
  rintro r2 h2 hp2
  have hFF : ∀ b, (F b ∨ Fin' b) → F b ∨ h.size ≤ b := fun b hb => hb.elim .inl (fun e => (hF' b e).imp (hs.2.2.2.2.2.2.2.2.1 b) id)
  have hp20 := hp2
  obtain ⟨F2, hI2, hF2, KP2, hret2⟩ := hp2
  have hI20 := hI2
  obtain ⟨q2, Fin2, sv2, ev2, kv2, kk2, n2, xs2, hs2, hrel2⟩ := hI20
  have Bc := hs2.2.1
  have KPt := KP'.trans KP2 hFF
  have hF9 : ∀ b, F2 b → F b ∨ h.size ≤ b := fun b hb => (hF2 b hb).elim (hFF b) (fun e => .inr (by have := KP'.1; omega))
  have hke : RBy h2 kv0 key := RBytes.by ((RBytes.lowen hkey).stab (fun b hb => KPt.2 b hb.2 hb.1))
  have hlaw := seek_lt hO hSh key
  refine rs_v (v_assign rfl) rfl ?_
  refine rs_nil ?_
  refine q_thn ?_
  refine tr_seq ?_
  refine tr_cut (fun E h' => ∃ bb : Bool, h2 = h' ∧ E = [(0, .pointer (some ⟨c, 0, none⟩)), (1, kv0), (5, r2), (28, .bool bb)] ∧ (bb = true → ∃ s2, cur (W.filterMap ff) (bwdP ff W (pLT W key)) = some s2 ∧ slt s2.s key = false) ∧ (bb = false → ∀ s2, cur (W.filterMap ff) (bwdP ff W (pLT W key)) = some s2 → slt s2.s key = true)) ?_ ?_
  ·
    obtain ⟨qv, rfl, hq⟩ := hret2.form
    rcases hq with ⟨rfl, hcur⟩ | ⟨s2, b, o, rfl, hcur, hFb, hps⟩
    · skip
      refine tr_quiet (by kernel_rfl) (by kernel_rfl) ?_
      refine rq_v (v_move rfl) ?_
      refine rq_v (v_pne u_p_keyspan_Span rfl rfl) ?_
      refine rq_v (v_move rfl) ?_
      refine rm_gs same_pre rfl rfl rfl ?_
      refine rm_gs same_pre rfl rfl rfl ?_
      refine rm_gs same_pre rfl rfl rfl ?_
      refine rm_gs same_pre rfl rfl rfl ?_
      refine rm_gs same_pre rfl rfl rfl ?_
      refine rm_gs same_pre rfl rfl rfl ?_
      refine rm_gs same_pre rfl rfl rfl ?_
      refine rm_gs same_pre rfl rfl rfl ?_
      refine rm_gs same_pre rfl rfl rfl ?_
      refine rm_gs same_pre rfl rfl rfl ?_
      refine rm_gs same_pre rfl rfl rfl ?_
      refine rq_v (v_pick_f rfl rfl) ?_
      refine rm_end ?_; simp only [endM, hypF, ofE, argE]
      exact q_cut [(0, _), (1, _), (5, _), (28, _)] ⟨rfl, rfl, rfl, rfl, trivial⟩ ⟨_, rfl, rfl, (fun h9 => by cases h9), fun _ s2 hs9 => by rw [hcur] at hs9; cases hs9⟩
    · obtain ⟨sv9, ev9, kv9, kk9, hcell, g1, g2, g3⟩ := hps
      refine tr_quiet (by kernel_rfl) (by kernel_rfl) ?_
      refine rq_v (v_move rfl) ?_
      refine rq_v (v_pne u_p_keyspan_Span rfl rfl) ?_
      refine rq_v (v_move rfl) ?_
      refine rq_gv rfl rfl (v_move rfl) ?_
      refine rq_gv rfl rfl (v_nilCheck_ptr rfl) ?_
      refine rq_gv rfl rfl (v_fieldAddr fa_keyspan_filteringIter_2 rfl) ?_
      refine rq_gv rfl rfl (v_load one_base_Compare rfl (by exact Bc.cell _ rfl)) ?_
      refine rq_gv rfl rfl (v_move rfl) ?_
      refine rq_gv rfl rfl (v_nilCheck_ptr rfl) ?_
      refine rq_gv rfl rfl (v_fieldAddr fa_keyspan_Span_0 rfl) ?_
      refine rq_gv rfl rfl (v_load one_sl_uint8 rfl (by exact hcell.at 0 rfl)) ?_
      refine rq_gv rfl rfl (v_move rfl) ?_
      refine rq_gw rfl rfl (w_callv (first := []) (cap := []) (vs := [_, _]) ok_bytes_Compare rfl ⟨rfl, rfl, trivial⟩ (c_Compare χ _ _ _ s2.s key (RBytes.by g1) hke)) ?_
      refine rq_gv rfl rfl (v_ge rfl rfl) ?_
      refine rq_v (v_pick_t rfl rfl) ?_
      refine rm_end ?_; simp only [endM, hypF, ofE, argE]
      exact q_cut [(0, _), (1, _), (5, _), (28, _)] ⟨rfl, rfl, rfl, rfl, trivial⟩ ⟨_, rfl, rfl, (fun h9 => ⟨s2, hcur, slt_no.2 (of_decide_eq_true h9)⟩), fun h9 s3 hs9 => by rw [hcur] at hs9; cases hs9; exact slt_iff.2 (by have := of_decide_eq_false h9; omega)⟩
  rintro E h9 ⟨bb, hh, rfl, hb1, hb0⟩
  subst hh
  refine tr_if rfl (fun hif => ?_) (fun hif => ?_)
  · -- yes
    obtain ⟨s2, hcur, hgood⟩ := hb1 hif
    have hcan : canPrev (bwdP ff W (pLT W key)) = true := by
      obtain ⟨i9, e9, _⟩ := cur_some hcur
      rw [e9]; rfl
    refine tr_seq ?_
    refine tr_reg ?_
    refine rs_v (v_move rfl) rfl ?_
    refine rs_w (w_call (vs := [_]) ok_keyspan_filteringIter_Prev rfl ⟨rfl, trivial⟩ (c_FiPrev hit hfn hWn hI2 hcan)) rfl ?_
    rintro r3 h4 hp3
    refine rs_v (v_assign rfl) rfl ?_
    refine rs_nil ?_
    refine q_thn ?_
    refine tr_ret ?_
    refine q_thn_ret ?_
    refine q_ret (res_tmp rfl rfl) ?_
    rw [hlaw.2 s2 hcur, if_neg (by rw [hgood]; decide)]
    exact itpost_trans (KP'.trans KP2 hFF) hF9 hp3
  -- no
  skip
  refine tr_skip ?_
  refine q_thn ?_
  refine tr_seq ?_
  refine tr_reg ?_
  refine rs_v (v_move rfl) rfl ?_
  refine rs_v (v_assign rfl) rfl ?_
  refine rs_nil ?_
  refine q_thn ?_
  refine tr_ret ?_
  refine q_ret (res_tmp rfl rfl) ?_
  have hpp : pLT (W.filterMap ff) key = bwdP ff W (pLT W key) := by
    cases hc9 : cur (W.filterMap ff) (bwdP ff W (pLT W key)) with
    | none => exact hlaw.1 hc9
    | some s2 =>
      have h9 := hb0 hif s2 hc9
      rw [hlaw.2 s2 hc9, if_pos h9]
  rw [hpp]
  exact itpost_trans KP' hFF hp20
theorem m_FiFirst (v : Value) : Meth Try.prog 183 v "First" 162 v := fun _ => by kernel_rfl
theorem m_FiLast (v : Value) : Meth Try.prog 183 v "Last" 163 v := fun _ => by kernel_rfl
theorem m_FiNext (v : Value) : Meth Try.prog 183 v "Next" 164 v := fun _ => by kernel_rfl
theorem m_FiPrev (v : Value) : Meth Try.prog 183 v "Prev" 165 v := fun _ => by kernel_rfl
theorem m_FiSeekGE (v : Value) : Meth Try.prog 183 v "SeekGE" 166 v := fun _ => by kernel_rfl
theorem m_FiSeekLT (v : Value) : Meth Try.prog 183 v "SeekLT" 167 v := fun _ => by kernel_rfl
theorem m_FiError (v : Value) : Meth Try.prog 183 v "Error" 161 v := fun _ => by kernel_rfl
theorem fi_ok {χ : Chi} {ff : SpanD → Option SpanD} {fv : Value} {G0 : Nat → Prop} {Env : Heap → Prop} {W : List SpanD} {t : TypeId} {v0 : Value} {I : ItI} (c : Nat) (hit : IterOK Try.prog χ W t v0 I) (hfn : FnOK χ W ff fv G0 Env) (hWn : ∀ s, s ∈ W → s.ks.length ≤ 100000) (hO : Tess.Ord W) (hSh : Shrink ff W) :
    IterOK Try.prog χ (W.filterMap ff) 183 (.pointer (some ⟨c, 0, none⟩)) (FIt ff W I t v0 fv c G0 Env) where
  low := fun hI => by obtain ⟨q, Fin, sv, ev, kv, kk, n, xs, hs, hrel⟩ := hI; exact hs.2.2.2.2.2.2.2.2.2.2.2.2
  stab := fun hI hst hz => by
    obtain ⟨q, Fin, sv, ev, kv, kk, n, xs, ⟨hI, B, O, hE, hx, hc, hg, hd, hs1, hs2, hs3, hs4, hl⟩, hrel⟩ := hI
    refine ⟨q, Fin, sv, ev, kv, kk, n, xs, ⟨hit.stab hI (fun b hb => hst b (hs1 b hb)) hz, (hst c hs2).trans B, ?_, hfn.stab hE (fun b hb => hst b (hs4 b hb)) hz, hx, hc, hg, hd, hs1, hs2, hs3, hs4, hl.mono hz⟩, hrel⟩
    refine ⟨O.1, ?_⟩
    rcases O.2 with hn | ⟨g, cap, cur, rfl, hb, hgg, rest⟩
    · exact .inl hn
    · exact .inr ⟨g, cap, cur, rfl, hb, (hst g (hs3 g (by simp [Value.ownBlock]))).trans hgg, rest⟩
  first := fun hI => ⟨_, _, ok_keyspan_filteringIter_First, m_FiFirst _, c_FiFirst hit hfn hWn hI⟩
  last := fun hI => ⟨_, _, ok_keyspan_filteringIter_Last, m_FiLast _, c_FiLast hit hfn hWn hI⟩
  next := fun hI hc => ⟨_, _, ok_keyspan_filteringIter_Next, m_FiNext _, c_FiNext hit hfn hWn hI hc⟩
  prev := fun hI hc => ⟨_, _, ok_keyspan_filteringIter_Prev, m_FiPrev _, c_FiPrev hit hfn hWn hI hc⟩
  ge := fun hI hk => ⟨_, _, ok_keyspan_filteringIter_SeekGE, m_FiSeekGE _, c_FiSeekGE hit hfn hWn hO hSh hI hk⟩
  lt := fun hI hk => ⟨_, _, ok_keyspan_filteringIter_SeekLT, m_FiSeekLT _, c_FiSeekLT hit hfn hWn hO hSh hI hk⟩
  err := fun hI => by
    obtain ⟨q, Fin, sv, ev, kv, kk, n, xs, hs, hrel⟩ := hI
    exact ⟨_, _, ok_keyspan_filteringIter_Error, m_FiError _, c_FiError χ hit _ c q Fin _ hs.1 hs.2.1⟩
end Go.Proofs.Ytgebfbnndgjkiaa
namespace Go.Proofs.Ytgebfbnndgjkiaa
open Go.Tess Go.RowKit
set_option maxRecDepth 100000
set_option maxHeartbeats 1000000
theorem c_Filter (χ : Chi) (h : Heap) (t : TypeId) (v0 : Value) (f : FuncId) (cap : Array Value) :
    Cl Try.prog χ 57 #[.iface t v0, .func (.func f) #[] cap, cmpF] h
      (fun r h' => r = .iface 183 (.pointer (some ⟨h.size, 0, none⟩)) ∧ Blk h' h.size [.iface t v0, .func (.func f) #[] cap, cmpF, .slice none 0 0, .slice none 0 0, .slice none 0 0, .int .i8 0] 185 ∧ Keep [] h h') := by
  unfold cmpF
  refine cl_intro Try.func57 rfl rfl rfl ?_
  have K : Keep [] h h := Keep.refl _ _
  refine tr_seq ?_
  refine tr_reg ?_
  refine rs_v (v_assign rfl) rfl ?_
  refine rs_nil ?_
  refine q_thn ?_
  refine tr_seq ?_
  refine tr_reg ?_
  refine rs_v (v_move rfl) rfl ?_
  refine rs_v (v_move rfl) rfl ?_
  refine rs_v (v_move rfl) rfl ?_
  refine rs_v (v_build3 rfl rfl rfl (bld_keyspan_filteringIter_0_1_2 _ _ _ _ _ _ _ _)) rfl ?_
  refine rs_w (w_newbox rfl) rfl ?_
  rintro _ h1 ⟨rfl, B1, K1, Z1⟩
  have S1 := K.1; have K := K.new0 K1
  refine rs_v (v_makeIface u_p_keyspan_filteringIter rfl) rfl ?_
  refine rs_v (v_assign rfl) rfl ?_
  refine rs_nil ?_
  refine q_thn ?_
  refine tr_ret ?_
  refine q_ret (res_tmp rfl rfl) ?_
  exact ⟨rfl, B1, K⟩

end Go.Proofs.Ytgebfbnndgjkiaa
namespace Go.Proofs.Ytgebfbnndgjkiaa
open Go.Tess Go.RowKit
set_option maxRecDepth 100000
set_option maxHeartbeats 1000000
theorem keep_of_p {F : Nat → Prop} {h h1 h' : Heap} (K : Keep [] h h1) (KP : KeepP F h1 h') (hF : ∀ b, F b → h.size ≤ b) : Keep [] h h' :=
  ⟨Nat.le_trans K.1 KP.1, fun b hb _ => (KP.2 b (Nat.lt_of_lt_of_le hb K.1) (fun hf => by have := hF b hf; omega)).trans (K.2 b hb (by simp))⟩
end Go.Proofs.Ytgebfbnndgjkiaa
namespace Go.Proofs.Ytgebfbnndgjkiaa
open Go.Tess Go.RowKit
set_option maxRecDepth 100000
set_option maxHeartbeats 1000000
/-- Keys by falling trailers, rising suffixes, rising values. -/
def keyLess (a b : KeyD) : Bool := if a.tr = b.tr then (if seq' a.suf b.suf then slt a.val b.val else slt a.suf b.suf) else decide (b.tr < a.tr)

theorem c_spanKeyLess (χ : Chi) (h : Heap) (a b : KeyD) :
    Cl Try.prog χ 90 #[.agg #[.int .u64 a.tr, .string a.suf, .string a.val], .agg #[.int .u64 b.tr, .string b.suf, .string b.val]] h (fun r h' => r = .bool (keyLess a b) ∧ Keep [] h h') := by
  refine cl_intro Try.func90 rfl rfl rfl ?_
  have K : Keep [] h h := Keep.refl _ _
  refine tr_seq ?_
  refine tr_reg ?_
  refine rs_w (w_newbox rfl) rfl ?_
  rintro _ h1 ⟨rfl, B1, K1, Z1⟩
  have S1 := K.1; have K := K.new0 K1
  refine rs_w (w_newbox rfl) rfl ?_
  rintro _ h2 ⟨rfl, B2, K2, Z2⟩
  have B1 := K2.blk (by simp) B1
  have S2 := K.1; have K := K.new0 K2
  refine rs_v (v_assign rfl) rfl ?_
  refine rs_nil ?_
  refine q_thn ?_
  refine tr_seq ?_
  refine tr_seq ?_
  refine tr_reg ?_
  refine rs_v (v_fieldAddr fa_spec_SpanKey_0 rfl) rfl ?_
  refine rs_v (v_load one_uint64 rfl (by exact B1.cell _ rfl)) rfl ?_
  refine rs_v (v_fieldAddr fa_spec_SpanKey_0 rfl) rfl ?_
  refine rs_v (v_load one_uint64 rfl (by exact B2.cell _ rfl)) rfl ?_
  refine rs_v (v_ne rfl rfl) rfl ?_
  refine rs_nil ?_
  refine q_thn ?_
  refine tr_if rfl (fun hif => ?_) (fun hif => ?_)
  · -- yes
    simp only [decide_eq_true_eq] at hif
    refine tr_seq ?_
    refine tr_reg ?_
    refine rs_v (v_fieldAddr fa_spec_SpanKey_0 rfl) rfl ?_
    refine rs_v (v_load one_uint64 rfl (by exact B1.cell _ rfl)) rfl ?_
    refine rs_v (v_fieldAddr fa_spec_SpanKey_0 rfl) rfl ?_
    refine rs_v (v_load one_uint64 rfl (by exact B2.cell _ rfl)) rfl ?_
    refine rs_v (v_gt rfl rfl) rfl ?_
    refine rs_v (v_assign rfl) rfl ?_
    refine rs_nil ?_
    refine q_thn ?_
    refine tr_ret ?_
    refine q_thn_ret ?_
    refine q_ret (res_tmp rfl rfl) ?_
    exact ⟨by simp [keyLess, hif], K⟩
  -- no
  simp only [decide_eq_false_iff_not, Decidable.not_not] at hif
  have hno := hif
  refine tr_skip ?_
  refine q_thn ?_
  refine tr_seq ?_
  refine tr_seq ?_
  refine tr_reg ?_
  refine rs_v (v_fieldAddr fa_spec_SpanKey_1 rfl) rfl ?_
  refine rs_v (v_load one_string rfl (by exact B1.cell _ rfl)) rfl ?_
  refine rs_v (v_fieldAddr fa_spec_SpanKey_1 rfl) rfl ?_
  refine rs_v (v_load one_string rfl (by exact B2.cell _ rfl)) rfl ?_
  refine rs_v (v_sne rfl rfl) rfl ?_
  refine rs_nil ?_
  refine q_thn ?_
  refine tr_if rfl (fun hif => ?_) (fun hif => ?_)
  · -- yes
    skip
    refine tr_seq ?_
    refine tr_reg ?_
    refine rs_v (v_fieldAddr fa_spec_SpanKey_1 rfl) rfl ?_
    refine rs_v (v_load one_string rfl (by exact B1.cell _ rfl)) rfl ?_
    refine rs_v (v_fieldAddr fa_spec_SpanKey_1 rfl) rfl ?_
    refine rs_v (v_load one_string rfl (by exact B2.cell _ rfl)) rfl ?_
    refine rs_v (v_slt rfl rfl) rfl ?_
    refine rs_v (v_assign rfl) rfl ?_
    refine rs_nil ?_
    refine q_thn ?_
    refine tr_ret ?_
    refine q_thn_ret ?_
    refine q_ret (res_tmp rfl rfl) ?_
    have h9 : seq' a.suf b.suf = false := by simpa using hif
    exact ⟨by simp [keyLess, hno, h9], K⟩
  -- no
  skip
  refine tr_skip ?_
  refine q_thn ?_
  refine tr_seq ?_
  refine tr_reg ?_
  refine rs_v (v_fieldAddr fa_spec_SpanKey_2 rfl) rfl ?_
  refine rs_v (v_load one_string rfl (by exact B1.cell _ rfl)) rfl ?_
  refine rs_v (v_fieldAddr fa_spec_SpanKey_2 rfl) rfl ?_
  refine rs_v (v_load one_string rfl (by exact B2.cell _ rfl)) rfl ?_
  refine rs_v (v_slt rfl rfl) rfl ?_
  refine rs_v (v_assign rfl) rfl ?_
  refine rs_nil ?_
  refine q_thn ?_
  refine tr_ret ?_
  refine q_ret (res_tmp rfl rfl) ?_
  have h9 : seq' a.suf b.suf = true := by simpa using hif
  exact ⟨by simp [keyLess, hno, h9], K⟩
theorem eqFields_refl {P : Program} (d : Nat) (w : World) (xs : Array Value) : ∀ (fs : List Field), (∀ f, f ∈ fs → ∃ a, (part f.type xs f.offset).run P w = .ok a w ∧ (Op.equalIn d f.type a a).run P w = .ok true w) → (Op.eqFields d xs xs fs).run P w = .ok true w
  | [], _ => by simp [Op.eqFields]
  | f :: fs, h => by
    obtain ⟨a, h1, h2⟩ := h f (by simp)
    have ih := eqFields_refl d w xs fs (fun g hg => h g (by simp [hg]))
    simp only [Op.eqFields]
    split
    · simp [Sem.run_bind, h1, h2, ih]
    · simp [Sem.run_bind, ih]
theorem eqKey (a : KeyD) (w : World) : (Op.equalIn 10000 102 (.agg #[.int .u64 a.tr, .string a.suf, .string a.val]) (.agg #[.int .u64 a.tr, .string a.suf, .string a.val])).run Try.prog w = .ok true w := by
  have hS : Try.prog.underlying 102 = some (.struct (Try.prog.fieldsOf 102)) := by kernel_rfl
  have hp : Try.prog.stoodInHeld 102 = false := by kernel_rfl
  rw [show (10000 : Nat) = 9999 + 1 from rfl, run_equalIn_struct w 9999 102 _ _ hS hp]
  have hf : (Try.prog.fieldsOf 102).toList = [(Try.prog.fieldsOf 102).toList.getD 0 default, (Try.prog.fieldsOf 102).toList.getD 1 default, (Try.prog.fieldsOf 102).toList.getD 2 default] := by kernel_rfl
  refine eqFields_refl _ _ _ _ fun f hm => ?_
  rw [hf] at hm
  simp only [List.mem_cons, List.not_mem_nil, or_false] at hm
  rcases hm with rfl | rfl | rfl
  · refine ⟨.int .u64 a.tr, by kernel_rfl, ?_⟩
    rw [show ((Try.prog.fieldsOf 102).toList.getD 0 default).type = 23 from by kernel_rfl, show (9999 : Nat) = 9998 + 1 from rfl, run_equalIn_int w _ _ _ _ _ _ u_uint64]; simp
  · refine ⟨.string a.suf, by kernel_rfl, ?_⟩
    rw [show ((Try.prog.fieldsOf 102).toList.getD 1 default).type = 9 from by kernel_rfl, show (9999 : Nat) = 9998 + 1 from rfl, run_equalIn_string w _ _ _ _ u_string]; simp
  · refine ⟨.string a.val, by kernel_rfl, ?_⟩
    rw [show ((Try.prog.fieldsOf 102).toList.getD 2 default).type = 9 from by kernel_rfl, show (9999 : Nat) = 9998 + 1 from rfl, run_equalIn_string w _ _ _ _ u_string]; simp

theorem c_sameSpanKeys (χ : Chi) (h : Heap) (A A2 : Nat → Prop) (v u : Value) (ks : List KeyD) (hk : RKeys A h v ks) (hk2 : RKeys A2 h u ks) :
    Cl Try.prog χ 100 #[v, u] h (fun r h' => r = .bool true ∧ Keep [] h h') := by
  obtain ⟨hlen, a, c, rfl, hx⟩ := hk.form
  obtain ⟨_, a2, c2, rfl, hx2⟩ := hk2.form
  refine cl_intro Try.func100 rfl rfl rfl ?_
  have K : Keep [] h h := Keep.refl _ _
  refine tr_seq ?_
  refine tr_reg ?_
  refine rs_v (v_assign rfl) rfl ?_
  refine rs_nil ?_
  refine q_thn ?_
  refine tr_seq ?_
  refine tr_seq ?_
  refine tr_reg ?_
  refine rs_v (v_move rfl) rfl ?_
  refine rs_v (v_len u_sl_spec_SpanKey rfl) rfl ?_
  refine rs_v (v_move rfl) rfl ?_
  refine rs_v (v_len u_sl_spec_SpanKey rfl) rfl ?_
  refine rs_v (v_ne rfl rfl) rfl ?_
  refine rs_nil ?_
  refine q_thn ?_
  refine tr_if_f (lkb (decide_eq_false (by simp))) ?_
  refine tr_skip ?_
  refine q_thn ?_
  refine tr_seq ?_
  refine tr_seq ?_
  refine tr_reg ?_
  refine rs_v (v_move rfl) rfl ?_
  refine rs_v (v_len u_sl_spec_SpanKey rfl) rfl ?_
  refine rs_v (v_move rfl) rfl ?_
  refine rs_nil ?_
  refine q_thn ?_
  refine tr_block ?_
  refine tr_loop (fun m E h' => ∃ k, k ≤ ks.length ∧ m = ks.length - k ∧ E = [(0, .slice a ks.length c), (1, .slice a2 ks.length c2), (12, .slice a ks.length c), (13, .int .i64 (ks.length : Int)), (14, .int .i64 (k : Int))] ∧ Keep [] h h') ks.length [(0, _), (1, _), (12, _), (13, _), (14, _)] ⟨rfl, rfl, rfl, rfl, rfl, trivial⟩ ⟨0, Nat.zero_le _, rfl, rfl, K⟩ ?_
  rintro m E hL1 ⟨k, hk, rfl, rfl, K⟩
  refine tr_seq ?_
  refine tr_reg ?_
  refine rs_v (v_lt rfl rfl) rfl ?_
  refine rs_nil ?_
  refine q_thn ?_
  refine tr_seq ?_
  refine tr_ifn rfl (fun hif => ?_) (fun hif => ?_)
  · -- no
    simp only [decide_eq_false_iff_not] at hif
    refine tr_exit ?_
    refine q_thn_exit ?_
    refine q_lp_exit ?_
    refine q_blk_hit ?_
    refine q_thn ?_
    refine tr_seq ?_
    refine tr_reg ?_
    refine rs_v (v_assign rfl) rfl ?_
    refine rs_nil ?_
    refine q_thn ?_
    refine tr_ret ?_
    refine q_ret (res_tmp rfl rfl) ?_
    exact ⟨rfl, K⟩
  -- yes
  simp only [decide_eq_true_eq, decide_eq_false_iff_not] at hif
  rcases hx with rfl | ⟨b, o, rfl, hAb, hR⟩
  · simp at hif; omega
  rcases hx2 with rfl | ⟨b2, o2, rfl, hAb2, hR2⟩
  · simp at hif; omega
  obtain ⟨y, hsk⟩ := ex_get (L := ks) (k := k) (by omega)
  have hc1 := K.cells (by simp) (hR k y hsk)
  have hc2 := K.cells (by simp) (hR2 k y hsk)
  refine tr_skip ?_
  refine q_thn ?_
  refine tr_seq ?_
  refine tr_block ?_
  refine tr_seq ?_
  refine tr_reg ?_
  refine rs_v (v_move rfl) rfl ?_
  refine rs_v (v_indexAddrN u_sl_spec_SpanKey siz_spec_SpanKey rfl rfl (by omega)) rfl ?_
  refine rs_v (v_loadAgg (vs := [_, _, _]) many_spec_SpanKey rfl (by exact hc1)) rfl ?_
  refine rs_w (w_new zero_spec_SpanKey) rfl ?_
  rintro _ h2 ⟨rfl, B2, K2, Z2⟩
  have S2 := K.1; have K := K.new0 K2
  refine rs_v (v_assign rfl) rfl ?_
  refine rs_w0 (w_put siz_spec_SpanKey rfl rfl rfl rfl B2 rfl) ?_
  rintro _ h3 ⟨B3, K3⟩
  have B2 := B3; have K := K.new1 K3 (by first | (right; omega) | (left; simp; done)); have Z3 := K3.1
  refine rs_nil ?_
  refine q_thn ?_
  refine tr_seq ?_
  refine tr_quiet (by kernel_rfl) (by kernel_rfl) ?_
  refine rq_v (v_loadAgg (vs := [_, _, _]) many_spec_SpanKey rfl (by exact B2.sub _ 3 rfl)) ?_
  refine rq_v (v_move rfl) ?_
  refine rq_v (v_move rfl) ?_
  refine rq_v (v_indexAddrN u_sl_spec_SpanKey siz_spec_SpanKey rfl rfl (by omega)) ?_
  refine rq_v (v_loadAgg (vs := [_, _, _]) many_spec_SpanKey rfl (by exact K.cells (by simp) (hR2 k y hsk))) ?_
  refine rq_v (v_aggne (by kernel_rfl) rfl rfl (eqKey y)) ?_
  refine rm_end ?_; simp only [endM, hypF, ofE, argE]
  refine q_thn ?_
  refine tr_if_f rfl ?_
  refine tr_skip ?_
  refine q_blk_n ?_
  refine q_thn ?_
  refine tr_reg ?_
  refine rs_v (v_add rfl rfl (by omega) (by omega)) rfl ?_
  refine rs_v (v_move rfl) rfl ?_
  refine rs_nil ?_
  refine q_lp (ks.length - (k + 1)) [(0, _), (1, _), (12, _), (13, _), (14, _)] (by omega) ⟨rfl, rfl, rfl, rfl, rfl, trivial⟩ ⟨k + 1, by omega, rfl, rfl, K⟩
theorem c_sameSpan (χ : Chi) (h : Heap) (A A2 : Nat → Prop) (hA : Low A h) (hA2 : Low A2 h) (s : SpanD) (v u : Value) (hk : RKeys A h v s.ks) (hk2 : RKeys A2 h u s.ks) :
    Cl Try.prog χ 93 #[.agg #[.string s.s, .string s.e, v], .agg #[.string s.s, .string s.e, u]] h (fun r h' => r = .bool true ∧ Keep [] h h') := by
  obtain ⟨ka, kc, rfl⟩ := hk.form2
  obtain ⟨ka2, kc2, rfl⟩ := hk2.form2
  have q1 : seq' s.s s.s = true := seq'_eq.2 rfl
  have q2 : seq' s.e s.e = true := seq'_eq.2 rfl
  refine cl_intro Try.func93 rfl rfl rfl ?_
  have K : Keep [] h h := Keep.refl _ _
  refine tr_seq ?_
  refine tr_reg ?_
  refine rs_w (w_newbox rfl) rfl ?_
  rintro _ h1 ⟨rfl, B1, K1, Z1⟩
  have S1 := K.1; have K := K.new0 K1
  refine rs_w (w_newbox rfl) rfl ?_
  rintro _ h2 ⟨rfl, B2, K2, Z2⟩
  have B1 := K2.blk (by simp) B1
  have S2 := K.1; have K := K.new0 K2
  refine rs_v (v_assign rfl) rfl ?_
  refine rs_nil ?_
  refine q_thn ?_
  refine tr_seq ?_
  refine tr_reg ?_
  refine rs_v (v_fieldAddr fa_spec_Span_0 rfl) rfl ?_
  refine rs_v (v_load one_string rfl (by exact B1.cell _ rfl)) rfl ?_
  refine rs_v (v_fieldAddr fa_spec_Span_0 rfl) rfl ?_
  refine rs_v (v_load one_string rfl (by exact B2.cell _ rfl)) rfl ?_
  refine rs_v (v_seq rfl rfl) rfl ?_
  refine rs_v (v_move rfl) rfl ?_
  refine rs_gv rfl (lkb q1) (v_fieldAddr fa_spec_Span_1 rfl) rfl ?_
  refine rs_gv rfl (lkb q1) (v_load one_string rfl (by exact B1.cell _ rfl)) rfl ?_
  refine rs_gv rfl (lkb q1) (v_fieldAddr fa_spec_Span_1 rfl) rfl ?_
  refine rs_gv rfl (lkb q1) (v_load one_string rfl (by exact B2.cell _ rfl)) rfl ?_
  refine rs_gv rfl (lkb q1) (v_seq rfl rfl) rfl ?_
  refine rs_v (v_pick_t (lkb q1) rfl) rfl ?_
  refine rs_v (v_move rfl) rfl ?_
  refine rs_gv rfl (lkb q2) (v_fieldAddr fa_spec_Span_2 rfl) rfl ?_
  refine rs_gv rfl (lkb q2) (v_load one_sl_spec_SpanKey rfl (by exact B1.cell _ rfl)) rfl ?_
  refine rs_gv rfl (lkb q2) (v_fieldAddr fa_spec_Span_2 rfl) rfl ?_
  refine rs_gv rfl (lkb q2) (v_load one_sl_spec_SpanKey rfl (by exact B2.cell _ rfl)) rfl ?_
  refine rs_gw rfl (lkb q2) (w_call (vs := [_, _]) ok_laws_sameSpanKeys rfl ⟨rfl, rfl, trivial⟩ (c_sameSpanKeys χ _ A A2 _ _ s.ks (hk.stab (K.st hA)) (hk2.stab (K.st hA2)))) rfl ?_
  rintro _ h3 ⟨rfl, K3⟩
  have B1 := K3.blk (by simp) B1
  have B2 := K3.blk (by simp) B2
  have K := K.new0 K3; have Z3 := K3.1
  refine rs_v (v_pick_t (lkb q2) rfl) rfl ?_
  refine rs_v (v_assign rfl) rfl ?_
  refine rs_nil ?_
  refine q_thn ?_
  refine tr_ret ?_
  refine q_ret (res_tmp rfl rfl) ?_
  exact ⟨rfl, K⟩
theorem c_sameSpans (χ : Chi) (h : Heap) (A A2 : Nat → Prop) (hA : Low A h) (hA2 : Low A2 h) (v u : Value) (W : List SpanD) (hk : RSpans A h v W) (hk2 : RSpans A2 h u W) :
    Cl Try.prog χ 73 #[v, u] h (fun r h' => r = .bool true ∧ Keep [] h h') := by
  obtain ⟨hlen, a, c, rfl, hx⟩ := hk.form
  obtain ⟨_, a2, c2, rfl, hx2⟩ := hk2.form
  refine cl_intro Try.func73 rfl rfl rfl ?_
  have K : Keep [] h h := Keep.refl _ _
  refine tr_seq ?_
  refine tr_reg ?_
  refine rs_v (v_assign rfl) rfl ?_
  refine rs_nil ?_
  refine q_thn ?_
  refine tr_seq ?_
  refine tr_seq ?_
  refine tr_reg ?_
  refine rs_v (v_move rfl) rfl ?_
  refine rs_v (v_len u_sl_spec_Span rfl) rfl ?_
  refine rs_v (v_move rfl) rfl ?_
  refine rs_v (v_len u_sl_spec_Span rfl) rfl ?_
  refine rs_v (v_ne rfl rfl) rfl ?_
  refine rs_nil ?_
  refine q_thn ?_
  refine tr_if_f (lkb (decide_eq_false (by simp))) ?_
  refine tr_skip ?_
  refine q_thn ?_
  refine tr_seq ?_
  refine tr_seq ?_
  refine tr_reg ?_
  refine rs_v (v_move rfl) rfl ?_
  refine rs_v (v_len u_sl_spec_Span rfl) rfl ?_
  refine rs_v (v_move rfl) rfl ?_
  refine rs_nil ?_
  refine q_thn ?_
  refine tr_block ?_
  refine tr_loop (fun m E h' => ∃ k, k ≤ W.length ∧ m = W.length - k ∧ E = [(0, .slice a W.length c), (1, .slice a2 W.length c2), (12, .slice a W.length c), (13, .int .i64 (W.length : Int)), (14, .int .i64 (k : Int))] ∧ Keep [] h h') W.length [(0, _), (1, _), (12, _), (13, _), (14, _)] ⟨rfl, rfl, rfl, rfl, rfl, trivial⟩ ⟨0, Nat.zero_le _, rfl, rfl, K⟩ ?_
  rintro m E hL1 ⟨k, hk, rfl, rfl, K⟩
  refine tr_seq ?_
  refine tr_reg ?_
  refine rs_v (v_lt rfl rfl) rfl ?_
  refine rs_nil ?_
  refine q_thn ?_
  refine tr_seq ?_
  refine tr_ifn rfl (fun hif => ?_) (fun hif => ?_)
  · -- no
    simp only [decide_eq_false_iff_not] at hif
    refine tr_exit ?_
    refine q_thn_exit ?_
    refine q_lp_exit ?_
    refine q_blk_hit ?_
    refine q_thn ?_
    refine tr_seq ?_
    refine tr_reg ?_
    refine rs_v (v_assign rfl) rfl ?_
    refine rs_nil ?_
    refine q_thn ?_
    refine tr_ret ?_
    refine q_ret (res_tmp rfl rfl) ?_
    exact ⟨rfl, K⟩
  -- yes
  simp only [decide_eq_true_eq, decide_eq_false_iff_not] at hif
  rcases hx with rfl | ⟨b, o, rfl, hAb, hR⟩
  · simp at hif; omega
  rcases hx2 with rfl | ⟨b2, o2, rfl, hAb2, hR2⟩
  · simp at hif; omega
  obtain ⟨y, hsk⟩ := ex_get (L := W) (k := k) (by omega)
  obtain ⟨kv, hc1, hk9⟩ := hR k y hsk
  obtain ⟨kv2, hc2, hk8⟩ := hR2 k y hsk
  obtain ⟨ka, kc, rfl⟩ := hk9.form2
  obtain ⟨ka2, kc2, rfl⟩ := hk8.form2
  have hc1 := K.cells (by simp) hc1
  refine tr_skip ?_
  refine q_thn ?_
  refine tr_seq ?_
  refine tr_block ?_
  refine tr_seq ?_
  refine tr_reg ?_
  refine rs_v (v_move rfl) rfl ?_
  refine rs_v (v_indexAddrN u_sl_spec_Span siz_spec_Span rfl rfl (by omega)) rfl ?_
  refine rs_v (v_loadAgg (vs := [_, _, _]) many_spec_Span rfl (by exact hc1)) rfl ?_
  refine rs_w (w_new zero_spec_Span) rfl ?_
  rintro _ h2 ⟨rfl, B2, K2, Z2⟩
  have S2 := K.1; have K := K.new0 K2
  refine rs_v (v_assign rfl) rfl ?_
  refine rs_w0 (w_put siz_spec_Span rfl rfl rfl rfl B2 rfl) ?_
  rintro _ h3 ⟨B3, K3⟩
  have B2 := B3; have K := K.new1 K3 (by first | (right; omega) | (left; simp; done)); have Z3 := K3.1
  refine rs_nil ?_
  refine q_thn ?_
  refine tr_seq ?_
  refine tr_any (Keep []) (keep_pre _) (by kernel_rfl) (by kernel_rfl) ?_
  refine rm_v (keep_pre _) (fun h' hk => v_loadAgg (vs := [_, _, _]) many_spec_Span rfl (by exact (hk.blk (by simp) B2).sub _ 3 rfl)) ?_
  refine rm_v (keep_pre _) (fun h' hk => v_move rfl) ?_
  refine rm_v (keep_pre _) (fun h' hk => v_move rfl) ?_
  refine rm_v (keep_pre _) (fun h' hk => v_indexAddrN u_sl_spec_Span siz_spec_Span rfl rfl (by omega)) ?_
  refine rm_v (keep_pre _) (fun h' hk => v_loadAgg (vs := [_, _, _]) many_spec_Span rfl (by exact (K.new0 hk).cells (by simp) hc2)) ?_
  refine rm_c (fun h' hk => w_call (vs := [_, _]) ok_laws_sameSpan rfl ⟨rfl, rfl, trivial⟩ (c_sameSpan χ h' A A2 (hA.mono (K.new0 hk).1) (hA2.mono (K.new0 hk).1) y _ _ (hk9.stab ((K.new0 hk).st hA)) (hk8.stab ((K.new0 hk).st hA2)))) ?_
  refine rm_v (keep_pre _) (fun h' hk => v_not rfl) ?_
  refine rm_end ?_; intro h4 K4; simp only [endM, hypF, ofE, argE, List.nil_append]
  have B2 := K4.blk (by simp) B2
  have K := K.new0 K4; have Z4 := K4.1
  refine q_thn ?_
  refine tr_if_f rfl ?_
  refine tr_skip ?_
  refine q_blk_n ?_
  refine q_thn ?_
  refine tr_reg ?_
  refine rs_v (v_add rfl rfl (by omega) (by omega)) rfl ?_
  refine rs_v (v_move rfl) rfl ?_
  refine rs_nil ?_
  refine q_lp (W.length - (k + 1)) [(0, _), (1, _), (12, _), (13, _), (14, _)] (by omega) ⟨rfl, rfl, rfl, rfl, rfl, trivial⟩ ⟨k + 1, by omega, rfl, rfl, K⟩
end Go.Proofs.Ytgebfbnndgjkiaa
namespace Go.Proofs.Ytgebfbnndgjkiaa
open Go.Tess Go.RowKit
set_option maxRecDepth 100000
set_option maxHeartbeats 1000000
theorem c_spanFound (χ : Chi) (h : Heap) (A : Nat → Prop) (v : Value) (x : AnsD) (hk : RAnss A h v [x]) :
    Cl Try.prog χ 21 #[v] h (fun r h' => r = .bool x.ok ∧ Keep [] h h') := by
  obtain ⟨hlen, a, c, rfl, hx⟩ := hk.form
  rcases hx with e | ⟨b, o, rfl, hAb, hR⟩
  · cases e
  obtain ⟨kv, hc, _⟩ := hR 0 x rfl
  have g1 : decide ((([x] : List AnsD).length : Int) = 1) = true := rfl
  refine cl_intro Try.func21 rfl rfl rfl ?_
  have K : Keep [] h h := Keep.refl _ _
  refine tr_seq ?_
  refine tr_reg ?_
  refine rs_v (v_assign rfl) rfl ?_
  refine rs_nil ?_
  refine q_thn ?_
  refine tr_seq ?_
  refine tr_reg ?_
  refine rs_v (v_move rfl) rfl ?_
  refine rs_v (v_len u_sl_impl_SpanAnswer rfl) rfl ?_
  refine rs_v (v_eq rfl rfl) rfl ?_
  refine rs_v (v_move rfl) rfl ?_
  refine rs_gv rfl (lkb g1) (v_move rfl) rfl ?_
  refine rs_gv rfl (lkb g1) (v_indexAddrE (i := 0) u_sl_impl_SpanAnswer siz_impl_SpanAnswer rfl rfl rfl (by simp)) rfl ?_
  refine rs_gv rfl (lkb g1) (v_fieldAddr fa_impl_SpanAnswer_1 rfl) rfl ?_
  refine rs_gv rfl (lkb g1) (v_load one_bool rfl (by exact hc.at 1 rfl)) rfl ?_
  refine rs_v (v_pick_t (lkb g1) rfl) rfl ?_
  refine rs_v (v_assign rfl) rfl ?_
  refine rs_nil ?_
  refine q_thn ?_
  refine tr_ret ?_
  refine q_ret (res_tmp rfl rfl) ?_
  exact ⟨rfl, K⟩
end Go.Proofs.Ytgebfbnndgjkiaa
namespace Go.Proofs.Ytgebfbnndgjkiaa
open Go.Tess Go.RowKit
set_option maxRecDepth 100000
set_option maxHeartbeats 1000000
/-- Whether the key at a place stands ahead of its neighbour on the left. -/
def lessAt (l : List KeyD) : Nat → Bool
  | 0 => false
  | j + 1 => match l[j + 1]?, l[j]? with
    | some a, some b => keyLess a b
    | _, _ => false
def swapAt (l : List KeyD) (j : Nat) : List KeyD :=
  match l[j + 1]?, l[j]? with
    | some a, some b => (l.set (j + 1) b).set j a
    | _, _ => l
/-- A key wanders to the left up to its place. -/
def insW (l : List KeyD) : Nat → List KeyD
  | 0 => l
  | j + 1 => if lessAt l (j + 1) then insW (swapAt l j) j else l
def canonF (ks : List KeyD) : List KeyD := ks.foldl (fun acc k => insW (acc ++ [k]) acc.length) []
theorem swapAt_len (l : List KeyD) (j : Nat) : (swapAt l j).length = l.length := by unfold swapAt; split <;> simp
theorem insW_len (l : List KeyD) (j : Nat) : (insW l j).length = l.length := by
  induction j generalizing l with
  | zero => rfl
  | succ j ih => simp only [insW]; split
                 · rw [ih, swapAt_len]
                 · rfl
theorem canonF_snoc (l : List KeyD) (x : KeyD) : canonF (l ++ [x]) = insW (canonF l ++ [x]) (canonF l).length := by simp only [canonF, List.foldl_append, List.foldl_cons, List.foldl_nil]
theorem canonF_len (l : List KeyD) : (canonF l).length = l.length := by
  have : ∀ (l acc : List KeyD), (l.foldl (fun acc k => insW (acc ++ [k]) acc.length) acc).length = acc.length + l.length := by
    intro l
    induction l with
    | nil => intro acc; simp
    | cons x l ih => intro acc; simp only [List.foldl_cons, ih, insW_len, List.length_append, List.length_cons, List.length_nil]; omega
  have := this l []
  simp only [List.length_nil, Nat.zero_add] at this
  exact this
theorem insW_stop {l : List KeyD} {j : Nat} (h : lessAt l j = false) : insW l j = l := by
  cases j with
  | zero => rfl
  | succ j => simp [insW, h]
theorem insW_go {l : List KeyD} {j : Nat} (h : lessAt l (j + 1) = true) : insW l (j + 1) = insW (swapAt l j) j := by simp [insW, h]

theorem c_SpanCanon (χ : Chi) (h : Heap) (A : Nat → Prop) (hA : Low A h) (v : Value) (ks : List KeyD) (hks : RKeys A h v ks) (hl : ks.length ≤ 100000) :
    Cl Try.prog χ 64 #[v] h (fun r h' => RKeys (Up N0 h h') h' r (canonF ks) ∧ Keep [] h h') := by
  obtain ⟨hlen, a, c, rfl, hx⟩ := hks.form
  refine cl_intro Try.func64 rfl rfl rfl ?_
  have K : Keep [] h h := Keep.refl _ _
  refine tr_seq ?_
  refine tr_reg ?_
  refine rs_v (v_assign rfl) rfl ?_
  refine rs_nil ?_
  refine q_thn ?_
  refine tr_seq ?_
  refine tr_reg ?_
  refine rs_v (v_assign rfl) rfl ?_
  refine rs_nil ?_
  refine q_thn ?_
  refine tr_seq ?_
  refine tr_seq ?_
  refine tr_reg ?_
  refine rs_v (v_move rfl) rfl ?_
  refine rs_v (v_len u_sl_spec_SpanKey rfl) rfl ?_
  refine rs_v (v_move rfl) rfl ?_
  refine rs_nil ?_
  refine q_thn ?_
  refine tr_block ?_
  refine tr_loop (fun m E h' => ∃ k v n, k ≤ ks.length ∧ m = ks.length - k ∧ E = [(3, v), (7, .slice a ks.length c), (8, .int .i64 (ks.length : Int)), (9, .int .i64 (k : Int))] ∧ Keep [] h h' ∧ n = (canonF (ks.take k)).length ∧ OutR N0 h h' h.size 102 3 cKey v n (canonF (ks.take k))) ks.length [(3, _), (7, _), (8, _), (9, _)] ⟨rfl, rfl, rfl, rfl, trivial⟩ ⟨0, _, 0, Nat.zero_le _, rfl, rfl, K, rfl, OutR.nil _ _ _ _ _ _ _⟩ ?_
  rintro m E hL1 ⟨k, v, n, hk, rfl, rfl, K, hn, hout⟩
  have hout0 := hout
  obtain ⟨xs, F, O, hrow, hF⟩ := hout
  have hob := own_ne O; have KL := Keep.refl [] hL1
  refine tr_seq ?_
  refine tr_reg ?_
  refine rs_v (v_lt rfl rfl) rfl ?_
  refine rs_nil ?_
  refine q_thn ?_
  refine tr_seq ?_
  refine tr_ifn rfl (fun hif => ?_) (fun hif => ?_)
  · -- no
    simp only [decide_eq_true_eq, decide_eq_false_iff_not] at hif
    have hkk : k = ks.length := by omega
    subst hkk
    refine tr_exit ?_
    refine q_thn_exit ?_
    refine q_lp_exit ?_
    refine q_blk_hit ?_
    refine q_thn ?_
    refine tr_seq ?_
    refine tr_reg ?_
    refine rs_v (v_move rfl) rfl ?_
    refine rs_v (v_assign rfl) rfl ?_
    refine rs_nil ?_
    refine q_thn ?_
    refine tr_ret ?_
    refine q_ret (res_tmp rfl rfl) ?_
    rw [List.take_length] at hout0 hn
    exact ⟨hout0.fin cKey_st hn (Nat.le_refl _) cKey_r, K⟩
  -- yes
  simp only [decide_eq_true_eq, decide_eq_false_iff_not] at hif
  rcases hx with rfl | ⟨b, o, rfl, hAb, hR⟩
  · simp at hif; omega
  obtain ⟨x, hsk⟩ := ex_get (L := ks) (k := k) (by omega)
  have hkl : k < ks.length := (List.getElem?_eq_some_iff.1 hsk).1
  have KL0 := K.1
  have hcells := K.cells (by simp) (hR k x hsk)
  have hnk : n = k := by rw [hn, canonF_len, List.length_take]; omega
  refine tr_skip ?_
  refine q_thn ?_
  refine tr_seq ?_
  refine tr_block ?_
  refine tr_seq ?_
  refine tr_reg ?_
  refine rs_v (v_indexAddrN u_sl_spec_SpanKey siz_spec_SpanKey rfl rfl (by omega)) rfl ?_
  refine rs_v (v_loadAgg (vs := [_, _, _]) many_spec_SpanKey rfl (by exact hcells)) rfl ?_
  refine rs_w (w_new zero_spec_SpanKey) rfl ?_
  rintro _ h2 ⟨rfl, B2, K2, Z2⟩
  have O := O.keep2 K2 (fun x hm => by have := hob x hm; simp; try omega)
  have S2 := K.1; have K := K.new0 K2; have KL := KL.new0 K2
  refine rs_w0 (w_put siz_spec_SpanKey rfl rfl rfl rfl B2 rfl) ?_
  rintro _ h3 ⟨B3, K3⟩
  have O := O.keep2 K3 (fun x hm => by have := hob x hm; simp; try omega)
  have B2 := B3; have K := K.new1 K3 (by first | (right; omega) | (left; simp; done)); have Z3 := K3.1; have KL := KL.new1 K3 (.inr (by omega))
  refine rs_nil ?_
  refine q_thn ?_
  refine tr_seq ?_
  refine tr_reg ?_
  refine rs_v (v_move rfl) rfl ?_
  refine rs_v (v_loadAgg (vs := [_, _, _]) many_spec_SpanKey rfl (by exact B2.sub _ 3 rfl)) rfl ?_
  refine rs_w (w_new1 u_sl_spec_SpanKey siz_spec_SpanKey zero_spec_SpanKey rfl rfl rfl rfl rfl) rfl ?_
  rintro _ h4 ⟨rfl, B4, K4, Z4⟩
  have B2 := K4.blk (by simp) B2
  have O := O.keep2 K4 (fun x hm => by have := hob x hm; simp; try omega)
  have S4 := K.1; have K := K.new0 K4; have KL := KL.new0 K4
  refine rs_w (w_app1 u_sl_spec_SpanKey info_spec_SpanKey rfl rfl rfl O rfl rfl B4 rfl (by omega) (by omega) (by omega)) rfl ?_
  rintro v5 h5 ⟨O5, K5, N5, F5⟩
  have K := K.newX K5 (fun x hm => .inr (by have := hob x hm; omega)); have Z5 := K5.1
  obtain ⟨g, c9, rfl, hgb, hgl, hcg4⟩ := own_some O5
  have B2 := K5.blk (fun hm => by have := hob _ hm; omega) B2
  have B4 := K5.blk (fun hm => by have := hob _ hm; omega) B4
  refine rs_v (v_assign rfl) rfl ?_
  refine rs_nil ?_
  refine q_thn ?_
  refine tr_seq ?_
  refine tr_reg ?_
  refine rs_v (v_move rfl) rfl ?_
  refine rs_v (v_len u_sl_spec_SpanKey rfl) rfl ?_
  refine rs_v (v_sub rfl rfl (by omega) (by omega)) rfl ?_
  refine rs_v (v_assign rfl) rfl ?_
  refine rs_nil ?_
  refine q_thn ?_
  refine tr_block ?_
  refine tr_loop (fun m E h' => ∃ j i l cs, i = ((j : Nat) : Int) ∧ j = m ∧ E = [(3, .slice (some ⟨g, 0, none⟩) (n + 1) c9), (7, .slice (some ⟨b, o, none⟩) ks.length c), (8, .int .i64 (ks.length : Int)), (9, .int .i64 (k : Int)), (6, .int .i64 i)] ∧ Keep [] h h' ∧ h4.size ≤ h'.size ∧ l.length = n + 1 ∧ j ≤ n ∧ insW l j = insW (canonF (ks.take k) ++ [x]) n ∧ Own h' h.size 102 3 (.slice (some ⟨g, 0, none⟩) (n + 1) c9) (n + 1) cs ∧ RowsR 3 (cKey N0 h) cs l) n [(3, _), (7, _), (8, _), (9, _), (6, _)] ⟨rfl, rfl, rfl, rfl, rfl, trivial⟩ ⟨n, (((n + 1 : Nat) : Int) - 1), _, _, by omega, rfl, rfl, K, by omega, by rw [List.length_append, ← hn]; rfl, Nat.le_refl _, rfl, O5, hrow.snoc rfl rfl⟩ ?_
  rintro m E hL6 ⟨j, i, l, cs, hij, rfl, rfl, K, hz3, hll, hjn, hins, O, hrowI⟩
  obtain ⟨g8, c8, e8, hg1, hg2, hcg⟩ := own_some O
  cases e8
  have hob := own_ne O; have KL := Keep.refl [] hL6
  refine tr_seq ?_
  refine tr_cut (fun E h' => Keep [] hL6 h' ∧ E = [(3, .slice (some ⟨g, 0, none⟩) (n + 1) c9), (7, .slice (some ⟨b, o, none⟩) ks.length c), (8, .int .i64 (ks.length : Int)), (9, .int .i64 (k : Int)), (6, .int .i64 i), (33, .bool (lessAt l j))]) ?_ ?_
  ·
    rcases Nat.eq_zero_or_pos j with g0 | g0
    · subst g0
      have g1 : decide ((0 : Int) < i) = false := decide_eq_false (by omega)
      refine tr_any (Keep []) (keep_pre _) (by kernel_rfl) (by kernel_rfl) ?_
      refine rm_v (keep_pre _) (fun h' hk => v_move rfl) ?_
      refine rm_v (keep_pre _) (fun h' hk => v_gt rfl rfl) ?_
      refine rm_v (keep_pre _) (fun h' hk => v_move rfl) ?_
      refine rm_gs (keep_pre _) rfl (lkm g1) rfl ?_
      refine rm_gs (keep_pre _) rfl (lkm g1) rfl ?_
      refine rm_gs (keep_pre _) rfl (lkm g1) rfl ?_
      refine rm_gs (keep_pre _) rfl (lkm g1) rfl ?_
      refine rm_gs (keep_pre _) rfl (lkm g1) rfl ?_
      refine rm_gs (keep_pre _) rfl (lkm g1) rfl ?_
      refine rm_gs (keep_pre _) rfl (lkm g1) rfl ?_
      refine rm_gs (keep_pre _) rfl (lkm g1) rfl ?_
      refine rm_gs (keep_pre _) rfl (lkm g1) rfl ?_
      refine rm_gs (keep_pre _) rfl (lkm g1) rfl ?_
      refine rm_v (keep_pre _) (fun h' hk => v_pick_f (lkb g1) rfl) ?_
      refine rm_end ?_; intro h7 K7; simp only [endM, hypF, ofE, argE, List.nil_append]
      have O := O.keep2 K7 (fun x hm => by have := hob x hm; simp; try omega)
      have K := K.new0 K7; have Z7 := K7.1
      refine q_cut [(3, _), (7, _), (8, _), (9, _), (6, _), (33, _)] ⟨rfl, rfl, rfl, rfl, rfl, rfl, trivial⟩ ⟨K7, ?_⟩
      rfl
    · obtain ⟨j, rfl⟩ : ∃ j', j = j' + 1 := ⟨j - 1, by omega⟩
      have g1 : decide ((0 : Int) < i) = true := decide_eq_true (by omega)
      obtain ⟨y, hy⟩ := ex_get (L := l) (k := j + 1) (by omega)
      obtain ⟨z, hz⟩ := ex_get (L := l) (k := j) (by omega)
      obtain ⟨cy, _, hcy, ey⟩ := hrowI.at hcg hy
      obtain ⟨cz, _, hcz, ez⟩ := hrowI.at hcg hz
      cases ey; cases ez
      have hle : lessAt l (j + 1) = keyLess y z := by simp [lessAt, hy, hz]
      refine tr_any (Keep []) (keep_pre _) (by kernel_rfl) (by kernel_rfl) ?_
      refine rm_v (keep_pre _) (fun h' hk => v_move rfl) ?_
      refine rm_v (keep_pre _) (fun h' hk => v_gt rfl rfl) ?_
      refine rm_v (keep_pre _) (fun h' hk => v_move rfl) ?_
      refine rm_gv (keep_pre _) rfl (lkm g1) (fun h' hk => v_move rfl) ?_
      refine rm_gv (keep_pre _) rfl (lkm g1) (fun h' hk => v_move rfl) ?_
      refine rm_gv (keep_pre _) rfl (lkm g1) (fun h' hk => v_indexAddrE (i := j + 1) u_sl_spec_SpanKey siz_spec_SpanKey rfl rfl hij (by omega)) ?_
      refine rm_gv (keep_pre _) rfl (lkm g1) (fun h' hk => v_loadAgg (vs := [_, _, _]) many_spec_SpanKey rfl (by exact hk.cells (by simp) hcy)) ?_
      refine rm_gv (keep_pre _) rfl (lkm g1) (fun h' hk => v_move rfl) ?_
      refine rm_gv (keep_pre _) rfl (lkm g1) (fun h' hk => v_move rfl) ?_
      refine rm_gv (keep_pre _) rfl (lkm g1) (fun h' hk => v_sub rfl rfl (by omega) (by omega)) ?_
      refine rm_gv (keep_pre _) rfl (lkm g1) (fun h' hk => v_indexAddrE (i := j) u_sl_spec_SpanKey siz_spec_SpanKey rfl rfl (by omega) (by omega)) ?_
      refine rm_gv (keep_pre _) rfl (lkm g1) (fun h' hk => v_loadAgg (vs := [_, _, _]) many_spec_SpanKey rfl (by exact hk.cells (by simp) hcz)) ?_
      refine rm_gc rfl (lkm g1) (fun h' hk => w_call (vs := [_, _]) ok_spec_spanKeyLess rfl ⟨rfl, rfl, trivial⟩ (c_spanKeyLess χ h' y z)) ?_
      refine rm_v (keep_pre _) (fun h' hk => v_pick_t (lkb g1) rfl) ?_
      refine rm_end ?_; intro h8 K8; simp only [endM, hypF, ofE, argE, List.nil_append]
      have O := O.keep2 K8 (fun x hm => by have := hob x hm; simp; try omega)
      have K := K.new0 K8; have Z8 := K8.1
      refine q_cut [(3, _), (7, _), (8, _), (9, _), (6, _), (33, _)] ⟨rfl, rfl, rfl, rfl, rfl, rfl, trivial⟩ ⟨K8, ?_⟩
      rw [hle]
  rintro E h9 ⟨K9, rfl⟩
  have K := K.new0 K9; have Z9 := K9.1
  have O := O.keep2 K9 (by simp)
  have hcg := K9.cells (by simp) hcg
  refine tr_ifn rfl (fun hif => ?_) (fun hif => ?_)
  · -- no
    skip
    refine tr_exit ?_
    refine q_thn_exit ?_
    refine q_lp_exit ?_
    refine q_blk_hit ?_
    refine q_blk_n ?_
    refine q_thn ?_
    refine tr_reg ?_
    refine rs_v (v_add rfl rfl (by omega) (by omega)) rfl ?_
    refine rs_v (v_move rfl) rfl ?_
    refine rs_nil ?_
    have hst : insW l j = l := insW_stop hif
    rw [hst] at hins
    refine q_lp (ks.length - (k + 1)) [(3, _), (7, _), (8, _), (9, _)] (by omega) ⟨rfl, rfl, rfl, rfl, trivial⟩ ⟨k + 1, _, n + 1, by omega, rfl, rfl, K, ?_, ?_⟩
    · rw [canonF_len, List.length_take]; omega
    · rw [take_snoc' hsk, canonF_snoc, ← hn, ← hins]
      exact ⟨cs, N0, O, hrowI, fun _ hb => hb.elim⟩
  -- yes
  skip
  refine tr_skip ?_
  refine q_thn ?_
  refine tr_seq ?_
  refine tr_block ?_
  obtain ⟨j, rfl⟩ : ∃ j', j = j' + 1 := by
    cases j with
    | zero => simp [lessAt] at hif
    | succ j => exact ⟨j, rfl⟩
  obtain ⟨y, hy⟩ := ex_get (L := l) (k := j + 1) (by omega)
  obtain ⟨z, hz⟩ := ex_get (L := l) (k := j) (by omega)
  obtain ⟨cy, _, hcy, ey⟩ := hrowI.at hcg hy
  obtain ⟨cz, _, hcz, ez⟩ := hrowI.at hcg hz
  cases ey; cases ez
  refine tr_draw [(true, 16), (false, 2)] _ (by kernel_rfl) (by kernel_rfl) (by kernel_rfl) ?_
  refine rx_one 15 ?_
  refine re_v rfl (by kernel_rfl) (v_move rfl) ?_
  refine re_v rfl (by kernel_rfl) (v_move rfl) ?_
  refine re_a rfl (fun h' => v_move rfl) ?_
  refine re_a rfl (fun h' => v_move rfl) ?_
  refine re_a rfl (fun h' => v_sub rfl rfl (by omega) (by omega)) ?_
  refine re_v rfl (by kernel_rfl) (v_move rfl) ?_
  refine re_v rfl (by kernel_rfl) (v_move rfl) ?_
  refine re_v rfl (by kernel_rfl) (v_sub rfl rfl (by omega) (by omega)) ?_
  refine re_v rfl (by kernel_rfl) (v_indexAddrE (i := j) u_sl_spec_SpanKey siz_spec_SpanKey rfl rfl (by omega) (by omega)) ?_
  refine re_v rfl (by kernel_rfl) (v_loadAgg (vs := [_, _, _]) many_spec_SpanKey rfl (by exact hcz)) ?_
  refine re_v rfl (by kernel_rfl) (v_move rfl) ?_
  refine re_v rfl (by kernel_rfl) (v_move rfl) ?_
  refine re_v rfl (by kernel_rfl) (v_indexAddrE (i := j + 1) u_sl_spec_SpanKey siz_spec_SpanKey rfl rfl (by omega) (by omega)) ?_
  refine re_v rfl (by kernel_rfl) (v_loadAgg (vs := [_, _, _]) many_spec_SpanKey rfl (by exact hcy)) ?_
  refine re_v rfl (by kernel_rfl) (v_indexAddrE (i := j + 1) u_sl_spec_SpanKey siz_spec_SpanKey rfl rfl (by omega) (by omega)) ?_
  refine re_w0 _ rfl (w_putOwn siz_spec_SpanKey rfl rfl rfl rfl O (Nat.zero_add _) (by omega)) ?_
  refine re_end ?_; intro hA2 _; simp only [endM, hypF, ofE, argE, List.nil_append]; rintro ⟨OA, KA⟩
  refine rx_seq ?_
  refine rs_v (v_indexAddrE (i := j) u_sl_spec_SpanKey siz_spec_SpanKey rfl rfl (by omega) (by omega)) rfl ?_
  refine rs_w0 (w_putOwn siz_spec_SpanKey rfl rfl rfl rfl OA (Nat.zero_add _) (by omega)) ?_
  rintro _ h10 ⟨OB, KB⟩
  have K := (K.new1 KA (.inr hg1)).new1 KB (.inr hg1); have ZB := KA.1; have ZC := KB.1
  refine rs_nil ?_
  refine q_con ?_
  refine rx_nil ?_
  refine q_blk_n ?_
  refine q_thn ?_
  refine tr_reg ?_
  refine rs_v (v_move rfl) rfl ?_
  refine rs_v (v_sub rfl rfl (by omega) (by omega)) rfl ?_
  refine rs_v (v_assign rfl) rfl ?_
  refine rs_nil ?_
  refine q_lp j [(3, _), (7, _), (8, _), (9, _), (6, _)] (by omega) ⟨rfl, rfl, rfl, rfl, rfl, trivial⟩ ⟨j, _, swapAt l j, _, by omega, rfl, rfl, K, by omega, by rw [swapAt_len]; exact hll, by omega, by rw [← hins, insW_go hif], OB, ?_⟩
  have e : swapAt l j = (l.set (j + 1) z).set j y := by simp [swapAt, hy, hz]
  rw [e]
  exact (hrowI.set rfl rfl (by omega)).set rfl rfl (by simp; omega)
end Go.Proofs.Ytgebfbnndgjkiaa
namespace Go.Proofs.Ytgebfbnndgjkiaa
open Go.Tess Go.RowKit
set_option maxRecDepth 100000
set_option maxHeartbeats 1000000
def canonS (s : SpanD) : SpanD := ⟨s.s, s.e, canonF s.ks⟩
/-- The same spans, but for the order of keys with equal trailers. -/
def Like (W W2 : List SpanD) : Prop := W.map canonS = W2.map canonS ∧ ∀ s, s ∈ W → descB s.ks = true
theorem Like.refl {W : List SpanD} (h : ∀ s, s ∈ W → descB s.ks = true) : Like W W := ⟨rfl, h⟩
def few (s : SpanD) : Prop := s.ks.length ≤ 100000
theorem c_spanCanons (χ : Chi) (h : Heap) (A : Nat → Prop) (hA : Low A h) (v : Value) (W : List SpanD) (hW : RSpans A h v W) (hn : W.length ≤ 100000) (hm : ∀ s, s ∈ W → few s) :
    Cl Try.prog χ 31 #[v] h (fun r h' => RSpans (Up N0 h h') h' r (W.map canonS) ∧ Keep [] h h') := by
  obtain ⟨hlen, a, c, rfl, hx⟩ := hW.form
  refine cl_intro Try.func31 rfl rfl rfl ?_
  have K : Keep [] h h := Keep.refl _ _
  refine tr_seq ?_
  refine tr_reg ?_
  refine rs_v (v_assign rfl) rfl ?_
  refine rs_nil ?_
  refine q_thn ?_
  refine tr_seq ?_
  refine tr_reg ?_
  refine rs_v (v_assign rfl) rfl ?_
  refine rs_nil ?_
  refine q_thn ?_
  refine tr_seq ?_
  refine tr_seq ?_
  refine tr_reg ?_
  refine rs_v (v_move rfl) rfl ?_
  refine rs_v (v_len u_sl_spec_Span rfl) rfl ?_
  refine rs_v (v_move rfl) rfl ?_
  refine rs_nil ?_
  refine q_thn ?_
  refine tr_block ?_
  refine tr_loop (fun m E h' => ∃ k v n, k ≤ W.length ∧ m = W.length - k ∧ E = [(3, v), (6, .slice a W.length c), (7, .int .i64 (W.length : Int)), (8, .int .i64 (k : Int))] ∧ Keep [] h h' ∧ n = ((W.take k).map canonS).length ∧ OutR N0 h h' h.size 55 3 cSpan v n ((W.take k).map canonS)) W.length [(3, _), (6, _), (7, _), (8, _)] ⟨rfl, rfl, rfl, rfl, trivial⟩ ⟨0, _, 0, Nat.zero_le _, rfl, rfl, K, rfl, OutR.nil _ _ _ _ _ _ _⟩ ?_
  rintro m E hL1 ⟨k, v, n, hk, rfl, rfl, K, hn, hout⟩
  have hout0 := hout
  obtain ⟨xs, F, O, hrow, hF⟩ := hout
  have hob := own_ne O; have KL := Keep.refl [] hL1
  refine tr_seq ?_
  refine tr_reg ?_
  refine rs_v (v_lt rfl rfl) rfl ?_
  refine rs_nil ?_
  refine q_thn ?_
  refine tr_seq ?_
  refine tr_ifn rfl (fun hif => ?_) (fun hif => ?_)
  · -- no
    simp only [decide_eq_true_eq, decide_eq_false_iff_not] at hif
    have hkk : k = W.length := by omega
    subst hkk
    refine tr_exit ?_
    refine q_thn_exit ?_
    refine q_lp_exit ?_
    refine q_blk_hit ?_
    refine q_thn ?_
    refine tr_seq ?_
    refine tr_reg ?_
    refine rs_v (v_move rfl) rfl ?_
    refine rs_v (v_assign rfl) rfl ?_
    refine rs_nil ?_
    refine q_thn ?_
    refine tr_ret ?_
    refine q_ret (res_tmp rfl rfl) ?_
    rw [List.take_length] at hout0 hn
    exact ⟨hout0.fin cSpan_st hn (Nat.le_refl _) cSpan_r, K⟩
  -- yes
  simp only [decide_eq_true_eq, decide_eq_false_iff_not] at hif
  rcases hx with rfl | ⟨b, o, rfl, hAb, hR⟩
  · simp at hif; omega
  obtain ⟨x, hsk⟩ := ex_get (L := W) (k := k) (by omega)
  have hkl : k < W.length := (List.getElem?_eq_some_iff.1 hsk).1
  have KL0 := K.1
  obtain ⟨kv, hcc, hkx⟩ := hR k x hsk
  obtain ⟨ka, kc, rfl⟩ := hkx.form2
  have hcells := K.cells (by simp) hcc
  have hnk : n = k := by rw [hn, List.length_map, List.length_take]; omega
  refine tr_skip ?_
  refine q_thn ?_
  refine tr_seq ?_
  refine tr_block ?_
  refine tr_seq ?_
  refine tr_reg ?_
  refine rs_v (v_indexAddrN u_sl_spec_Span siz_spec_Span rfl rfl (by omega)) rfl ?_
  refine rs_v (v_loadAgg (vs := [_, _, _]) many_spec_Span rfl (by exact hcells)) rfl ?_
  refine rs_w (w_new zero_spec_Span) rfl ?_
  rintro _ h2 ⟨rfl, B2, K2, Z2⟩
  have O := O.keep2 K2 (fun x hm => by have := hob x hm; simp; try omega)
  have S2 := K.1; have K := K.new0 K2; have KL := KL.new0 K2
  refine rs_w0 (w_put siz_spec_Span rfl rfl rfl rfl B2 rfl) ?_
  rintro _ h3 ⟨B3, K3⟩
  have O := O.keep2 K3 (fun x hm => by have := hob x hm; simp; try omega)
  have B2 := B3; have K := K.new1 K3 (by first | (right; omega) | (left; simp; done)); have Z3 := K3.1; have KL := KL.new1 K3 (.inr (by omega))
  refine rs_nil ?_
  refine q_thn ?_
  refine tr_seq ?_
  refine tr_reg ?_
  refine rs_v (v_fieldAddr fa_spec_Span_2 rfl) rfl ?_
  refine rs_v (v_load one_sl_spec_SpanKey rfl (by exact B2.cell _ rfl)) rfl ?_
  refine rs_w (w_call (vs := [_]) ok_spec_SpanCanon rfl ⟨rfl, trivial⟩ (c_SpanCanon χ _ A (hA.mono (by omega)) _ x.ks (hkx.stab (K.st hA)) (hm x (List.mem_of_getElem? hsk)))) rfl ?_
  rintro kv4 h4 ⟨hkv4, K4⟩
  obtain ⟨a4, c4, rfl⟩ := hkv4.form2
  have B2 := K4.blk (by simp) B2
  have O := O.keep2 K4 (fun x hm => by have := hob x hm; simp; try omega)
  have K := K.new0 K4; have Z4 := K4.1; have KL := KL.new0 K4
  refine rs_v (v_fieldAddr fa_spec_Span_2 rfl) rfl ?_
  refine rs_w0 (w_put siz_sl_spec_SpanKey rfl rfl rfl rfl B2 rfl) ?_
  rintro _ h5 ⟨B5, K5⟩
  have O := O.keep2 K5 (fun x hm => by have := hob x hm; simp; try omega)
  have B2 := B5; have K := K.new1 K5 (by first | (right; omega) | (left; simp; done)); have Z5 := K5.1; have KL := KL.new1 K5 (.inr (by omega))
  refine rs_nil ?_
  refine q_thn ?_
  refine tr_reg ?_
  refine rs_v (v_move rfl) rfl ?_
  refine rs_v (v_loadAgg (vs := [_, _, _]) many_spec_Span rfl (by exact B2.sub _ 3 rfl)) rfl ?_
  refine rs_w (w_new1 u_sl_spec_Span siz_spec_Span zero_spec_Span rfl rfl rfl rfl rfl) rfl ?_
  rintro _ h6 ⟨rfl, B6, K6, Z6⟩
  have B2 := K6.blk (by simp) B2
  have O := O.keep2 K6 (fun x hm => by have := hob x hm; simp; try omega)
  have S6 := K.1; have K := K.new0 K6; have KL := KL.new0 K6
  refine rs_w (w_app1 u_sl_spec_Span info_spec_Span rfl rfl rfl O rfl rfl B6 rfl (by omega) (by omega) (by omega)) rfl ?_
  rintro v7 h7 ⟨O7, K7, N7, F7⟩
  have K := K.newX K7 (fun x hm => .inr (by have := hob x hm; omega)); have Z7 := K7.1
  have B2 := K7.blk (fun hm => by have := hob _ hm; omega) B2
  have B6 := K7.blk (fun hm => by have := hob _ hm; omega) B6
  refine rs_v (v_assign rfl) rfl ?_
  refine rs_nil ?_
  refine q_blk_n ?_
  refine q_thn ?_
  refine tr_reg ?_
  refine rs_v (v_add rfl rfl (by omega) (by omega)) rfl ?_
  refine rs_v (v_move rfl) rfl ?_
  refine rs_nil ?_
  refine q_lp (W.length - (k + 1)) [(3, _), (6, _), (7, _), (8, _)] (by omega) ⟨rfl, rfl, rfl, rfl, trivial⟩ ⟨k + 1, v7, n + 1, by omega, rfl, rfl, K, ?_, ?_⟩
  · rw [take_snoc' hsk, List.map_append]; rw [List.length_append, ← hn]; rfl
  · rw [take_snoc' hsk, List.map_append]
    exact OutR.snoc cSpan_st (n0low h) (by omega) hob hrow hF KL0 KL O7 K7 F7 rfl (⟨_, rfl, (upk (n0low _) (by omega) (rk_skip hkv4 Z4 K5 (by omega)) K6).mono (n0up (by omega) (Nat.le_refl _))⟩)
theorem c_spanLike (χ : Chi) (h : Heap) (A A2 : Nat → Prop) (hA : Low A h) (hA2 : Low A2 h) (v u : Value) (W W2 : List SpanD) (hW : RSpans A h v W) (hW2 : RSpans A2 h u W2) (hn : W.length ≤ 100000) (hn2 : W2.length ≤ 100000) (hm : ∀ s, s ∈ W → few s) (hm2 : ∀ s, s ∈ W2 → few s) (hlk : Like W W2) :
    Cl Try.prog χ 45 #[v, u] h (fun r h' => r = .bool true ∧ Keep [] h h') := by
  obtain ⟨a2, c2, rfl⟩ := SlR.form2 hW2
  refine cl_intro Try.func45 rfl rfl rfl ?_
  have K : Keep [] h h := Keep.refl _ _
  refine tr_seq ?_
  refine tr_reg ?_
  refine rs_v (v_assign rfl) rfl ?_
  refine rs_nil ?_
  refine q_thn ?_
  refine tr_seq ?_
  refine tr_reg ?_
  refine rs_v (v_move rfl) rfl ?_
  refine rs_w (w_call (vs := [_]) ok_laws_ofSpans rfl ⟨rfl, trivial⟩ (c_ofSpans χ h A hA _ W hW hn hm)) rfl ?_
  rintro v1 h1 ⟨hl1, K1⟩
  obtain ⟨hlen, a, c, rfl, hx⟩ := SlR.form hl1
  have K := K.new0 K1; have Z1 := K1.1
  refine rs_v (v_assign rfl) rfl ?_
  refine rs_nil ?_
  refine q_thn ?_
  refine tr_seq ?_
  refine tr_seq ?_
  refine tr_reg ?_
  refine rs_v (v_move rfl) rfl ?_
  refine rs_v (v_len u_sl_spec_Span rfl) rfl ?_
  refine rs_v (v_move rfl) rfl ?_
  refine rs_nil ?_
  refine q_thn ?_
  refine tr_block ?_
  refine tr_loop (fun m E h' => ∃ k, k ≤ W.length ∧ m = W.length - k ∧ E = [(1, .slice a2 W2.length c2), (5, .slice a W.length c), (10, .slice a W.length c), (11, .int .i64 (W.length : Int)), (12, .int .i64 (k : Int))] ∧ Keep [] h h' ∧ Keep [] h1 h') W.length [(1, _), (5, _), (10, _), (11, _), (12, _)] ⟨rfl, rfl, rfl, rfl, rfl, trivial⟩ ⟨0, Nat.zero_le _, rfl, rfl, K, Keep.refl _ _⟩ ?_
  rintro m E hL2 ⟨k, hk, rfl, rfl, K, KA⟩
  refine tr_seq ?_
  refine tr_reg ?_
  refine rs_v (v_lt rfl rfl) rfl ?_
  refine rs_nil ?_
  refine q_thn ?_
  refine tr_seq ?_
  refine tr_ifn rfl (fun hif => ?_) (fun hif => ?_)
  · -- no
    simp only [decide_eq_true_eq, decide_eq_false_iff_not] at hif
    refine tr_exit ?_
    refine q_thn_exit ?_
    refine q_lp_exit ?_
    refine q_blk_hit ?_
    refine q_thn ?_
    refine tr_seq ?_
    refine tr_reg ?_
    refine rs_v (v_move rfl) rfl ?_
    refine rs_w (w_call (vs := [_]) ok_laws_spanCanons rfl ⟨rfl, trivial⟩ (c_spanCanons χ _ (Up A h h1) ((hA.up Z1).mono KA.1) _ W (RSpans.stab hl1 (KA.st (hA.up Z1))) hn hm)) rfl ?_
    rintro v2 h3 ⟨hl2, K3⟩
    have KA := KA.newX K3 (fun x hx => .inr (by first | (simp at hx; done) | (simp at hx; omega)))
    have K := K.new0 K3; have Z3 := K3.1
    refine rs_v (v_move rfl) rfl ?_
    refine rs_w (w_call (vs := [_]) ok_laws_spanCanons rfl ⟨rfl, trivial⟩ (c_spanCanons χ _ A2 (hA2.mono K.1) _ W2 (hW2.stab (K.st hA2)) hn2 hm2)) rfl ?_
    rintro v3 h4 ⟨hl3, K4⟩
    have hz2 := K3.1
    have hl2 := hl2.stab (K4.st ((n0low _).up hz2))
    obtain ⟨aa2, cc2, rfl⟩ := SlR.form2 hl2
    obtain ⟨aa3, cc3, rfl⟩ := SlR.form2 hl3
    have KA := KA.newX K4 (fun x hx => .inr (by first | (simp at hx; done) | (simp at hx; omega)))
    have K := K.new0 K4; have Z4 := K4.1
    refine rs_w (w_call (vs := [_, _]) ok_laws_sameSpans rfl ⟨rfl, rfl, trivial⟩ (c_sameSpans χ _ _ _ (((n0low _).up hz2).mono Z4) ((n0low _).up Z4) _ _ (W.map canonS) hl2 (by rw [hlk.1]; exact hl3))) rfl ?_
    rintro _ h5 ⟨rfl, K5⟩
    have KA := KA.newX K5 (fun x hx => .inr (by first | (simp at hx; done) | (simp at hx; omega)))
    have K := K.new0 K5; have Z5 := K5.1
    refine rs_v (v_assign rfl) rfl ?_
    refine rs_nil ?_
    refine q_thn ?_
    refine tr_ret ?_
    refine q_ret (res_tmp rfl rfl) ?_
    exact ⟨rfl, K⟩
  -- yes
  simp only [decide_eq_true_eq, decide_eq_false_iff_not] at hif
  rcases hx with rfl | ⟨b, o, rfl, hAb, hR⟩
  · simp at hif; omega
  obtain ⟨x, hsk⟩ := ex_get (L := W) (k := k) (by omega)
  obtain ⟨kv, hcc, hkx⟩ := hR k x hsk
  obtain ⟨ka, kc, rfl⟩ := hkx.form2
  have hcells := KA.cells (by simp) hcc
  have hZA := KA.1
  have hd := hlk.2 x (List.mem_of_getElem? hsk)
  refine tr_skip ?_
  refine q_thn ?_
  refine tr_seq ?_
  refine tr_block ?_
  refine tr_seq ?_
  refine tr_reg ?_
  refine rs_v (v_indexAddrN u_sl_spec_Span siz_spec_Span rfl rfl (by omega)) rfl ?_
  refine rs_v (v_loadAgg (vs := [_, _, _]) many_spec_Span rfl (by exact hcells)) rfl ?_
  refine rs_w (w_new zero_spec_Span) rfl ?_
  rintro _ h6 ⟨rfl, B6, K6, Z6⟩
  have KA := KA.newX K6 (fun x hx => .inr (by first | (simp at hx; done) | (simp at hx; omega)))
  have S6 := K.1; have K := K.new0 K6
  refine rs_w0 (w_put siz_spec_Span rfl rfl rfl rfl B6 rfl) ?_
  rintro _ h7 ⟨B7, K7⟩
  have KA := KA.newX K7 (fun x hx => .inr (by first | (simp at hx; done) | (simp at hx; omega)))
  have B6 := B7; have K := K.new1 K7 (by first | (right; omega) | (left; simp; done)); have Z7 := K7.1
  refine rs_nil ?_
  refine q_thn ?_
  refine tr_seq ?_
  refine tr_reg ?_
  refine rs_v (v_fieldAddr fa_spec_Span_2 rfl) rfl ?_
  refine rs_v (v_load one_sl_spec_SpanKey rfl (by exact B6.cell _ rfl)) rfl ?_
  refine rs_w (w_call (vs := [_]) ok_spec_SpanDescending rfl ⟨rfl, trivial⟩ (c_SpanDescending χ _ (Up A h h1) _ x.ks (hkx.stab (KA.st (hA.up Z1))))) rfl ?_
  rintro _ h8 ⟨rfl, hsame⟩; have hsame := hsame.symm; subst hsame
  refine rs_v (v_not rfl) rfl ?_
  refine rs_nil ?_
  refine q_thn ?_
  refine tr_if_f (lkb (by rw [hd]; rfl)) ?_
  refine tr_skip ?_
  refine q_blk_n ?_
  refine q_thn ?_
  refine tr_reg ?_
  refine rs_v (v_add rfl rfl (by omega) (by omega)) rfl ?_
  refine rs_v (v_move rfl) rfl ?_
  refine rs_nil ?_
  refine q_lp (W.length - (k + 1)) [(1, _), (5, _), (10, _), (11, _), (12, _)] (by omega) ⟨rfl, rfl, rfl, rfl, rfl, trivial⟩ ⟨k + 1, by omega, rfl, rfl, K, KA⟩
end Go.Proofs.Ytgebfbnndgjkiaa
namespace Go.Proofs.Ytgebfbnndgjkiaa
open Go.Tess Go.RowKit
set_option maxRecDepth 100000
set_option maxHeartbeats 1000000
theorem bsplit2 (a : Bool) : a = true ∨ a = false := Bool.eq_false_or_eq_true a
theorem bsplit4 (a b c : Bool) : a = true ∨ (a = false ∧ b = true) ∨ (a = false ∧ b = false ∧ c = true) ∨ (a = false ∧ b = false ∧ c = false) := by cases a <;> cases b <;> cases c <;> simp
theorem desc_pair : ∀ (ks : List KeyD), descB ks = true ↔ ks.Pairwise (fun a b => b.tr ≤ a.tr)
  | [] => by simp [descB, chainB]
  | [a] => by simp [descB, chainB]
  | a :: b :: l => by
    have ih := desc_pair (b :: l)
    simp only [descB, chainB, Bool.and_eq_true, decide_eq_true_eq] at ih ⊢
    rw [ih, List.pairwise_cons (a := a)]
    constructor
    · rintro ⟨h1, h2⟩
      refine ⟨fun x hx => ?_, h2⟩
      rcases List.mem_cons.1 hx with rfl | hx
      · exact h1
      · exact Int.le_trans ((List.pairwise_cons.1 h2).1 x hx) h1
    · rintro ⟨h1, h2⟩
      exact ⟨h1 b (by simp), h2⟩
structure Good (W : List SpanD) : Prop where
  len : W.length ≤ 40
  full : ∀ s, s ∈ W → slt s.s s.e = true ∧ s.ks ≠ [] ∧ descB s.ks = true ∧ s.ks.length ≤ 40
  small : ∀ s, s ∈ W → SpanD.small s
  ord : Tess.Ord W
theorem Good.few {W : List SpanD} (h : Good W) : ∀ s, s ∈ W → few s := fun s hs => by have := (h.full s hs).2.2.2; unfold Go.Proofs.Ytgebfbnndgjkiaa.few; omega
theorem Good.n {W : List SpanD} (h : Good W) : W.length ≤ 100000 := by have := h.len; omega
theorem good_of {W : List SpanD} {n : Int} (hn : n ≤ 40) (h4 : fit4 W = true) (hm : (mostB W n && wellB W) = true) : Good W ∧ (W.length : Int) ≤ n := by
  simp only [fit4, mostB, wellB, Bool.and_eq_true, List.all_eq_true, decide_eq_true_eq] at h4 hm
  obtain ⟨⟨hm1, hm2⟩, hw1, hw2⟩ := hm
  have hfull : ∀ s, s ∈ W → slt s.s s.e = true ∧ s.ks ≠ [] ∧ descB s.ks = true ∧ s.ks.length ≤ 40 := fun s hs => by
    have := hw1 s hs
    simp only [fullB, Bool.and_eq_true, decide_eq_true_eq] at this
    exact ⟨this.1, fun e => by rw [e] at this; simp at this, this.2.2, hm1 s hs⟩
  refine ⟨⟨by omega, hfull, fun s hs => ?_, ⟨fun s hs => (hfull s hs).1, fun i a b ha hb => (chainB_iff _ W).1 hw2 i a b ha hb⟩⟩, hm2⟩
  have h5 := h4.2 s hs
  simp only [fit5, fit6, Bool.and_eq_true, List.all_eq_true, decide_eq_true_eq, MX] at h5
  refine ⟨by omega, by omega, by have := hm1 s hs; omega, fun k hk => ?_⟩
  have h7 := h5.2.2 k hk
  simp only [fit7, Bool.and_eq_true, decide_eq_true_eq, MX] at h7
  exact ⟨by omega, by omega⟩
theorem c_spanWell_t (χ : Chi) (h : Heap) (A : Nat → Prop) (hA : Low A h) (v : Value) (W : List SpanD) (n : Int) (hW : RSpans A h v W) (hq : mostB W n = true) :
    Cl Try.prog χ 14 #[v, .int .i64 n] h (fun r h' => r = .bool (mostB W n && wellB W) ∧ Keep [] h h') := by
  refine cl_intro Try.func14 rfl rfl rfl ?_
  have K : Keep [] h h := Keep.refl _ _
  refine tr_seq ?_
  refine tr_reg ?_
  refine rs_v (v_assign rfl) rfl ?_
  refine rs_nil ?_
  refine q_thn ?_
  refine tr_seq ?_
  refine tr_reg ?_
  refine rs_v (v_move rfl) rfl ?_
  refine rs_v (v_move rfl) rfl ?_
  refine rs_w (w_call (vs := [_, _]) ok_laws_spanMost rfl ⟨rfl, rfl, trivial⟩ (c_spanMost χ h A _ W n hW)) rfl ?_
  rintro _ h1 ⟨rfl, K1⟩
  have K := K.new0 K1; have Z1 := K1.1
  refine rs_v (v_move rfl) rfl ?_
  refine rs_gv rfl (lkb hq) (v_move rfl) rfl ?_
  refine rs_gw rfl (lkb hq) (w_call (vs := [_]) ok_spec_SpanWell rfl ⟨rfl, trivial⟩ (c_SpanWell χ _ A (hA.mono K.1) _ W (hW.stab (K.st hA)))) rfl ?_
  rintro _ h2 ⟨rfl, K2⟩
  have K := K.new0 K2; have Z2 := K2.1
  refine rs_v (v_pick_t (lkb hq) rfl) rfl ?_
  refine rs_v (v_assign rfl) rfl ?_
  refine rs_nil ?_
  refine q_thn ?_
  refine tr_ret ?_
  refine q_ret (res_tmp rfl rfl) ?_
  exact ⟨by rw [hq]; rfl, K⟩
theorem c_spanWell_f (χ : Chi) (h : Heap) (A : Nat → Prop) (hA : Low A h) (v : Value) (W : List SpanD) (n : Int) (hW : RSpans A h v W) (hq : mostB W n = false) :
    Cl Try.prog χ 14 #[v, .int .i64 n] h (fun r h' => r = .bool (mostB W n && wellB W) ∧ Keep [] h h') := by
  refine cl_intro Try.func14 rfl rfl rfl ?_
  have K : Keep [] h h := Keep.refl _ _
  refine tr_seq ?_
  refine tr_reg ?_
  refine rs_v (v_assign rfl) rfl ?_
  refine rs_nil ?_
  refine q_thn ?_
  refine tr_seq ?_
  refine tr_reg ?_
  refine rs_v (v_move rfl) rfl ?_
  refine rs_v (v_move rfl) rfl ?_
  refine rs_w (w_call (vs := [_, _]) ok_laws_spanMost rfl ⟨rfl, rfl, trivial⟩ (c_spanMost χ h A _ W n hW)) rfl ?_
  rintro _ h1 ⟨rfl, K1⟩
  have K := K.new0 K1; have Z1 := K1.1
  refine rs_v (v_move rfl) rfl ?_
  refine rs_gs rfl (lkb hq) rfl rfl ?_
  refine rs_gs rfl (lkb hq) rfl rfl ?_
  refine rs_v (v_pick_f (lkb hq) rfl) rfl ?_
  refine rs_v (v_assign rfl) rfl ?_
  refine rs_nil ?_
  refine q_thn ?_
  refine tr_ret ?_
  refine q_ret (res_tmp rfl rfl) ?_
  exact ⟨by rw [hq]; rfl, K⟩
theorem c_spanWell (χ : Chi) (h : Heap) (A : Nat → Prop) (hA : Low A h) (v : Value) (W : List SpanD) (n : Int) (hW : RSpans A h v W) :
    Cl Try.prog χ 14 #[v, .int .i64 n] h (fun r h' => r = .bool (mostB W n && wellB W) ∧ Keep [] h h') := by
  rcases bsplit2 (mostB W n) with hq | hq
  · exact c_spanWell_t χ h A hA v W n hW hq
  · exact c_spanWell_f χ h A hA v W n hW hq
end Go.Proofs.Ytgebfbnndgjkiaa
namespace Go.Proofs.Ytgebfbnndgjkiaa
open Go.Tess Go.RowKit
set_option maxRecDepth 100000
set_option maxHeartbeats 1000000
/-- All blocks that are there. -/
def All (h : Heap) : Nat → Prop := fun b => b < h.size
theorem all_low (h : Heap) : Low (All h) h := fun _ hb => hb
section
variable {h h' : Heap} {v : Value}
theorem all_st (K : Keep [] h h') : Stab (All h) h h' := K.st (all_low h)
theorem all_up (K : Keep [] h h') : ∀ b, All h b → All h' b := fun _ hb => Nat.lt_of_lt_of_le hb K.1
theorem RSpans.kk {W : List SpanD} (hr : RSpans (All h) h v W) (K : Keep [] h h') : RSpans (All h') h' v W := (RSpans.stab hr (all_st K)).mono (all_up K)
theorem RSteps.kk {W : List StepD} (hr : RSteps (All h) h v W) (K : Keep [] h h') : RSteps (All h') h' v W := (RSteps.stab hr (all_st K)).mono (all_up K)
theorem RAnss.kk {W : List AnsD} (hr : RAnss (All h) h v W) (K : Keep [] h h') : RAnss (All h') h' v W := (RAnss.stab hr (all_st K)).mono (all_up K)
theorem upA (K : Keep [] h h') : ∀ b, Up (All h) h h' b → All h' b := (all_low h).up K.1
theorem upN (K : Keep [] h h') : ∀ b, Up N0 h h' b → All h' b := (n0low h).up K.1
end
def startS : List StepD := [⟨0, ByteArray.empty⟩]
theorem start_small : ∀ s, s ∈ startS → s.key.size ≤ 9223372036854775807 := by intro s hs; simp [startS] at hs; subst hs; decide

end Go.Proofs.Ytgebfbnndgjkiaa
namespace Go.Proofs.Ytgebfbnndgjkiaa
open Go.Tess Go.ChangeShapes Go.WideShapes Go.ChangeAt Go.RowKit
set_option maxRecDepth 100000
theorem take_open {α : Type} {n : Nat} {p : Nat → α → Prop} (hh : ∀ i, i < n → ∃ a, p i a) : ∃ xs : List α, xs.length = n ∧ ∀ (i : Nat) a, xs[i]? = some a → p i a := by
  induction n with
  | zero => exact ⟨[], rfl, fun i a h => by simp at h⟩
  | succ n ih =>
    obtain ⟨xs, hl, hx⟩ := ih fun i hi => hh i (by omega)
    obtain ⟨a, ha⟩ := hh n (by omega)
    refine ⟨xs ++ [a], by simp [hl], fun i b hb => ?_⟩
    by_cases hi : i < n
    · rw [List.getElem?_append_left (by omega)] at hb; exact hx i b hb
    · have := (List.getElem?_eq_some_iff.1 hb).1
      simp [hl] at this
      have e : i = n := by omega
      subst e
      rw [List.getElem?_append_right (by omega), hl] at hb
      simp at hb; subst hb; exact ha
section
variable {H : Type} {enc : TypeId × Value → H} {χ : Chi} {h : Heap} {d : Nat} {sp : Nat → Bool} {hd : Bool}
theorem sl_open {P : Program} {α : Type} {t e : TypeId} {sz : Nat} {R : List Value → α → Prop} (ht : P.underlying t = some (.slice e)) (hc : P.cellsOf e = sz) (h0 : 0 < sz)
    (hop : ∀ n cs x, DataW.trod enc P (mkw χ h d) 0 sp hd n e cs = some x → ∃ a, R cs a) {fuel : Nat} {v : Value} {x : DataW H × List MemPlace} (htr : DataW.trod enc P (mkw χ h d) 0 sp hd fuel t [v] = some x) :
    ∃ xs : List α, SlR h (All h) sz (fun h b o a => ∃ cs, CellsAt h b o cs ∧ R cs a) v xs := by
  rcases Deep.open_slice ht htr with ⟨hcs, _⟩ | ⟨a, len, cap, m, n, D, Pl, hcs, _, hl, hm, hmm, _, hel⟩
  · cases hcs; exact ⟨[], SlR.nil _ _ _ _⟩
  cases hcs
  have hlm : len ≤ m := by rw [hmm]; split <;> omega
  obtain ⟨xs, hxl, hx⟩ := take_open (α := α) (n := len) (p := fun i a' => ∃ cs', (mkw χ h d).cells? 0 (a.add (i * sz)) sz = some cs' ∧ R cs' a') fun i hi => by
    obtain ⟨cs', h1, h2⟩ := hel i (by omega)
    rw [hc] at h1
    obtain ⟨a', ha'⟩ := hop _ _ _ h2
    exact ⟨a', cs', h1, ha'⟩
  have hspot : 0 < len → ∃ b o, a = ⟨b, o, none⟩ := fun hpos => by
    obtain ⟨cs', h1, _⟩ := hel 0 (by omega)
    rw [hc] at h1
    obtain ⟨_, hlen, hcell⟩ := World.cells?_some h1
    have h2 := hcell 0 h0
    rw [List.getElem?_eq_getElem (by omega)] at h2
    have h3 := World.cell?_spot h2
    simp [Addr.add] at h3
    obtain ⟨b, o, q⟩ := a
    simp at h3; subst h3
    exact ⟨b, o, rfl⟩
  refine ⟨xs, by unfold maxLen at hm; omega, some a, cap, by rw [hxl], fun i x hi => ?_⟩
  have hlt := (List.getElem?_eq_some_iff.1 hi).1
  obtain ⟨b, o, rfl⟩ := hspot (by omega)
  obtain ⟨cs', h1, h2⟩ := hx i x hi
  obtain ⟨_, hlen, hcell⟩ := World.cells?_some h1
  have hcells : CellsAt h b (o + i * sz) cs' := fun j v hj => by
    have := hcell j (by have := (List.getElem?_eq_some_iff.1 hj).1; omega)
    rw [addr_add, addr_add, cell_mkw, hj] at this
    exact this
  refine ⟨b, o, rfl, ?_, cs', hcells, h2⟩
  have := hcells 0 cs'[0] (List.getElem?_eq_getElem (by omega))
  exact cellH_lt this
theorem field_open {P : Program} {w : World} {T : TypeId} {fs : Array Field} {n : Nat} {cs : List Value} {x : DataW H × List MemPlace} (ht : P.underlying T = some (.struct fs)) (hx : DataW.trod enc P w 0 sp hd n T cs = some x) (i : Nat) (ft off sz : Nat)
    (hf : (fs[i]?).map (fun f => (f.type, f.offset)) = some (ft, off)) (hsz : P.cellsOf ft = sz) : ∃ m y, DataW.trod enc P w 0 sp hd m ft ((cs.drop off).take sz) = some y := by
  obtain ⟨xs, m, _, _, _, hl, hfs⟩ := DataW.trod_struct ht hx
  cases hq : fs[i]? with
  | none => rw [hq] at hf; simp at hf
  | some f =>
    rw [hq] at hf
    simp only [Option.map_some, Option.some.injEq, Prod.mk.injEq] at hf
    have := hfs i f hq
    have hi : i < fs.size := (Array.getElem?_eq_some_iff.1 hq).1
    rw [List.getElem?_eq_getElem (by omega), hf.1, hf.2, hsz] at this
    exact ⟨m, _, this⟩
theorem struct_len {P : Program} {w : World} {T : TypeId} {fs : Array Field} {n sz : Nat} {cs : List Value} {x : DataW H × List MemPlace} (ht : P.underlying T = some (.struct fs)) (hx : DataW.trod enc P w 0 sp hd n T cs = some x) (hsz : P.cellsOf T = sz) : cs.length = sz := by
  obtain ⟨_, _, _, _, hl, _⟩ := DataW.trod_struct ht hx
  rw [hl, hsz]
theorem st_key : Try.prog.underlying 102 = some (.struct (Try.prog.fieldsOf 102)) := by kernel_rfl
theorem st_span : Try.prog.underlying 55 = some (.struct (Try.prog.fieldsOf 55)) := by kernel_rfl
theorem open_key {n : Nat} {cs : List Value} {x : DataW H × List MemPlace} (hx : DataW.trod enc Try.prog (mkw χ h d) 0 sp hd n 102 cs = some x) : ∃ k : KeyD, cs = k.cells := by
  have hl := struct_len st_key hx (sz := 3) (by kernel_rfl)
  match cs, hl with
  | [c0, c1, c2], _ =>
    obtain ⟨_, _, y0⟩ := field_open st_key hx 0 23 0 1 (by kernel_rfl) (by kernel_rfl)
    obtain ⟨_, _, y1⟩ := field_open st_key hx 1 9 1 1 (by kernel_rfl) (by kernel_rfl)
    obtain ⟨_, _, y2⟩ := field_open st_key hx 2 9 2 1 (by kernel_rfl) (by kernel_rfl)
    obtain ⟨i, e0, _⟩ := DataW.trod_int u_uint64 y0
    obtain ⟨s, e1, _⟩ := DataW.trod_string u_string y1
    obtain ⟨u, e2, _⟩ := DataW.trod_string u_string y2
    cases e0; cases e1; cases e2
    exact ⟨⟨i, s, u⟩, rfl⟩
theorem open_keys {n : Nat} {v : Value} {x : DataW H × List MemPlace} (hx : DataW.trod enc Try.prog (mkw χ h d) 0 sp hd n 53 [v] = some x) : ∃ ks : List KeyD, RKeys (All h) h v ks := by
  obtain ⟨ks, hk⟩ := sl_open (R := fun cs (k : KeyD) => cs = k.cells) u_sl_spec_SpanKey (sz := 3) (by kernel_rfl) (by omega) (fun n cs x hx => open_key hx) hx
  exact ⟨ks, SlR.mono hk (fun _ h => h) fun b o x _ hc => by obtain ⟨cs, h1, rfl⟩ := hc; exact h1⟩
theorem open_span {n : Nat} {cs : List Value} {x : DataW H × List MemPlace} (hx : DataW.trod enc Try.prog (mkw χ h d) 0 sp hd n 55 cs = some x) : ∃ s : SpanD, ∃ kv, cs = [.string s.s, .string s.e, kv] ∧ RKeys (All h) h kv s.ks := by
  have hl := struct_len st_span hx (sz := 3) (by kernel_rfl)
  match cs, hl with
  | [c0, c1, c2], _ =>
    obtain ⟨_, _, y0⟩ := field_open st_span hx 0 9 0 1 (by kernel_rfl) (by kernel_rfl)
    obtain ⟨_, _, y1⟩ := field_open st_span hx 1 9 1 1 (by kernel_rfl) (by kernel_rfl)
    obtain ⟨_, _, y2⟩ := field_open st_span hx 2 53 2 1 (by kernel_rfl) (by kernel_rfl)
    obtain ⟨s, e1, _⟩ := DataW.trod_string u_string y0
    obtain ⟨u, e2, _⟩ := DataW.trod_string u_string y1
    obtain ⟨ks, hk⟩ := open_keys y2
    cases e1; cases e2
    exact ⟨⟨s, u, ks⟩, _, rfl, hk⟩
theorem open_spans {n : Nat} {v : Value} {x : DataW H × List MemPlace} (hx : DataW.trod enc Try.prog (mkw χ h d) 0 sp hd n 22 [v] = some x) : ∃ W : List SpanD, RSpans (All h) h v W := by
  obtain ⟨W, hW⟩ := sl_open (R := fun cs (s : SpanD) => ∃ kv, cs = [.string s.s, .string s.e, kv] ∧ RKeys (All h) h kv s.ks) u_sl_spec_Span (sz := 3) (by kernel_rfl) (by omega) (fun n cs x hx => open_span hx) hx
  exact ⟨W, SlR.mono hW (fun _ h => h) fun b o x _ hc => by obtain ⟨cs, h1, kv, rfl, hk⟩ := hc; exact ⟨kv, h1, hk⟩⟩
end
theorem below_of {χ : Chi} {h h' : Heap} {d d' : Nat} (K : Keep [] h h') : Below h.size (mkw χ h d) (mkw χ h' d') := ⟨rfl, rfl, rfl, K.1, fun k hk => K.2 k hk (by simp)⟩
theorem laidOut : laidOutB Try.prog = true := by kernel_rfl
theorem trodAll_below {P : Program} (hl : laidOutB P = true) {H : Type} {enc : TypeId × Value → H} {W W' : World} (hb : Below W.heap.size W W') : ∀ (ts : List TypeId) (vs : List Value) (ds : List (DataW H)) (ps : List MemPlace),
    (ts.all fun t => P.readableRec t && decide (t < P.types.size)) = true → DataW.TrodAll enc P W 0 (fun _ => true) true ts vs ds ps → (∀ x, x ∈ ps → x.block < W.heap.size) →
    DataW.TrodAll enc P W' 0 (fun b => decide (b < W.heap.size)) true ts vs ds ps
  | [], vs, ds, ps, _, h, _ => by
    obtain ⟨rfl, rfl, rfl⟩ := trodAll_nil h
    exact trodAll_mk0
  | t :: ts, vs, ds, ps, hr, h, hlt => by
    obtain ⟨v, vs1, d, ds1, a, b, rfl, rfl, rfl, h1, h2⟩ := trodAll_cons h
    rw [List.all_cons, Bool.and_eq_true, Bool.and_eq_true] at hr
    exact ⟨a, b, Below.trod hl hr.1.1 (of_decide_eq_true hr.1.2) h1 hb (fun x hx => hlt x (List.mem_append_left _ hx)),
      trodAll_below hl hb ts vs1 ds1 b hr.2 h2 (fun x hx => hlt x (List.mem_append_right _ hx)), rfl⟩
theorem Try.own : ownKnob Try.prog.godebug = none := by kernel_rfl
theorem law_lift {H : Type} {enc : TypeId × Value → H} {os : Os} (started : os.Started) {f : FuncId} {fn : Func} {s : ChangeSpec} {conds : List PathCond} (noInit : Try.prog.inits.idxOf? f = none) (hfn : Try.prog.funcs[f]? = some fn)
    (witness : ∃ (w : World) (tape : Tape) (i : Input), w.os = os ∧ (w.forCall tape i).Shaped Try.prog ∧ i.vars = [] ∧ Input.okWide Try.prog (w.forCall tape i) .any w.heap.size f i ∧
      s.pre6 enc Try.prog fn conds false (w.forCall tape i).memory i.args ∧ Assume.holds {} Try.prog (lone (Frame.enter Try.prog f i.args .normal) [] (w.forCall tape i)))
    (hres : fn.resultTypes = #[4]) (hvars : s.vars = []) (hread : (fn.params.toList.all fun t => Try.prog.readableRec t && decide (t < Try.prog.types.size)) = true)
    (hs : ∀ ds : List (DataW H), ds.length = fn.params.toList.length → (s.fn H ds).results = [.lit (.bool true)] ∧ (s.fn H ds).args = ds ∧ (s.fn H ds).vars = [])
    (contract : ∀ (W : World) (args : Array Value) (ds : List (DataW H)) (ps : List MemPlace) (b0 : Nat), (∀ (j : Nat) t v, fn.params[j]? = some t → args[j]? = some v → Value.okWide Try.prog W .any b0 t v) →
      DataW.TrodAll enc Try.prog W 0 (fun _ => true) true fn.params.toList args.toList ds ps → Cl Try.prog ⟨W.tape, W.os, W.output⟩ f args W.heap (fun r h' => r = .bool true ∧ Keep [] W.heap h')) :
    ReturnsInHanded {} Try.checked os f .any (s.pre6 enc Try.prog fn conds false) (s.post enc Try.prog fn false true false false) := by
  refine returnsInHanded_of_change (C := Try.checked) Try.own started noInit hfn witness ?_
  intro W base args ds gs before hval hW _ _
  have hW' := hW
  obtain ⟨p, q, hA, hV, rfl, _, _⟩ := hW
  have hlen : ∀ (ts : List TypeId) (vs : List Value) (ds : List (DataW H)) (ps : List MemPlace), DataW.TrodAll enc Try.prog W 0 (fun _ => true) true ts vs ds ps → ds.length = ts.length := by
    intro ts
    induction ts with
    | nil => intro vs ds ps h; obtain ⟨_, rfl, _⟩ := trodAll_nil h; rfl
    | cons t ts ih => intro vs ds ps h; obtain ⟨v, vs1, d, ds1, a, b, rfl, rfl, rfl, h1, h2⟩ := trodAll_cons h; simp [ih _ _ _ h2]
  have hV0 : gs = [] ∧ q = [] := by
    rw [hvars] at hV
    cases gs with
    | nil => exact ⟨rfl, hV⟩
    | cons g gs => exact hV.elim
  obtain ⟨rfl, rfl⟩ := hV0
  obtain ⟨e1, e2, e3⟩ := hs ds (hlen _ _ _ _ hA)
  refine (contract W args ds p base hval hA W.drawn).mono fun e W' hW2 => ?_
  obtain ⟨v, h', d', rfl, rfl, rfl, K⟩ := hW2
  have hb0 : Below W.heap.size (mkw ⟨W.tape, W.os, W.output⟩ W.heap W.drawn) (mkw ⟨W.tape, W.os, W.output⟩ h' d') := below_of K
  have hb : Below W.heap.size W (mkw ⟨W.tape, W.os, W.output⟩ h' d') := hb0
  have hlt : ∀ x ∈ p, x.block < W.heap.size := fun x hx => by simpa using hW'.lt x (by simpa using hx)
  refine ⟨_, rfl, ds, [], p ++ [], [], p, [], hW', ?_, ?_, ?_, hb.frame _, fun h => by cases h⟩
  · rw [List.append_nil, e1, hres]
    exact trodAll_mk1 (shut_bool (show Try.prog.underlying 4 = some .bool from u_bool) _)
  · rw [List.append_nil, e2]
    exact trodAll_below laidOut hb _ _ _ _ hread hA hlt
  · rw [List.append_nil, e3, hvars]
    rfl

end Go.Proofs.Ytgebfbnndgjkiaa
namespace Go.Proofs.Ytgebfbnndgjkiaa
open Go.Tess Go.RowKit
set_option maxRecDepth 100000
set_option maxHeartbeats 1000000
/-- A span that lies wholly ahead of the first internal key, behind the second one. -/
def stB (st : Option ByteArray) (s : SpanD) : Bool := match st with | none => false | some k => sle s.e k
def enB (en : Option ByteArray) (s : SpanD) : Bool := match en with | none => false | some k => slt k s.s
def cutLo (lo : ByteArray) (s : SpanD) : ByteArray := if slt s.s lo then lo else s.s
def cutUp (up : ByteArray) (s : SpanD) : ByteArray := if slt up s.e then up else s.e
def ffT (st en : Option ByteArray) (lo up : ByteArray) (s : SpanD) : Option SpanD :=
  if stB st s then none else if enB en s then none else if slt (cutLo lo s) (cutUp up s) then some ⟨cutLo lo s, cutUp up s, s.ks⟩ else none
/-- An internal key behind a pointer, or none. -/
def PBnd (G : Nat → Prop) (h : Heap) (p : Option Addr) (k : Option ByteArray) : Prop := match k with
  | none => p = none
  | some k => ∃ b o kv tr, p = some ⟨b, o, none⟩ ∧ G b ∧ CellsAt h b o [kv, tr] ∧ RBytes G h kv k
structure EnvT (bst bcm ben blo bup bpn : Nat) (st en : Option ByteArray) (lo up : ByteArray) (G : Nat → Prop) (h : Heap) : Prop where
  low : Low G h
  g : G bst ∧ G bcm ∧ G ben ∧ G blo ∧ G bup ∧ G bpn
  bs : ∃ p, Blk h bst [.pointer p] 171 ∧ PBnd G h p st
  bc : Blk h bcm [cmpF] 104
  be : ∃ p, Blk h ben [.pointer p] 171 ∧ PBnd G h p en
  bl : ∃ v, Blk h blo [v] 123 ∧ RBytes G h v lo
  bu : ∃ v, Blk h bup [v] 123 ∧ RBytes G h v up
  bp : Blk h bpn [.bool false] 4
theorem PBnd.stab {G : Nat → Prop} {h h' : Heap} {p : Option Addr} {k : Option ByteArray} (hp : PBnd G h p k) (s : Stab G h h') : PBnd G h' p k := by
  cases k with
  | none => exact hp
  | some k =>
    obtain ⟨b, o, kv, tr, e, h1, h2, h3⟩ := hp
    exact ⟨b, o, kv, tr, e, h1, s.cells h1 h2, h3.stab s⟩
section
variable {bst bcm ben blo bup bpn : Nat} {st en : Option ByteArray} {lo up : ByteArray} {G : Nat → Prop} {h h' : Heap}
theorem EnvT.stab (hE : EnvT bst bcm ben blo bup bpn st en lo up G h) (s : Stab G h h') (hz : h.size ≤ h'.size) : EnvT bst bcm ben blo bup bpn st en lo up G h' where
  low := hE.low.mono hz
  g := hE.g
  bs := by obtain ⟨p, h1, h2⟩ := hE.bs; exact ⟨p, (s _ hE.g.1).trans h1, h2.stab s⟩
  bc := (s _ hE.g.2.1).trans hE.bc
  be := by obtain ⟨p, h1, h2⟩ := hE.be; exact ⟨p, (s _ hE.g.2.2.1).trans h1, h2.stab s⟩
  bl := by obtain ⟨p, h1, h2⟩ := hE.bl; exact ⟨p, (s _ hE.g.2.2.2.1).trans h1, h2.stab s⟩
  bu := by obtain ⟨p, h1, h2⟩ := hE.bu; exact ⟨p, (s _ hE.g.2.2.2.2.1).trans h1, h2.stab s⟩
  bp := (s _ hE.g.2.2.2.2.2).trans hE.bp
end
theorem cPKey_one (G : Nat → Prop) (h : Heap) (c : List Value) (k : KeyD) (hc : cPKey G h c k) : c.all (fun u => u.oneCell') = true := by
  obtain ⟨sv, vv, rfl, h1, h2⟩ := hc
  obtain ⟨_, _, rfl⟩ := h1.form2
  obtain ⟨_, _, rfl⟩ := h2.form2
  rfl

theorem c_Empty (χ : Chi) (h : Heap) (b o : Nat) (a : Option Addr) (n cc : Nat) (hc : cellH h b (o + 2) = some (.slice a n cc)) :
    Cl Try.prog χ 92 #[.pointer (some ⟨b, o, none⟩)] h (fun r h' => r = .bool (decide ((n : Int) = 0)) ∧ h' = h) := by
  refine cl_intro Try.func92 rfl rfl rfl ?_
  have K : Keep [] h h := Keep.refl _ _
  refine tr_seq ?_
  refine tr_reg ?_
  refine rs_v (v_assign rfl) rfl ?_
  refine rs_nil ?_
  refine q_thn ?_
  refine tr_seq ?_
  refine tr_reg ?_
  refine rs_v (v_move rfl) rfl ?_
  refine rs_v (v_peq u_p_keyspan_Span rfl rfl) rfl ?_
  refine rs_v (v_move rfl) rfl ?_
  refine rs_gv rfl (rfl) (v_move rfl) rfl ?_
  refine rs_gv rfl (rfl) (v_nilCheck_ptr rfl) rfl ?_
  refine rs_gv rfl (rfl) (v_fieldAddr fa_keyspan_Span_2 rfl) rfl ?_
  refine rs_gv rfl (rfl) (v_load one_sl_keyspan_Key rfl (by exact hc)) rfl ?_
  refine rs_gv rfl (rfl) (v_len u_sl_keyspan_Key rfl) rfl ?_
  refine rs_gv rfl (rfl) (v_eq rfl rfl) rfl ?_
  refine rs_v (v_pick_f rfl rfl) rfl ?_
  refine rs_v (v_assign rfl) rfl ?_
  refine rs_nil ?_
  refine q_thn ?_
  refine tr_ret ?_
  refine q_ret (res_tmp rfl rfl) ?_
  exact ⟨rfl, rfl⟩
theorem c_fnT (χ : Chi) (h : Heap) (Fin : Nat → Prop) (hlow : Low Fin h) (s : SpanD) (bi oi : Nat) (hin : PSpan Fin h bi oi s) (hbi : Fin bi) (c : Nat) (x0 x1 x2 sv0 ev0 kv0 : Value) (kk : Int) (Bc : Blk h c [x0, x1, x2, sv0, ev0, kv0, .int .i8 0] 185)
    (hcF : ¬ Fin c) (n0 : Nat) (xs0 : List Value) (O : Own h 0 130 3 kv0 n0 xs0) (bst bcm ben blo bup bpn : Nat) (st en : Option ByteArray) (lo up : ByteArray) (G : Nat → Prop) (hE : EnvT bst bcm ben blo bup bpn st en lo up G h)
    (hob0 : ∀ x, x ∈ kv0.ownBlock.toList → x ≠ c ∧ ¬ Fin x ∧ ¬ G x) (hcG : ¬ G c) (hn : s.ks.length ≤ 100000) (hne : s.ks ≠ []) (hen : en ≠ some s.s) :
    Cl Try.prog χ 91 #[.pointer (some ⟨bi, oi, none⟩), .pointer (some ⟨c, 3, none⟩), .pointer (some ⟨bst, 0, none⟩), .pointer (some ⟨bcm, 0, none⟩), .pointer (some ⟨ben, 0, none⟩), .pointer (some ⟨blo, 0, none⟩), .pointer (some ⟨bup, 0, none⟩), .pointer (some ⟨bpn, 0, none⟩)] h (FnPost (ffT st en lo up) s (fun b => Fin b ∨ G b) c x0 x1 x2 kk kv0.ownBlock.toList h) := by
  obtain ⟨a0, c0, rfl⟩ := Own.form3 O
  obtain ⟨sv1, ev1, kv1, kk1, hcell, r1, r2, r3⟩ := hin
  obtain ⟨as1, cs1, rfl⟩ := r1.form2
  obtain ⟨ae1, ce1, rfl⟩ := r2.form2
  obtain ⟨hlen, a, cc, rfl, hx⟩ := r3.form
  rcases hx with hx | ⟨b, o, rfl, hAb, hR⟩
  · exact absurd hx hne
  have hbc : bi ≠ c := fun e => hcF (e ▸ hbi)
  have hFX : ∀ b, Fin b → b ∉ (c :: (Value.slice a0 n0 c0).ownBlock.toList) := fun b hb hm => by
    rcases List.mem_cons.1 hm with e | e
    · subst e; exact hcF hb
    · exact (hob0 b e).2.1 hb
  have hGX : ∀ b, G b → b ∉ (c :: (Value.slice a0 n0 c0).ownBlock.toList) := fun b hb hm => by
    rcases List.mem_cons.1 hm with e | e
    · subst e; exact hcG hb
    · exact (hob0 b e).2.2 hb
  have hclt := Bc.lt
  refine cl_intro Try.func91 rfl rfl rfl ?_
  have K : Keep (c :: (Value.slice a0 n0 c0).ownBlock.toList) h h := Keep.refl _ _
  refine tr_seq ?_
  refine tr_reg ?_
  refine rs_v (v_assign rfl) rfl ?_
  refine rs_nil ?_
  refine q_thn ?_
  refine tr_seq ?_
  refine tr_draw [(true, 13), (false, 3)] _ (by kernel_rfl) (by kernel_rfl) (by kernel_rfl) ?_
  refine rx_any (KeepB c [x0, x1, x2, .slice as1 s.s.data.toList.length cs1, ev0, .slice a0 n0 c0, .int .i8 0] 185) (keepB_pre _ _ _) ?_
  refine rm_v (keepB_pre _ _ _) (fun h' hk => v_move rfl) ?_
  refine rm_v (keepB_pre _ _ _) (fun h' hk => v_move rfl) ?_
  refine rm_v (keepB_pre _ _ _) (fun h' hk => v_move rfl) ?_
  refine rm_v (keepB_pre _ _ _) (fun h' hk => v_nilCheck_ptr rfl) ?_
  refine rm_v (keepB_pre _ _ _) (fun h' hk => v_fieldAddr fa_keyspan_Span_0 rfl) ?_
  refine rm_v (keepB_pre _ _ _) (fun h' hk => v_load one_sl_uint8 rfl ((hk.1.cells (by simpa using hbc) hcell).at 0 rfl)) ?_
  refine rm_v (keepB_pre _ _ _) (fun h' hk => v_move rfl) ?_
  refine rm_v (keepB_pre _ _ _) (fun h' hk => v_nilCheck_ptr rfl) ?_
  refine rm_v (keepB_pre _ _ _) (fun h' hk => v_fieldAddr fa_keyspan_Span_1 rfl) ?_
  refine rm_v (keepB_pre _ _ _) (fun h' hk => v_load one_sl_uint8 rfl ((hk.1.cells (by simpa using hbc) hcell).at 1 rfl)) ?_
  refine rm_v (keepB_pre _ _ _) (fun h' hk => v_nilCheck_ptr rfl) ?_
  refine rm_v (keepB_pre _ _ _) (fun h' hk => v_fieldAddr fa_keyspan_Span_0 rfl) ?_
  refine rm_w0 _ keepB_stab (fun h' hk => w_putB siz_sl_uint8 rfl rfl rfl rfl Bc hk rfl rfl rfl rfl) ?_
  refine rm_end ?_; intro ha Ka; simp only [endM, hypF, ofE, argE, List.nil_append]; intro Bc
  have K := K.new1 Ka.1 (by left; simp); have Za := Ka.1.1
  have O := O.keep2 Ka.1 (fun x hx hm => (hob0 x hx).1 (by simpa using hm))
  refine rx_seq ?_
  refine rs_v (v_nilCheck_ptr rfl) rfl ?_
  refine rs_v (v_fieldAddr fa_keyspan_Span_1 rfl) rfl ?_
  refine rs_w0 (w_put siz_sl_uint8 rfl rfl rfl rfl Bc rfl) ?_
  rintro _ h1 ⟨B1, K1⟩
  have Bc := B1; have K := K.new1 K1 (by left; simp); have Z1 := K1.1
  have O := O.keep2 K1 (fun x hx hm => (hob0 x hx).1 (by simpa using hm))
  refine rs_nil ?_
  refine q_con ?_
  refine rx_nil ?_
  refine q_thn ?_
  refine tr_seq ?_
  have O0 := Own.cut0 O
  have hcell1 := K.cells (hFX _ hbi) hcell
  obtain ⟨news, hnc, hnr⟩ := rows_of (sz := 3) (R := cPKey Fin h) (fun i x hi => by
    obtain ⟨sv9, vv9, g1, g2, g3⟩ := hR i x hi
    exact ⟨_, rfl, K.cells (hFX _ hAb) g1, sv9, vv9, rfl, g2, g3⟩) (by omega)
  have hn1 := hnr.all1 (fun c k hc => cPKey_one _ _ c k hc)
  have hnl := hnr.len
  refine tr_draw [(true, 11), (false, 3)] _ (by kernel_rfl) (by kernel_rfl) (by kernel_rfl) ?_
  refine rx_one 10 ?_
  refine re_a rfl (fun h' => v_move rfl) ?_
  refine re_v rfl (by kernel_rfl) (v_move rfl) ?_
  refine re_v rfl (by kernel_rfl) (v_nilCheck_ptr rfl) ?_
  refine re_v rfl (by kernel_rfl) (v_fieldAddr fa_keyspan_Span_2 rfl) ?_
  refine re_v rfl (by kernel_rfl) (v_load one_sl_keyspan_Key rfl (Bc.cell _ rfl)) ?_
  refine re_v rfl (by kernel_rfl) (v_slice_h u_sl_keyspan_Key siz_keyspan_Key (i := 0) rfl rfl rfl (by omega)) ?_
  refine re_v rfl (by kernel_rfl) (v_move rfl) ?_
  refine re_v rfl (by kernel_rfl) (v_nilCheck_ptr rfl) ?_
  refine re_v rfl (by kernel_rfl) (v_fieldAddr fa_keyspan_Span_2 rfl) ?_
  refine re_v rfl (by kernel_rfl) (v_load one_sl_keyspan_Key rfl (hcell1.at 2 rfl)) ?_
  refine re_w _ rfl (w_appN u_sl_keyspan_Key info_keyspan_Key rfl rfl rfl O0 rfl hnl hnc hn1 (by omega) (by omega) (by omega)) ?_
  refine re_end ?_; intro hb _; simp only [endM, hypF, ofE, argE, List.nil_append]; rintro v38 ⟨O, Kb, Fb⟩
  obtain ⟨a9, c9, rfl⟩ := Own.form3 O
  rw [own_block0 (a := a0) (m := 0) (m2 := n0) (c2 := c0)] at Kb Fb
  have hclt1 := Bc.lt
  have Bc := Kb.blk (fun hm => (hob0 c hm).1 rfl) Bc
  have hK1 := K.1
  have K := K.newX Kb (fun x hm => .inl (List.mem_cons_of_mem _ hm)); have Zb := Kb.1
  have hfc : ∀ x, x ∈ (Value.slice a9 (0 + s.ks.length) c9).ownBlock.toList → (x ∈ (Value.slice a0 n0 c0).ownBlock.toList ∨ h.size ≤ x) ∧ x ≠ c := fun x hx => by
    rcases Fb with e | e
    · rw [e] at hx; exact ⟨.inl hx, (hob0 x hx).1⟩
    · rw [e] at hx; simp at hx; exact ⟨.inr (by omega), by omega⟩
  refine rx_seq ?_
  refine rs_v (v_nilCheck_ptr rfl) rfl ?_
  refine rs_v (v_fieldAddr fa_keyspan_Span_2 rfl) rfl ?_
  refine rs_w0 (w_put siz_sl_keyspan_Key rfl rfl rfl rfl Bc rfl) ?_
  rintro _ h2 ⟨B2, K2⟩
  have Bc := B2; have K := K.new1 K2 (by left; simp); have Z2 := K2.1
  have O := O.keep2 K2 (fun x hx hm => (hfc x hx).2 (by simpa using hm))
  rw [Nat.zero_add s.ks.length] at O hfc Bc
  have hSF : Stab Fin h h2 := K.stab fun b hb => ⟨hlow b hb, hFX b hb⟩
  have hFc : ∀ b, Fin b → b < (h2).size ∧ b ∉ [c] := fun b hb => ⟨Nat.lt_of_lt_of_le (hlow b hb) K.1, fun hm => hcF (by rw [List.mem_singleton] at hm; rw [← hm]; exact hb)⟩
  have hGc : ∀ b, G b → b < (h2).size ∧ b ∉ [c] := fun b hb => ⟨Nat.lt_of_lt_of_le (hE.low b hb) K.1, fun hm => hcG (by rw [List.mem_singleton] at hm; rw [← hm]; exact hb)⟩
  have hFGc : ∀ b, (Fin b ∨ G b) → b < (h2).size ∧ b ∉ [c] := fun b hb => hb.elim (hFc b) (hGc b)
  have hE2 := hE.stab (K.stab fun b hb => ⟨hE.low b hb, hGX b hb⟩) K.1
  have hg := hE.g
  obtain ⟨ps, BS, hps⟩ := hE2.bs
  obtain ⟨pe, BE, hpe⟩ := hE2.be
  obtain ⟨vl, BL, hvl⟩ := hE2.bl
  obtain ⟨vu, BU, hvu⟩ := hE2.bu
  have BC := hE2.bc
  have BP := hE2.bp
  obtain ⟨al, cl, rfl⟩ := hvl.form2
  obtain ⟨au, cu, rfl⟩ := hvu.form2
  have hcell2 := K.cells (hFX _ hbi) hcell
  have q1 := r1.stab hSF
  have q2 := r2.stab hSF
  refine rs_nil ?_
  refine q_con ?_
  refine rx_nil ?_
  refine q_thn ?_
  refine tr_seq ?_
  refine tr_cut (fun E h' => h2 = h' ∧ E = [(0, .pointer (some ⟨bi, oi, none⟩)), (1, .pointer (some ⟨c, 3, none⟩)), (2, .pointer (some ⟨bst, 0, none⟩)), (3, .pointer (some ⟨bcm, 0, none⟩)), (4, .pointer (some ⟨ben, 0, none⟩)), (5, .pointer (some ⟨blo, 0, none⟩)), (6, .pointer (some ⟨bup, 0, none⟩)), (7, .pointer (some ⟨bpn, 0, none⟩)), (55, .bool (stB st s))]) ?_ ?_
  ·
    rcases st with _ | k
    · have hps0 : ps = none := hps
      subst hps0
      refine tr_quiet (by kernel_rfl) (by kernel_rfl) ?_
      refine rq_v (v_load one_p_base_InternalKey rfl (by exact BS.cell _ rfl)) ?_
      refine rq_v (v_pne u_p_base_InternalKey rfl rfl) ?_
      refine rq_v (v_move rfl) ?_
      refine rm_gs same_pre rfl rfl rfl ?_
      refine rm_gs same_pre rfl rfl rfl ?_
      refine rm_gs same_pre rfl rfl rfl ?_
      refine rm_gs same_pre rfl rfl rfl ?_
      refine rm_gs same_pre rfl rfl rfl ?_
      refine rm_gs same_pre rfl rfl rfl ?_
      refine rm_gs same_pre rfl rfl rfl ?_
      refine rm_gs same_pre rfl rfl rfl ?_
      refine rm_gs same_pre rfl rfl rfl ?_
      refine rm_gs same_pre rfl rfl rfl ?_
      refine rm_gs same_pre rfl rfl rfl ?_
      refine rq_v (v_pick_f rfl rfl) ?_
      refine rm_end ?_; simp only [endM, hypF, ofE, argE]
      exact q_cut [(0, _), (1, _), (2, _), (3, _), (4, _), (5, _), (6, _), (7, _), (55, _)] ⟨rfl, rfl, rfl, rfl, rfl, rfl, rfl, rfl, rfl, trivial⟩ ⟨rfl, rfl⟩
    · obtain ⟨bk, ok, kvk, trk, rfl, hgk, hck, hrk⟩ := hps
      refine tr_quiet (by kernel_rfl) (by kernel_rfl) ?_
      refine rq_v (v_load one_p_base_InternalKey rfl (by exact BS.cell _ rfl)) ?_
      refine rq_v (v_pne u_p_base_InternalKey rfl rfl) ?_
      refine rq_v (v_move rfl) ?_
      refine rq_gv rfl rfl (v_load one_base_Compare rfl (by exact BC.cell _ rfl)) ?_
      refine rq_gv rfl rfl (v_move rfl) ?_
      refine rq_gv rfl rfl (v_nilCheck_ptr rfl) ?_
      refine rq_gv rfl rfl (v_fieldAddr fa_keyspan_Span_1 rfl) ?_
      refine rq_gv rfl rfl (v_load one_sl_uint8 rfl (by exact hcell2.at 1 rfl)) ?_
      refine rq_gv rfl rfl (v_load one_p_base_InternalKey rfl (by exact BS.cell _ rfl)) ?_
      refine rq_gv rfl rfl (v_nilCheck_ptr rfl) ?_
      refine rq_gv rfl rfl (v_fieldAddr fa_base_InternalKey_0 rfl) ?_
      refine rq_gv rfl rfl (v_load one_sl_uint8 rfl (by exact hck.at 0 rfl)) ?_
      refine rq_gw rfl rfl (w_callv (first := []) (cap := []) (vs := [_, _]) ok_bytes_Compare rfl ⟨rfl, rfl, trivial⟩ (c_Compare χ _ _ _ s.e k (RBytes.by q2) (RBytes.by hrk))) ?_
      refine rq_gv rfl rfl (v_le rfl rfl) ?_
      refine rq_v (v_pick_t rfl rfl) ?_
      refine rm_end ?_; simp only [endM, hypF, ofE, argE]
      refine q_cut [(0, _), (1, _), (2, _), (3, _), (4, _), (5, _), (6, _), (7, _), (55, _)] ⟨rfl, rfl, rfl, rfl, rfl, rfl, rfl, rfl, rfl, trivial⟩ ⟨rfl, ?_⟩
      rw [show stB (some k) s = decide (cmpB s.e k ≤ 0) from sle_cmp _ _]
  rintro E h9 ⟨hh, rfl⟩
  subst hh
  refine tr_if rfl (fun hif => ?_) (fun hif => ?_)
  · -- yes
    skip
    refine tr_seq ?_
    refine tr_reg ?_
    refine rs_v (v_assign rfl) rfl ?_
    refine rs_nil ?_
    refine q_thn ?_
    refine tr_ret ?_
    refine q_thn_ret ?_
    refine q_ret (res_tmp rfl rfl) ?_
    have hnone : ffT st en lo up s = none := by simp [ffT, hif]
    exact ⟨by rw [hnone]; rfl, _, _, _, _, _, Bc, O, K, hfc, fun s' hs' => by rw [hnone] at hs'; cases hs'⟩
  -- no
  have hst0 := hif
  refine tr_skip ?_
  refine q_thn ?_
  refine tr_cut (fun E h' => h2 = h' ∧ enB en s = false ∧ E = [(0, .pointer (some ⟨bi, oi, none⟩)), (1, .pointer (some ⟨c, 3, none⟩)), (2, .pointer (some ⟨bst, 0, none⟩)), (3, .pointer (some ⟨bcm, 0, none⟩)), (4, .pointer (some ⟨ben, 0, none⟩)), (5, .pointer (some ⟨blo, 0, none⟩)), (6, .pointer (some ⟨bup, 0, none⟩)), (7, .pointer (some ⟨bpn, 0, none⟩))]) ?_ ?_
  ·
    refine tr_seq ?_
    refine tr_reg ?_
    refine rs_v (v_load one_p_base_InternalKey rfl (by exact BE.cell _ rfl)) rfl ?_
    refine rs_v (v_pne u_p_base_InternalKey rfl rfl) rfl ?_
    refine rs_nil ?_
    refine q_thn ?_
    refine tr_if rfl (fun hif => ?_) (fun hif => ?_)
    · -- yes
      rcases en with _ | ke
      · have hpe0 : pe = none := hpe
        subst hpe0; cases hif
      obtain ⟨bk, ok, kvk, trk, rfl, hgk, hck, hrk⟩ := hpe
      refine tr_seq ?_
      refine tr_quiet (by kernel_rfl) (by kernel_rfl) ?_
      refine rq_v (v_load one_base_Compare rfl (by exact BC.cell _ rfl)) ?_
      refine rq_v (v_move rfl) ?_
      refine rq_v (v_nilCheck_ptr rfl) ?_
      refine rq_v (v_fieldAddr fa_keyspan_Span_0 rfl) ?_
      refine rq_v (v_load one_sl_uint8 rfl (by exact hcell2.at 0 rfl)) ?_
      refine rq_v (v_load one_p_base_InternalKey rfl (by exact BE.cell _ rfl)) ?_
      refine rq_v (v_nilCheck_ptr rfl) ?_
      refine rq_v (v_fieldAddr fa_base_InternalKey_0 rfl) ?_
      refine rq_v (v_load one_sl_uint8 rfl (by exact hck.at 0 rfl)) ?_
      refine rq_w (w_callv (first := []) (cap := []) (vs := [_, _]) ok_bytes_Compare rfl ⟨rfl, rfl, trivial⟩ (c_Compare χ _ _ _ s.s ke (RBytes.by q1) (RBytes.by hrk))) ?_
      refine rq_v (v_assign rfl) ?_
      refine rm_end ?_; simp only [endM, hypF, ofE, argE]
      refine q_thn ?_
      refine tr_block ?_
      refine tr_seq ?_
      refine tr_reg ?_
      refine rs_v (v_move rfl) rfl ?_
      refine rs_v (v_gt rfl rfl) rfl ?_
      refine rs_v (v_assign rfl) rfl ?_
      refine rs_nil ?_
      refine q_thn ?_
      refine tr_if rfl (fun hif => ?_) (fun hif => ?_)
      · -- yes
        have h9 : enB (some ke) s = true := by
          simp only [enB]
          rw [slt_cmp, cmpB_anti s.s ke]
          have := of_decide_eq_true hif
          simp; omega
        refine tr_seq ?_
        refine tr_reg ?_
        refine rs_v (v_assign rfl) rfl ?_
        refine rs_nil ?_
        refine q_thn ?_
        refine tr_ret ?_
        refine q_blk_ret ?_
        refine q_cut_ret ?_
        refine q_ret (res_tmp rfl rfl) ?_
        have hnone : ffT st (some ke) lo up s = none := by simp [ffT, h9]
        exact ⟨by rw [hnone]; rfl, _, _, _, _, _, Bc, O, K, hfc, fun s' hs' => by rw [hnone] at hs'; cases hs'⟩
      -- no
      have hgt := hif
      have hne0 : ¬ cmpB s.s ke = 0 := fun e => hen (by rw [show s.s = ke from seq'_eq.1 (by rw [seq_cmp]; exact decide_eq_true e)])
      refine tr_seq ?_
      refine tr_reg ?_
      refine rs_v (v_move rfl) rfl ?_
      refine rs_v (v_eq rfl rfl) rfl ?_
      refine rs_v (v_assign rfl) rfl ?_
      refine rs_nil ?_
      refine q_thn ?_
      refine tr_if_f (lkb (decide_eq_false hne0)) ?_
      refine tr_skip ?_
      refine q_blk_n ?_
      exact q_cut [(0, _), (1, _), (2, _), (3, _), (4, _), (5, _), (6, _), (7, _)] ⟨rfl, rfl, rfl, rfl, rfl, rfl, rfl, rfl, trivial⟩ ⟨rfl, by have := of_decide_eq_false hgt; simp only [enB]; rw [slt_cmp, cmpB_anti s.s ke]; simp; omega, rfl⟩
    -- no
    rcases en with _ | ke
    rotate_left
    · obtain ⟨bk, ok, kvk, trk, rfl, hgk, hck, hrk⟩ := hpe
      cases hif
    refine tr_skip ?_
    exact q_cut [(0, _), (1, _), (2, _), (3, _), (4, _), (5, _), (6, _), (7, _)] ⟨rfl, rfl, rfl, rfl, rfl, rfl, rfl, rfl, trivial⟩ ⟨rfl, rfl, rfl⟩
  rintro E h9 ⟨hh, hen0, rfl⟩
  subst hh
  refine tr_seq ?_
  refine tr_reg ?_
  refine rs_v (v_assign rfl) rfl ?_
  refine rs_nil ?_
  refine q_thn ?_
  refine tr_cut (fun E h' => ∃ sv sn sc, E = [(0, .pointer (some ⟨bi, oi, none⟩)), (1, .pointer (some ⟨c, 3, none⟩)), (2, .pointer (some ⟨bst, 0, none⟩)), (3, .pointer (some ⟨bcm, 0, none⟩)), (4, .pointer (some ⟨ben, 0, none⟩)), (5, .pointer (some ⟨blo, 0, none⟩)), (6, .pointer (some ⟨bup, 0, none⟩)), (7, .pointer (some ⟨bpn, 0, none⟩)), (13, .bool false)] ∧ Blk h' c [x0, x1, x2, .slice sv sn sc, .slice ae1 s.e.data.toList.length ce1, .slice a9 s.ks.length c9, .int .i8 0] 185 ∧ Keep (c :: (Value.slice a0 n0 c0).ownBlock.toList) h h' ∧ Keep [c] h2 h' ∧ RBytes (fun b => Fin b ∨ G b) h2 (.slice sv sn sc) (cutLo lo s)) ?_ ?_
  ·
    refine tr_seq ?_
    refine tr_quiet (by kernel_rfl) (by kernel_rfl) ?_
    refine rq_v (v_load one_base_Compare rfl (by exact BC.cell _ rfl)) ?_
    refine rq_v (v_move rfl) ?_
    refine rq_v (v_nilCheck_ptr rfl) ?_
    refine rq_v (v_fieldAddr fa_keyspan_Span_0 rfl) ?_
    refine rq_v (v_load one_sl_uint8 rfl (by exact hcell2.at 0 rfl)) ?_
    refine rq_v (v_load one_sl_uint8 rfl (by exact BL.cell _ rfl)) ?_
    refine rq_w (w_callv (first := []) (cap := []) (vs := [_, _]) ok_bytes_Compare rfl ⟨rfl, rfl, trivial⟩ (c_Compare χ _ _ _ s.s lo (RBytes.by q1) (RBytes.by hvl))) ?_
    refine rq_v (v_lt rfl rfl) ?_
    refine rm_end ?_; simp only [endM, hypF, ofE, argE]
    refine q_thn ?_
    refine tr_if rfl (fun hif => ?_) (fun hif => ?_)
    · -- yes
      have hlo : slt s.s lo = true := by rw [slt_cmp]; exact hif
      refine tr_reg ?_
      refine rs_v (v_move rfl) rfl ?_
      refine rs_v (v_load one_sl_uint8 rfl (by exact BL.cell _ rfl)) rfl ?_
      refine rs_v (v_nilCheck_ptr rfl) rfl ?_
      refine rs_v (v_fieldAddr fa_keyspan_Span_0 rfl) rfl ?_
      refine rs_w0 (w_put siz_sl_uint8 rfl rfl rfl rfl Bc rfl) ?_
      rintro _ h5 ⟨B5, K5⟩
      have Bc := B5; have K := K.new1 K5 (by first | (right; omega) | (left; simp; done)); have Z5 := K5.1
      refine rs_nil ?_
      exact q_cut [(0, _), (1, _), (2, _), (3, _), (4, _), (5, _), (6, _), (7, _), (13, _)] ⟨rfl, rfl, rfl, rfl, rfl, rfl, rfl, rfl, rfl, trivial⟩ ⟨_, _, _, rfl, Bc, K, K5, by rw [show cutLo lo s = lo from if_pos hlo]; exact hvl.mono (fun b hb => .inr hb)⟩
    -- no
    have hlo : ¬ slt s.s lo = true := by rw [slt_cmp, hif]; decide
    refine tr_skip ?_
    exact q_cut [(0, _), (1, _), (2, _), (3, _), (4, _), (5, _), (6, _), (7, _), (13, _)] ⟨rfl, rfl, rfl, rfl, rfl, rfl, rfl, rfl, rfl, trivial⟩ ⟨_, _, _, rfl, Bc, K, Keep.refl _ _, by rw [show cutLo lo s = s.s from if_neg hlo]; exact q1.mono (fun b hb => .inl hb)⟩
  rintro E h17 ⟨sv, sn, sc, rfl, Bc, K, K2, hs1⟩
  have Z17 := K2.1
  have BC := K2.blk (fun hm => hcG (by rw [List.mem_singleton] at hm; rw [← hm]; exact hg.2.1)) BC
  have BU := K2.blk (fun hm => hcG (by rw [List.mem_singleton] at hm; rw [← hm]; exact hg.2.2.2.2.1)) BU
  have BP := K2.blk (fun hm => hcG (by rw [List.mem_singleton] at hm; rw [← hm]; exact hg.2.2.2.2.2)) BP
  have hcell2 := K2.cells (by simpa using hbc) hcell2
  have q2b := q2.stab (K2.stab hFc)
  have hvu2 := hvu.stab (K2.stab hGc)
  refine tr_cut (fun E h' => ∃ tb ev en' ec, E = [(0, .pointer (some ⟨bi, oi, none⟩)), (1, .pointer (some ⟨c, 3, none⟩)), (2, .pointer (some ⟨bst, 0, none⟩)), (3, .pointer (some ⟨bcm, 0, none⟩)), (4, .pointer (some ⟨ben, 0, none⟩)), (5, .pointer (some ⟨blo, 0, none⟩)), (6, .pointer (some ⟨bup, 0, none⟩)), (7, .pointer (some ⟨bpn, 0, none⟩)), (13, .bool tb)] ∧ Blk h' c [x0, x1, x2, .slice sv sn sc, .slice ev en' ec, .slice a9 s.ks.length c9, .int .i8 0] 185 ∧ Keep (c :: (Value.slice a0 n0 c0).ownBlock.toList) h h' ∧ Keep [c] h2 h' ∧ RBytes (fun b => Fin b ∨ G b) h2 (.slice ev en' ec) (cutUp up s)) ?_ ?_
  ·
    refine tr_seq ?_
    refine tr_quiet (by kernel_rfl) (by kernel_rfl) ?_
    refine rq_v (v_load one_base_Compare rfl (by exact BC.cell _ rfl)) ?_
    refine rq_v (v_move rfl) ?_
    refine rq_v (v_nilCheck_ptr rfl) ?_
    refine rq_v (v_fieldAddr fa_keyspan_Span_1 rfl) ?_
    refine rq_v (v_load one_sl_uint8 rfl (by exact hcell2.at 1 rfl)) ?_
    refine rq_v (v_load one_sl_uint8 rfl (by exact BU.cell _ rfl)) ?_
    refine rq_w (w_callv (first := []) (cap := []) (vs := [_, _]) ok_bytes_Compare rfl ⟨rfl, rfl, trivial⟩ (c_Compare χ _ _ _ s.e up (RBytes.by q2b) (RBytes.by hvu2))) ?_
    refine rq_v (v_gt rfl rfl) ?_
    refine rm_end ?_; simp only [endM, hypF, ofE, argE]
    refine q_thn ?_
    refine tr_if rfl (fun hif => ?_) (fun hif => ?_)
    · -- yes
      have hup : slt up s.e = true := by rw [slt_cmp, cmpB_anti s.e up]; exact decide_eq_true (by have := of_decide_eq_true hif; omega)
      refine tr_seq ?_
      refine tr_reg ?_
      refine rs_v (v_assign rfl) rfl ?_
      refine rs_nil ?_
      refine q_thn ?_
      refine tr_reg ?_
      refine rs_v (v_move rfl) rfl ?_
      refine rs_v (v_load one_sl_uint8 rfl (by exact BU.cell _ rfl)) rfl ?_
      refine rs_v (v_nilCheck_ptr rfl) rfl ?_
      refine rs_v (v_fieldAddr fa_keyspan_Span_1 rfl) rfl ?_
      refine rs_w0 (w_put siz_sl_uint8 rfl rfl rfl rfl Bc rfl) ?_
      rintro _ h7 ⟨B7, K7⟩
      have Bc := B7; have K := K.new1 K7 (by first | (right; omega) | (left; simp; done)); have Z7 := K7.1
      refine rs_nil ?_
      exact q_cut [(0, _), (1, _), (2, _), (3, _), (4, _), (5, _), (6, _), (7, _), (13, _)] ⟨rfl, rfl, rfl, rfl, rfl, rfl, rfl, rfl, rfl, trivial⟩ ⟨_, _, _, _, rfl, Bc, K, K2.trans K7, by rw [show cutUp up s = up from if_pos hup]; exact hvu.mono (fun b hb => .inr hb)⟩
    -- no
    have hup : ¬ slt up s.e = true := by rw [slt_cmp, cmpB_anti s.e up]; have := of_decide_eq_false hif; simp; omega
    refine tr_skip ?_
    exact q_cut [(0, _), (1, _), (2, _), (3, _), (4, _), (5, _), (6, _), (7, _), (13, _)] ⟨rfl, rfl, rfl, rfl, rfl, rfl, rfl, rfl, rfl, trivial⟩ ⟨_, _, _, _, rfl, Bc, K, K2, by rw [show cutUp up s = s.e from if_neg hup]; exact q2.mono (fun b hb => .inl hb)⟩
  rintro E h19 ⟨tb, ev, en9, ec, rfl, Bc, K, K2, hs2⟩
  have Z19 := K2.1
  have BC := hE2.bc
  have BP := hE2.bp
  have BC := K2.blk (fun hm => hcG (by rw [List.mem_singleton] at hm; rw [← hm]; exact hg.2.1)) BC
  have BP := K2.blk (fun hm => hcG (by rw [List.mem_singleton] at hm; rw [← hm]; exact hg.2.2.2.2.2)) BP
  have O := O.keep2 K2 (fun x hx hm => (hfc x hx).2 (by simpa using hm))
  have SFG := K2.stab hFGc
  have hs1 := hs1.stab SFG
  have hs2 := hs2.stab SFG
  have g1 : (!decide ((s.ks.length : Int) = 0)) = true := by have := List.length_pos_iff.2 hne; simp; omega
  refine tr_seq ?_
  refine tr_seq ?_
  refine tr_reg ?_
  refine rs_v (v_load one_bool rfl (by exact BP.cell _ rfl)) rfl ?_
  refine rs_v (v_move rfl) rfl ?_
  refine rs_gs rfl (rfl) rfl rfl ?_
  refine rs_v (v_pick_f rfl rfl) rfl ?_
  refine rs_nil ?_
  refine q_thn ?_
  refine tr_if_f rfl ?_
  refine tr_skip ?_
  refine q_thn ?_
  refine tr_seq ?_
  refine tr_quiet (by kernel_rfl) (by kernel_rfl) ?_
  refine rq_v (v_move rfl) ?_
  refine rq_w (w_call (vs := [_]) ok_keyspan_Span_Empty rfl ⟨rfl, trivial⟩ (c_Empty χ _ c 3 a9 s.ks.length c9 (Bc.cell _ rfl))) ?_
  refine rq_v (v_not rfl) ?_
  refine rq_v (v_move rfl) ?_
  refine rq_gv rfl (lkm g1) (v_load one_base_Compare rfl (by exact BC.cell _ rfl)) ?_
  refine rq_gv rfl (lkm g1) (v_move rfl) ?_
  refine rq_gv rfl (lkm g1) (v_nilCheck_ptr rfl) ?_
  refine rq_gv rfl (lkm g1) (v_fieldAddr fa_keyspan_Span_0 rfl) ?_
  refine rq_gv rfl (lkm g1) (v_load one_sl_uint8 rfl (by exact Bc.cell _ rfl)) ?_
  refine rq_gv rfl (lkm g1) (v_move rfl) ?_
  refine rq_gv rfl (lkm g1) (v_nilCheck_ptr rfl) ?_
  refine rq_gv rfl (lkm g1) (v_fieldAddr fa_keyspan_Span_1 rfl) ?_
  refine rq_gv rfl (lkm g1) (v_load one_sl_uint8 rfl (by exact Bc.cell _ rfl)) ?_
  refine rq_gw rfl (lkm g1) (w_callv (first := []) (cap := []) (vs := [_, _]) ok_bytes_Compare rfl ⟨rfl, rfl, trivial⟩ (c_Compare χ _ _ _ (cutLo lo s) (cutUp up s) (RBytes.by hs1) (RBytes.by hs2))) ?_
  refine rq_gv rfl (lkm g1) (v_lt rfl rfl) ?_
  refine rq_v (v_pick_t (lkb g1) rfl) ?_
  refine rq_v (v_assign rfl) ?_
  refine rm_end ?_; simp only [endM, hypF, ofE, argE]
  refine q_thn ?_
  refine tr_ret ?_
  refine q_ret (res_tmp rfl rfl) ?_
  have hsl := slt_cmp (cutLo lo s) (cutUp up s)
  refine ⟨?_, _, _, _, _, _, Bc, O, K, hfc, fun s' hs' => ?_⟩
  · rw [← hsl]; unfold ffT; rw [hst0, hen0]
    cases slt (cutLo lo s) (cutUp up s) <;> rfl
  · unfold ffT at hs'; rw [hst0, hen0] at hs'
    simp only [Bool.false_eq_true, if_false] at hs'
    split at hs'
    · cases hs'
      exact ⟨hs1, hs2, rfl, hnr.mono fun c a hr => cPKey_st.stab _ _ _ _ _ SFG (cPKey_st.mono _ _ _ _ _ (fun b hb => .inl hb) (cPKey_st.stab _ _ _ _ _ hSF hr))⟩
    · cases hs'
end Go.Proofs.Ytgebfbnndgjkiaa
namespace Go.Proofs.Ytgebfbnndgjkiaa
open Go.Tess Go.RowKit
set_option maxRecDepth 100000
set_option maxHeartbeats 1000000
theorem ffT_plain (lo up : ByteArray) (s : SpanD) : ffT none none lo up s = if slt (cutLo lo s) (cutUp up s) then some ⟨cutLo lo s, cutUp up s, s.ks⟩ else none := by simp [ffT, stB, enB]
end Go.Proofs.Ytgebfbnndgjkiaa
namespace Go.Proofs.Ytgebfbnndgjkiaa
open Go.Tess Go.RowKit
set_option maxRecDepth 100000
set_option maxHeartbeats 1000000
theorem cutLo_ge (lo : ByteArray) (s : SpanD) : sle s.s (cutLo lo s) = true := by
  unfold cutLo
  split
  · rename_i h; exact slt_sle h
  · exact sle_refl _
theorem cutUp_le (up : ByteArray) (s : SpanD) : sle (cutUp up s) s.e = true := by
  unfold cutUp
  split
  · rename_i h; exact slt_sle h
  · exact sle_refl _
theorem ffT_some {st en : Option ByteArray} {lo up : ByteArray} {s s' : SpanD} (h : ffT st en lo up s = some s') : slt (cutLo lo s) (cutUp up s) = true ∧ s' = ⟨cutLo lo s, cutUp up s, s.ks⟩ := by
  unfold ffT at h
  split at h
  · cases h
  split at h
  · cases h
  split at h
  · rename_i hlt; cases h; exact ⟨hlt, rfl⟩
  · cases h
theorem ffT_shrink (st en : Option ByteArray) (lo up : ByteArray) (W : List SpanD) : Shrink (ffT st en lo up) W := fun s s' _ hf => by
  obtain ⟨h1, rfl⟩ := ffT_some hf
  exact ⟨cutLo_ge lo s, h1, cutUp_le up s⟩
theorem ffT_len {st en : Option ByteArray} {lo up : ByteArray} {W : List SpanD} (hm : ∀ s, s ∈ W → s.ks.length ≤ 100000) : ∀ s, s ∈ W.filterMap (ffT st en lo up) → s.ks.length ≤ 100000 := by
  intro s hs
  obtain ⟨x, hx, hf⟩ := List.mem_filterMap.1 hs
  obtain ⟨_, rfl⟩ := ffT_some hf
  exact hm x hx
def fnTv (bst bcm ben blo bup bpn : Nat) : Value := .func (.func 91) #[] #[.pointer (some ⟨bst, 0, none⟩), .pointer (some ⟨bcm, 0, none⟩), .pointer (some ⟨ben, 0, none⟩), .pointer (some ⟨blo, 0, none⟩), .pointer (some ⟨bup, 0, none⟩), .pointer (some ⟨bpn, 0, none⟩)]
theorem fnT_ok (χ : Chi) (W : List SpanD) (bst bcm ben blo bup bpn : Nat) (st en : Option ByteArray) (lo up : ByteArray) (G : Nat → Prop) (hWn : ∀ s, s ∈ W → s.ks.length ≤ 100000 ∧ s.ks ≠ [] ∧ en ≠ some s.s) :
    FnOK χ W (ffT st en lo up) (fnTv bst bcm ben blo bup bpn) G (EnvT bst bcm ben blo bup bpn st en lo up G) where
  form := ⟨_, [.pointer (some ⟨bst, 0, none⟩), .pointer (some ⟨bcm, 0, none⟩), .pointer (some ⟨ben, 0, none⟩), .pointer (some ⟨blo, 0, none⟩), .pointer (some ⟨bup, 0, none⟩), .pointer (some ⟨bpn, 0, none⟩)], rfl, ok_keyspan_Truncate_c1, fun h Fin s bi oi c x0 x1 x2 sv0 ev0 kv0 kk n0 xs0 hl hin hbi B hcF O hx hE hg hmem =>
    c_fnT χ h Fin hl s bi oi hin hbi c x0 x1 x2 sv0 ev0 kv0 kk B hcF n0 xs0 O bst bcm ben blo bup bpn st en lo up G hE hx hg (hWn s hmem).1 (hWn s hmem).2.1 (hWn s hmem).2.2⟩
  low := fun hE => hE.low
  stab := fun hE hs hz => hE.stab hs hz

theorem c_Truncate (χ : Chi) (h : Heap) (t : TypeId) (v0 : Value) (al au : Option Addr) (nl cl nu cu : Nat) (ps pe : Option Addr) :
    Cl Try.prog χ 70 #[cmpF, .iface t v0, .slice al nl cl, .slice au nu cu, .pointer ps, .pointer pe, .bool false] h
      (fun r h' => ∃ b0 b1 b2 b3 b4 b5 c, h.size ≤ b0 ∧ b0 < b1 ∧ b1 < b2 ∧ b2 < b3 ∧ b3 < b4 ∧ b4 < b5 ∧ b5 < c ∧ r = .iface 183 (.pointer (some ⟨c, 0, none⟩)) ∧
        Blk h' c [.iface t v0, fnTv b3 b0 b4 b1 b2 b5, cmpF, .slice none 0 0, .slice none 0 0, .slice none 0 0, .int .i8 0] 185 ∧
        Blk h' b0 [cmpF] 104 ∧ Blk h' b1 [.slice al nl cl] 123 ∧ Blk h' b2 [.slice au nu cu] 123 ∧ Blk h' b3 [.pointer ps] 171 ∧ Blk h' b4 [.pointer pe] 171 ∧ Blk h' b5 [.bool false] 4 ∧ Keep [] h h') := by
  unfold cmpF
  refine cl_intro Try.func70 rfl rfl rfl ?_
  have K : Keep [] h h := Keep.refl _ _
  refine tr_seq ?_
  refine tr_reg ?_
  refine rs_w (w_newbox rfl) rfl ?_
  rintro _ h1 ⟨rfl, B1, K1, Z1⟩
  have S1 := K.1; have K := K.new0 K1
  refine rs_w (w_newbox rfl) rfl ?_
  rintro _ h2 ⟨rfl, B2, K2, Z2⟩
  have B1 := K2.blk (by simp) B1
  have S2 := K.1; have K := K.new0 K2
  refine rs_w (w_newbox rfl) rfl ?_
  rintro _ h3 ⟨rfl, B3, K3, Z3⟩
  have B1 := K3.blk (by simp) B1
  have B2 := K3.blk (by simp) B2
  have S3 := K.1; have K := K.new0 K3
  refine rs_w (w_newbox rfl) rfl ?_
  rintro _ h4 ⟨rfl, B4, K4, Z4⟩
  have B1 := K4.blk (by simp) B1
  have B2 := K4.blk (by simp) B2
  have B3 := K4.blk (by simp) B3
  have S4 := K.1; have K := K.new0 K4
  refine rs_w (w_newbox rfl) rfl ?_
  rintro _ h5 ⟨rfl, B5, K5, Z5⟩
  have B1 := K5.blk (by simp) B1
  have B2 := K5.blk (by simp) B2
  have B3 := K5.blk (by simp) B3
  have B4 := K5.blk (by simp) B4
  have S5 := K.1; have K := K.new0 K5
  refine rs_w (w_newbox rfl) rfl ?_
  rintro _ h6 ⟨rfl, B6, K6, Z6⟩
  have B1 := K6.blk (by simp) B1
  have B2 := K6.blk (by simp) B2
  have B3 := K6.blk (by simp) B3
  have B4 := K6.blk (by simp) B4
  have B5 := K6.blk (by simp) B5
  have S6 := K.1; have K := K.new0 K6
  refine rs_v (v_assign rfl) rfl ?_
  refine rs_nil ?_
  refine q_thn ?_
  refine tr_seq ?_
  refine tr_reg ?_
  refine rs_v (v_move rfl) rfl ?_
  refine rs_v (v_makeFunc (vs := [_, _, _, _, _, _]) ⟨rfl, rfl, rfl, rfl, rfl, rfl, trivial⟩) rfl ?_
  refine rs_v (v_load one_base_Compare rfl (by exact B1.cell _ rfl)) rfl ?_
  refine rs_w (w_call (vs := [_, _, _]) ok_keyspan_Filter rfl ⟨rfl, rfl, rfl, trivial⟩ (c_Filter χ _ _ _ _ _)) rfl ?_
  rintro _ h7 ⟨rfl, Bf, K7⟩
  have B1 := K7.blk (by simp) B1
  have B2 := K7.blk (by simp) B2
  have B3 := K7.blk (by simp) B3
  have B4 := K7.blk (by simp) B4
  have B5 := K7.blk (by simp) B5
  have B6 := K7.blk (by simp) B6
  have K := K.new0 K7; have Z7 := K7.1
  refine rs_v (v_assign rfl) rfl ?_
  refine rs_nil ?_
  refine q_thn ?_
  refine tr_ret ?_
  refine q_ret (res_tmp rfl rfl) ?_
  exact ⟨_, _, _, _, _, _, _, Nat.le_refl _, by omega, by omega, by omega, by omega, by omega, by omega, rfl, Bf, B1, B2, B3, B4, B5, B6, K⟩
theorem c_implSpanTruncated (χ : Chi) (h : Heap) (A : Nat → Prop) (hA : Low A h) (v sv : Value) (W : List SpanD) (steps : List StepD) (lo up : ByteArray) (hW : RSpans A h v W) (hn : W.length ≤ 100000) (hm : ∀ s, s ∈ W → SpanD.small s) (hne : ∀ s, s ∈ W → s.ks ≠ []) (hO : Tess.Ord W)
    (hlo : lo.size ≤ 9223372036854775807) (hup : up.size ≤ 9223372036854775807) (hS : RSteps A h sv steps) (hsn : steps.length ≤ 1000) (hz : ∀ s, s ∈ steps → s.key.size ≤ 9223372036854775807) :
    Cl Try.prog χ 37 #[v, .string lo, .string up, sv] h (fun r h' => RAnss (Up N0 h h') h' r (walkP (W.filterMap (ffT none none lo up)) .nowhere steps) ∧ Keep [] h h') := by
  refine cl_intro Try.func37 rfl rfl rfl ?_
  have K : Keep [] h h := Keep.refl _ _
  refine tr_seq ?_
  refine tr_reg ?_
  refine rs_v (v_assign rfl) rfl ?_
  refine rs_nil ?_
  refine q_thn ?_
  refine tr_seq ?_
  refine tr_reg ?_
  refine rs_w (w_call (vs := []) ok_base_DefaultComparer rfl trivial (c_DefaultComparer χ _)) rfl ?_
  rintro _ h1 ⟨rfl, ⟨rest, Bq⟩, K1⟩
  have K := K.new0 K1; have Z1 := K1.1
  refine rs_v (v_nilCheck_ptr rfl) rfl ?_
  refine rs_v (v_fieldAddr fa_base_Comparer_0 rfl) rfl ?_
  refine rs_v (v_load one_base_Compare rfl (by exact Bq.cell _ rfl)) rfl ?_
  refine rs_v (v_assign rfl) rfl ?_
  refine rs_nil ?_
  refine q_thn ?_
  refine tr_seq ?_
  refine tr_reg ?_
  refine rs_v (v_move rfl) rfl ?_
  refine rs_v (v_move rfl) rfl ?_
  refine rs_v (v_move rfl) rfl ?_
  refine rs_w (w_call (vs := [_]) ok_impl_spans rfl ⟨rfl, trivial⟩ (c_spans χ _ A (hA.mono (by omega)) v W (hW.stab (K.st hA)) hn hm)) rfl ?_
  rintro w2 h2 ⟨hPW, K2⟩
  obtain ⟨wa, wc, rfl⟩ := SlR.form2 hPW
  have K := K.new0 K2; have Z2 := K2.1
  refine rs_w (w_call (vs := [_, _]) ok_keyspan_NewIter rfl ⟨rfl, rfl, trivial⟩ (c_NewIter χ _ wa W.length wc)) rfl ?_
  rintro _ h3 ⟨rfl, Bi, K3⟩
  have hPW := hPW.stab (K3.st ((n0low _).up Z2))
  have hi3 := Bi.lt
  have K := K.new0 K3; have Z3 := K3.1
  refine rs_v (v_makeIface u_p_keyspan_Iter rfl) rfl ?_
  refine rs_v (v_move rfl) rfl ?_
  refine rs_w (w_bytes u_string u_sl_uint8 u_uint8 rfl (by omega)) rfl ?_
  rintro _ h4 ⟨cl, rfl, K4, hlv⟩
  have hPW := hPW.stab (K4.st (fun b hb => Nat.lt_of_lt_of_le ((n0low _).up Z2 b hb) Z3))
  have Bi := K4.blk (by simp) Bi
  have K := K.new0 K4; have Z4 := K4.1
  refine rs_v (v_move rfl) rfl ?_
  refine rs_w (w_bytes u_string u_sl_uint8 u_uint8 rfl (by omega)) rfl ?_
  rintro _ h5 ⟨cu, rfl, K5, huv⟩
  have hPW := hPW.stab (K5.st (fun b hb => Nat.lt_of_lt_of_le ((n0low _).up Z2 b hb) (Nat.le_trans Z3 Z4)))
  have Bi := K5.blk (by simp) Bi
  have hlv := hlv.stab (K5.stab fun b hb => ⟨hb.2, by simp⟩)
  have K := K.new0 K5; have Z5 := K5.1
  refine rs_w (w_call (vs := [_, _, _, _, _, _, _]) ok_keyspan_Truncate rfl ⟨rfl, rfl, rfl, rfl, rfl, rfl, rfl, trivial⟩ (c_Truncate χ _ _ _ _ _ _ _ _ _ none none)) rfl ?_
  rintro _ h6 ⟨b0, b1, b2, b3, b4, b5, c, g0, g1, g2, g3, g4, g5, g6, rfl, Bf, B0, B1, B2, B3, B4, B5, K6⟩
  have hPW := hPW.stab (K6.st (fun b hb => Nat.lt_of_lt_of_le ((n0low _).up Z2 b hb) (Nat.le_trans Z3 (Nat.le_trans Z4 Z5))))
  have Bi := K6.blk (by simp) Bi
  have hcl := Bf.lt
  have Z6' := K6.1
  have hEnv : EnvT b3 b0 b4 b1 b2 b5 none none lo up (fun b => h3.size ≤ b ∧ b < c) h6 := ⟨fun b hb => by have := hb.2; omega, ⟨⟨by omega, by omega⟩, ⟨by omega, by omega⟩, ⟨by omega, by omega⟩, ⟨by omega, by omega⟩, ⟨by omega, by omega⟩, ⟨by omega, by omega⟩⟩,
    ⟨_, B3, rfl⟩, B0, ⟨_, B4, rfl⟩, ⟨_, B1, (hlv.stab (K6.stab fun b hb => ⟨by have := hb.2; omega, by simp⟩)).mono (fun b hb => ⟨hb.1, by have := hb.2; omega⟩)⟩, ⟨_, B2, (huv.stab (K6.stab fun b hb => ⟨hb.2, by simp⟩)).mono (fun b hb => ⟨by have := hb.1; omega, by have := hb.2; omega⟩)⟩, B5⟩
  have K := K.new0 K6; have Z6 := K6.1
  refine rs_v (v_move rfl) rfl ?_
  refine rs_w (w_call (vs := [_, _]) ok_impl_walkSpans rfl ⟨rfl, rfl, trivial⟩ (c_walkSpans χ h6 A (hA.mono K.1) (W.filterMap (ffT none none lo up)) _ _ _
    (fi_ok c (itB_ok χ h2.size wa wc W 187 hn hO) (fnT_ok χ W b3 b0 b4 b1 b2 b5 none none lo up (fun b => h3.size ≤ b ∧ b < c) (fun s hs => ⟨(hm s hs).2.2.1, hne s hs, by simp⟩)) (fun s hs => (hm s hs).2.2.1) hO (ffT_shrink _ _ _ _ W))
    (fun b => h.size ≤ b ∧ b < h6.size)
    ⟨.nowhere, (fun b => h1.size ≤ b ∧ b < h3.size), _, _, _, 0, _, _, ⟨⟨_, Up N0 h1 h2, Bi, trivial, hPW, (fun b hb => by
        rcases hb with hb | hb
        · exact hb.elim
        · exact ⟨⟨hb.1, by omega⟩, by omega⟩), ⟨by omega, by omega⟩, (fun b hb => by have := hb.2; omega)⟩, Bf, Own.nil _ _ _ _, hEnv, (by simp [Value.ownBlock]), (fun hb => by have := hb.2; omega), (fun hb => by omega), (fun b hb hg => by have := hb.1; have := hb.2; omega),
        (fun b hb => ⟨by have := hb.1; omega, by have := hb.2; omega⟩), ⟨by omega, by omega⟩, (by simp [Value.ownBlock]), (fun b hb => by omega), (fun b hb => hb.2)⟩, trivial⟩
    (fun b hb hf => by have := hA b hb; have := hf.1; omega) sv steps (hS.stab (K.st hA)) hsn hz (ffT_len (fun s hs => (hm s hs).2.2.1)))) rfl ?_
  rintro r9 h7 ⟨hans, KP⟩
  refine rs_v (v_assign rfl) rfl ?_
  refine rs_nil ?_
  refine q_thn ?_
  refine tr_ret ?_
  refine q_ret (res_tmp rfl rfl) ?_
  have h60 := K.1
  exact ⟨hans.mono (n0up h60 (Nat.le_refl _)), keep_of_p K KP (fun b hb => hb.1)⟩
end Go.Proofs.Ytgebfbnndgjkiaa
namespace Go.Proofs.Ytgebfbnndgjkiaa
open Go.Tess Go.RowKit
set_option maxRecDepth 100000
set_option maxHeartbeats 1000000
theorem Good.ne {W : List SpanD} (h : Good W) : ∀ s, s ∈ W → s.ks ≠ [] := fun s hs => (h.full s hs).2.1
end Go.Proofs.Ytgebfbnndgjkiaa
namespace Go.Proofs.Ytgebfbnndgjkiaa
open Go.Tess Go.RowKit
set_option maxRecDepth 100000
set_option maxHeartbeats 1000000
/-- An iterator that stands for a list, where only the steps that Al lets are asked for. -/
structure IterA (P : Program) (χ : Chi) (W : List SpanD) (t : TypeId) (v : Value) (I : ItI) (Al : StepD → Prop) : Prop where
  low : ∀ {p F h}, I p F h → Low F h
  stab : ∀ {p F h h'}, I p F h → Stab F h h' → h.size ≤ h'.size → I p F h'
  first : ∀ {p F h} {s : StepD}, s.op = 0 → Al s → I p F h → MCall P χ t v "First" [] h (ItPost W I F h (pFirst W))
  last : ∀ {p F h} {s : StepD}, s.op = 1 → Al s → I p F h → MCall P χ t v "Last" [] h (ItPost W I F h (pLast W))
  next : ∀ {p F h} {s : StepD}, s.op = 2 → Al s → I p F h → canNext p = true → MCall P χ t v "Next" [] h (ItPost W I F h (pNext W p))
  prev : ∀ {p F h} {s : StepD}, s.op = 3 → Al s → I p F h → canPrev p = true → MCall P χ t v "Prev" [] h (ItPost W I F h (pPrev W p))
  ge : ∀ {p F h kv} {s : StepD}, s.op = 4 → Al s → I p F h → RBytes (fun b => ¬ F b) h kv s.key → MCall P χ t v "SeekGE" [kv] h (ItPost W I F h (pGE W s.key))
  lt : ∀ {p F h kv} {s : StepD}, s.op = 5 → Al s → I p F h → RBytes (fun b => ¬ F b) h kv s.key → MCall P χ t v "SeekLT" [kv] h (ItPost W I F h (pLT W s.key))
theorem IterA.after {P : Program} {χ : Chi} {W : List SpanD} {t : TypeId} {v : Value} {I : ItI} {Al : StepD → Prop} (ok : IterA P χ W t v I Al) {p : Pos} {F : Nat → Prop} {h4 h7 h8 : Heap} {X : List Nat} (hI : I p F h4) (K : Keep [] h4 h7) (K8 : Keep X h7 h8) (hX : ∀ x, x ∈ X → ¬ F x) : I p F h8 :=
  ok.stab hI (fun b hb => (K8.2 b (Nat.lt_of_lt_of_le (ok.low hI b hb) K.1) (fun hm => hX b hm hb)).trans (K.2 b (ok.low hI b hb) (by simp))) (Nat.le_trans K.1 K8.1)

end Go.Proofs.Ytgebfbnndgjkiaa
namespace Go.Proofs.Ytgebfbnndgjkiaa
open Go.Tess Go.RowKit
set_option maxRecDepth 100000
set_option maxHeartbeats 1000000
def UpC (up : Option ByteArray) (s : SpanD) : Bool := match up with | none => true | some u => slt s.s u
def LoC (lo : Option ByteArray) (s : SpanD) : Bool := match lo with | none => true | some l => slt l s.e
/-- A bound as bytes, or nil. -/
def RBnd (G : Nat → Prop) (h : Heap) (v : Value) (b : Option ByteArray) : Prop := match b with
  | none => v = .slice none 0 0
  | some u => ∃ g o n c, v = .slice (some ⟨g, o, none⟩) n c ∧ RBytes G h v u
theorem RBnd.stab {G : Nat → Prop} {h h' : Heap} {v : Value} {b : Option ByteArray} (hr : RBnd G h v b) (s : Stab G h h') : RBnd G h' v b := by
  cases b with
  | none => exact hr
  | some u => obtain ⟨g, o, n, c, e, h1⟩ := hr; exact ⟨g, o, n, c, e, h1.stab s⟩
theorem RBnd.mono {G G' : Nat → Prop} {h : Heap} {v : Value} {b : Option ByteArray} (hr : RBnd G h v b) (s : ∀ b, G b → G' b) : RBnd G' h v b := by
  cases b with
  | none => exact hr
  | some u => obtain ⟨g, o, n, c, e, h1⟩ := hr; exact ⟨g, o, n, c, e, h1.mono s⟩
theorem RBnd.form {G : Nat → Prop} {h : Heap} {v : Value} {b : Option ByteArray} (hr : RBnd G h v b) : ∃ a n c, v = .slice a n c := by
  cases b with
  | none => exact ⟨_, _, _, hr⟩
  | some u => obtain ⟨g, o, n, c, e, _⟩ := hr; exact ⟨_, _, _, e⟩
/-- A span behind a pointer, or none. -/
def SpA (F : Nat → Prop) (h : Heap) (x : Option Addr) (os : Option SpanD) : Prop := match os with
  | none => x = none
  | some s => ∃ b o, x = some ⟨b, o, none⟩ ∧ F b ∧ PSpan F h b o s
theorem SpA.stab {F : Nat → Prop} {h h' : Heap} {x : Option Addr} {os : Option SpanD} (hr : SpA F h x os) (s : Stab F h h') : SpA F h' x os := by
  cases os with
  | none => exact hr
  | some t => obtain ⟨b, o, e, h1, h2⟩ := hr; exact ⟨b, o, e, h1, h2.stab h1 s⟩
theorem SpA.ret {W : List SpanD} {p : Pos} {F : Nat → Prop} {h : Heap} {x : Option Addr} (hr : SpA F h x (cur W p)) : Ret W p F h (.pointer x) := by
  unfold Ret
  cases hc : cur W p with
  | none => rw [hc] at hr; rw [show x = none from hr]
  | some s => rw [hc] at hr; obtain ⟨b, o, e, h1, h2⟩ := hr; subst e; exact ⟨b, o, rfl, h1, h2⟩
end Go.Proofs.Ytgebfbnndgjkiaa
namespace Go.Proofs.Ytgebfbnndgjkiaa
open Go.Tess Go.RowKit
set_option maxRecDepth 100000
set_option maxHeartbeats 1000000
/-- The spans that overlap the bounds stand together. -/
structure Seg (W : List SpanD) (lo up : Option ByteArray) (i0 i1 : Nat) : Prop where
  le : i0 ≤ i1
  len : i1 ≤ W.length
  lo : ∀ (j : Nat) s, W[j]? = some s → (LoC lo s = true ↔ i0 ≤ j)
  up : ∀ (j : Nat) s, W[j]? = some s → (UpC up s = true ↔ j < i1)
section
variable {W : List SpanD} {lo up : Option ByteArray} {i0 i1 : Nat} (hs : Seg W lo up i0 i1)
include hs
end
end Go.Proofs.Ytgebfbnndgjkiaa
namespace Go.Proofs.Ytgebfbnndgjkiaa
open Go.Tess Go.RowKit
set_option maxRecDepth 100000
set_option maxHeartbeats 1000000
theorem SpA.mono {F F' : Nat → Prop} {h : Heap} {x : Option Addr} {os : Option SpanD} (hr : SpA F h x os) (s : ∀ b, F b → F' b) : SpA F' h x os := by
  cases os with
  | none => exact hr
  | some t => obtain ⟨b, o, e, h1, h2⟩ := hr; exact ⟨b, o, e, s b h1, h2.mono s⟩
section
variable (W : List SpanD) (I : ItI) (t : TypeId) (v0 : Value) (c i0 i1 : Nat) (lo up : Option ByteArray) (lov upv spl pp : Value)
end
section
variable {W : List SpanD} {I : ItI} {t : TypeId} {v0 : Value} {c i0 i1 : Nat} {lo up : Option ByteArray} {lov upv spl pp : Value} {q : Pos} {Fin F : Nat → Prop} {h : Heap} {sp : Option Addr} {os : Option SpanD} {pos : Int}
end
theorem pNext_pt (W : List SpanD) (j : Nat) : pNext W (.pt j) = if j + 1 < W.length then .pt (j + 1) else .behind := rfl
section
variable {χ : Chi} {W : List SpanD} {I : ItI} {t : TypeId} {v0 : Value} {c i0 i1 : Nat} {lo up : Option ByteArray} {lov upv spl pp : Value} (hEnv : ∀ {p F h}, I p F h → RBnd F h lov lo ∧ RBnd F h upv up) (hit : IterOK Try.prog χ W t v0 I) (hO : Tess.Ord W) (hs : Seg W lo up i0 i1)
include hEnv hit hO hs
end
end Go.Proofs.Ytgebfbnndgjkiaa
namespace Go.Proofs.Ytgebfbnndgjkiaa
open Go.Tess Go.RowKit
set_option maxRecDepth 100000
set_option maxHeartbeats 1000000
/-- A block of an iterator holds no bytes. -/
theorem RBytes.ne {G : Nat → Prop} {h : Heap} {v : Value} {s : ByteArray} {c : Nat} {sv : Value} {x : Int} {T : TypeId} (hr : RBytes G h v s) (hsv : ∃ a n k, sv = .slice a n k) (B : Blk h c (itL sv x) T) : RBytes (fun b => G b ∧ b ≠ c) h v s := by
  obtain ⟨a', n', k', rfl⟩ := hsv
  obtain ⟨hl, a, k, e, hx⟩ := hr
  refine ⟨hl, a, k, e, fun i y hi => ?_⟩
  obtain ⟨b, o, e1, e2, e3⟩ := hx i y hi
  refine ⟨b, o, e1, ⟨⟨e2.1, fun hbc => ?_⟩, e2.2⟩, e3⟩
  subst hbc
  unfold cellH at e3
  have hB := B
  unfold Blk at hB
  rw [hB] at e3
  simp only [itL, cmpF] at e3
  match hj : o + i * 1, e3 with
  | 0, e3 => simp at e3
  | 1, e3 => simp at e3
  | 2, e3 => simp at e3
  | n + 3, e3 => simp at e3
theorem RBnd.ne {G : Nat → Prop} {h : Heap} {v : Value} {b : Option ByteArray} {c : Nat} {sv : Value} {x : Int} {T : TypeId} (hr : RBnd G h v b) (hsv : ∃ a n k, sv = .slice a n k) (B : Blk h c (itL sv x) T) : RBnd (fun b => G b ∧ b ≠ c) h v b := by
  cases b with
  | none => exact hr
  | some u => obtain ⟨g, o, n, k, e, h1⟩ := hr; exact ⟨g, o, n, k, e, RBytes.ne h1 hsv B⟩
def cmpL (s : ByteArray) : List Value := [cmpF, .func (.func 78) #[] #[], .func (.func 79) #[] #[], .nilFunc, .func (.func 81) #[] #[], .nilFunc, .func (.func 83) #[] #[], .func (.func 84) #[] #[], .string s]

theorem c_DefaultComparer2 (χ : Chi) (h : Heap) :
    Cl Try.prog χ 54 #[] h (fun r h' => r = .pointer (some ⟨h.size, 0, none⟩) ∧ (∃ s, Blk h' h.size (cmpL s) 119) ∧ Keep [] h h') := by
  refine cl_intro Try.func54 rfl rfl rfl ?_
  have K : Keep [] h h := Keep.refl _ _
  refine tr_seq ?_
  refine tr_reg ?_
  refine rs_v (v_assign rfl) rfl ?_
  refine rs_nil ?_
  refine q_thn ?_
  refine tr_seq ?_
  refine tr_reg ?_
  refine rs_v (v_buildN (us := [_, _, _, _, _, _, _]) ⟨rfl, rfl, rfl, rfl, rfl, rfl, rfl, trivial⟩ (bld_base_Comparer_0_1_2_4_6_7_8 _ _ _ _ _ _ _ _ _ _ _ _ _ _ _ _ _ _ _)) rfl ?_
  refine rs_w (w_newbox rfl) rfl ?_
  rintro _ h1 ⟨rfl, B1, K1, Z1⟩
  have S1 := K.1; have K := K.new0 K1
  refine rs_v (v_assign rfl) rfl ?_
  refine rs_nil ?_
  refine q_thn ?_
  refine tr_ret ?_
  refine q_ret (res_tmp rfl rfl) ?_
  exact ⟨rfl, ⟨_, B1⟩, K⟩
end Go.Proofs.Ytgebfbnndgjkiaa
namespace Go.Proofs.Ytgebfbnndgjkiaa
open Go.Tess Go.RowKit
set_option maxRecDepth 100000
set_option maxHeartbeats 1000000
theorem nb {b : Bool} (h : b = false) : (!b) = true := by rw [h]; rfl
end Go.Proofs.Ytgebfbnndgjkiaa
namespace Go.Proofs.Ytgebfbnndgjkiaa
open Go.Tess Go.RowKit
set_option maxRecDepth 100000
set_option maxHeartbeats 2000000
theorem own_new {h : Heap} {base b sz : Nat} {cs : List Value} {T : TypeId} (B : Blk h b cs T) (hb : base ≤ b) (hl : cs.length = sz) : Own h base T sz (.slice (some ⟨b, 0, none⟩) 1 1) 1 cs :=
  ⟨by omega, .inr ⟨b, 1, cs.toArray, rfl, hb, B, Nat.le_refl _, by decide, by simp [hl], by rw [Nat.one_mul, ← hl]; simp⟩⟩
theorem RowsR.app {α : Type} {sz : Nat} {R : List Value → α → Prop} {xs ys : List Value} {ls ms : List α} (h : RowsR sz R xs ls) (k : RowsR sz R ys ms) : RowsR sz R (xs ++ ys) (ls ++ ms) := by
  obtain ⟨c1, rfl, l1, h1⟩ := h
  obtain ⟨c2, rfl, l2, h2⟩ := k
  refine ⟨c1 ++ c2, by simp, by simp [l1, l2], fun i c a hc ha => ?_⟩
  rcases Nat.lt_or_ge i c1.length with hlt | hge
  · rw [List.getElem?_append_left hlt] at hc
    rw [List.getElem?_append_left (by omega)] at ha
    exact h1 i c a hc ha
  · rw [List.getElem?_append_right hge] at hc
    rw [List.getElem?_append_right (by omega)] at ha
    rw [l1] at hc
    exact h2 _ c a hc ha
def nextS : StepD := ⟨2, ByteArray.empty⟩
def fwdS (n : Nat) : List StepD := ⟨0, ByteArray.empty⟩ :: List.replicate n nextS
theorem fwdS_succ (n : Nat) : fwdS (n + 1) = fwdS n ++ [nextS] := by simp [fwdS, List.replicate_succ']
theorem fwdS_len (n : Nat) : (fwdS n).length = n + 1 := by simp [fwdS]
theorem fwdS_small (n : Nat) : ∀ s, s ∈ fwdS n → s.key.size ≤ 9223372036854775807 := by
  intro s hs
  simp only [fwdS, List.mem_cons, List.mem_replicate] at hs
  rcases hs with rfl | ⟨_, rfl⟩ <;> decide
def listOf (l : List AnsD) : List SpanD := (l.filter (·.ok)).map (·.sp)
theorem listOf_snoc (l : List AnsD) (x : AnsD) : listOf (l ++ [x]) = if x.ok then listOf l ++ [x.sp] else listOf l := by
  unfold listOf
  rw [List.filter_append]
  cases h : x.ok <;> simp [h]
theorem listOf_cons (x : AnsD) (l : List AnsD) : listOf (x :: l) = if x.ok then x.sp :: listOf l else listOf l := by
  unfold listOf
  rw [List.filter_cons]
  cases h : x.ok <;> simp
theorem listOf_le (l : List AnsD) : (listOf l).length ≤ l.length := by unfold listOf; simpa using List.length_filter_le _ l
/-- Nothing is found any more. -/
theorem listOf_end (W : List SpanD) (p : Pos) (hp : canNext p = false) : ∀ n, listOf (walkP W p (List.replicate n nextS)) = []
  | 0 => rfl
  | n + 1 => by
    have e : stepP W p nextS = none := by simp [stepP, nextS, hp]
    rw [List.replicate_succ, walkP, e, listOf_cons]
    simp only [ansOf, Option.getD_none]
    exact listOf_end W p hp n
theorem listOf_next (W : List SpanD) : ∀ (n j : Nat), W.length ≤ j + 1 + n → listOf (walkP W (.pt j) (List.replicate n nextS)) = W.drop (j + 1)
  | 0, j, hn => by rw [List.drop_eq_nil_of_le (by omega)]; rfl
  | n + 1, j, hn => by
    have e : stepP W (.pt j) nextS = some (pNext W (.pt j)) := by simp [stepP, nextS, canNext]
    rw [List.replicate_succ, walkP, e, listOf_cons]
    simp only [Option.getD_some]
    by_cases hj : j + 1 < W.length
    · rw [show pNext W (.pt j) = .pt (j + 1) from by rw [pNext_pt, if_pos hj]]
      have hc : cur W (.pt (j + 1)) = some W[j + 1] := List.getElem?_eq_getElem hj
      simp only [ansOf, hc, Option.isSome_some, if_true, Option.getD_some]
      rw [listOf_next W n (j + 1) (by omega), List.drop_eq_getElem_cons hj]
    · rw [show pNext W (.pt j) = .behind from by rw [pNext_pt, if_neg hj]]
      simp only [ansOf, cur, Option.isSome_none, Bool.false_eq_true, if_false]
      rw [listOf_end W .behind rfl, List.drop_eq_nil_of_le (by omega)]
theorem listOf_from (W : List SpanD) (p p0 : Pos) (s : StepD) (n : Nat) (hs : stepP W p s = some p0) (hp : p0 = if W.length = 0 then p0 else .pt 0) (h0 : W.length = 0 → canNext p0 = false) (hn : W.length ≤ n + 1) : listOf (walkP W p (s :: List.replicate n nextS)) = W := by
  rw [walkP, hs, listOf_cons]
  simp only [Option.getD_some]
  by_cases hz : W.length = 0
  · have e : W = [] := List.eq_nil_of_length_eq_zero hz
    rw [listOf_end W p0 (h0 hz)]
    subst e
    have hc : cur [] p0 = none := by cases p0 <;> simp [cur]
    simp [ansOf, hc]
  · rw [if_neg hz] at hp
    subst hp
    have hl : 0 < W.length := by omega
    have hc : cur W (.pt 0) = some W[0] := List.getElem?_eq_getElem hl
    simp only [ansOf, hc, Option.isSome_some, if_true, Option.getD_some]
    rw [listOf_next W n 0 (by omega)]
    have := List.drop_eq_getElem_cons hl
    rw [List.drop_zero] at this
    exact this.symm
theorem listOf_fwd (W : List SpanD) (n : Nat) (hn : W.length ≤ n + 1) : listOf (walkP W .nowhere (fwdS n)) = W := by
  refine listOf_from W .nowhere (pFirst W) _ n (by simp [stepP]) ?_ ?_ hn
  · unfold pFirst
    by_cases h : W.length = 0
    · rw [if_pos h, if_pos h]
    · rw [if_neg h, if_neg h]
  · intro h; unfold pFirst; rw [if_pos h]; rfl

theorem c_spanForth (χ : Chi) (h : Heap) (n : Nat) (hn : n ≤ 1000) :
    Cl Try.prog χ 43 #[.int .i64 (n : Int)] h (fun r h' => (RSteps (Up N0 h h') h' r (fwdS n) ∧ ∃ a c, r = .slice a (n + 1) c ∧ n + 1 ≤ c) ∧ Keep [] h h') := by
  refine cl_intro Try.func43 rfl rfl rfl ?_
  have K : Keep [] h h := Keep.refl _ _
  refine tr_seq ?_
  refine tr_reg ?_
  refine rs_v (v_assign rfl) rfl ?_
  refine rs_nil ?_
  refine q_thn ?_
  refine tr_seq ?_
  refine tr_reg ?_
  refine rs_v (v_build1 rfl (bld_impl_Step_0 _)) rfl ?_
  refine rs_w (w_new1 u_sl_impl_Step siz_impl_Step zero_impl_Step rfl rfl rfl rfl rfl) rfl ?_
  rintro _ h1 ⟨rfl, B1, K1, Z1⟩
  have S1 := K.1; have K := K.new0 K1
  refine rs_v (v_assign rfl) rfl ?_
  refine rs_nil ?_
  refine q_thn ?_
  refine tr_seq ?_
  refine tr_seq ?_
  refine tr_reg ?_
  refine rs_v (v_move rfl) rfl ?_
  refine rs_v (v_move rfl) rfl ?_
  refine rs_nil ?_
  refine q_thn ?_
  refine tr_block ?_
  refine tr_loop (fun m E h' => ∃ k v xs, k ≤ n ∧ m = n - k ∧ E = [(3, v), (6, .int .i64 (n : Int)), (7, .int .i64 (k : Int))] ∧ Keep [] h h' ∧ Own h' h.size 63 2 v (k + 1) xs ∧ RowsR 2 (cStep N0 h) xs (fwdS k)) n [(3, _), (6, _), (7, _)] ⟨rfl, rfl, rfl, trivial⟩ ⟨0, _, _, Nat.zero_le _, rfl, rfl, K, own_new B1 (Nat.le_refl _) rfl, (RowsR.nil 2 (cStep N0 h)).snoc rfl rfl⟩ ?_
  rintro m E hL2 ⟨k, v, xs, hk, rfl, rfl, K, O, hrow⟩
  have hob := own_ne O; have KL := Keep.refl [] hL2
  refine tr_seq ?_
  refine tr_reg ?_
  refine rs_v (v_lt rfl rfl) rfl ?_
  refine rs_nil ?_
  refine q_thn ?_
  refine tr_seq ?_
  refine tr_ifn rfl (fun hif => ?_) (fun hif => ?_)
  · -- no
    simp only [decide_eq_true_eq, decide_eq_false_iff_not] at hif
    have hkk : k = n := by omega
    subst hkk
    refine tr_exit ?_
    refine q_thn_exit ?_
    refine q_lp_exit ?_
    refine q_blk_hit ?_
    refine q_thn ?_
    refine tr_seq ?_
    refine tr_reg ?_
    refine rs_v (v_move rfl) rfl ?_
    refine rs_v (v_assign rfl) rfl ?_
    refine rs_nil ?_
    refine q_thn ?_
    refine tr_ret ?_
    refine q_ret (res_tmp rfl rfl) ?_
    obtain ⟨g, c9, rfl, hg1, hg2, _⟩ := own_some O
    have hcap : k + 1 ≤ c9 := by
      rcases O.2 with ⟨e, _⟩ | ⟨g', cap, cur, e, _, _, hle, _⟩
      · cases e
      · cases e; exact hle
    exact ⟨⟨SlR.of_rows O (fwdS_len k).symm hrow (fun b h1 h2 => .inr ⟨h1, h2⟩) (fun b o c a hc hr => cStep_r N0 _ _ _ _ _ hc hr), _, _, rfl, hcap⟩, K⟩
  -- yes
  simp only [decide_eq_true_eq, decide_eq_false_iff_not] at hif
  refine tr_skip ?_
  refine q_thn ?_
  refine tr_seq ?_
  refine tr_block ?_
  refine tr_reg ?_
  refine rs_v (v_move rfl) rfl ?_
  refine rs_v (v_build1 rfl (bld_impl_Step_0 _)) rfl ?_
  refine rs_w (w_new1 u_sl_impl_Step siz_impl_Step zero_impl_Step rfl rfl rfl rfl rfl) rfl ?_
  rintro _ h3 ⟨rfl, B3, K3, Z3⟩
  have O := O.keep2 K3 (fun x hm => by have := hob x hm; simp; try omega)
  have S3 := K.1; have K := K.new0 K3
  refine rs_w (w_app1 u_sl_impl_Step info_impl_Step rfl rfl rfl O rfl rfl B3 rfl (by omega) (by omega) (by omega)) rfl ?_
  rintro v4 h4 ⟨O4, K4, N4, F4⟩
  have K := K.newX K4 (fun x hm => .inr (by have := hob x hm; omega)); have Z4 := K4.1
  have B3 := K4.blk (fun hm => by have := hob _ hm; omega) B3
  refine rs_v (v_assign rfl) rfl ?_
  refine rs_nil ?_
  refine q_blk_n ?_
  refine q_thn ?_
  refine tr_reg ?_
  refine rs_v (v_add rfl rfl (by omega) (by omega)) rfl ?_
  refine rs_v (v_move rfl) rfl ?_
  refine rs_nil ?_
  refine q_lp (n - (k + 1)) [(3, _), (6, _), (7, _)] (by omega) ⟨rfl, rfl, rfl, trivial⟩ ⟨k + 1, _, _, by omega, rfl, rfl, K, O4, ?_⟩
  rw [fwdS_succ]
  exact hrow.snoc rfl rfl
theorem c_spanList (χ : Chi) (h : Heap) (A : Nat → Prop) (hA : Low A h) (v : Value) (G : List AnsD) (hG : RAnss A h v G) (hn : G.length ≤ 100000) :
    Cl Try.prog χ 44 #[v] h (fun r h' => RSpans (Up A h h') h' r (listOf G) ∧ Keep [] h h') := by
  obtain ⟨hlen, a, c, rfl, hx⟩ := hG.form
  refine cl_intro Try.func44 rfl rfl rfl ?_
  have K : Keep [] h h := Keep.refl _ _
  refine tr_seq ?_
  refine tr_reg ?_
  refine rs_v (v_assign rfl) rfl ?_
  refine rs_nil ?_
  refine q_thn ?_
  refine tr_seq ?_
  refine tr_reg ?_
  refine rs_v (v_assign rfl) rfl ?_
  refine rs_nil ?_
  refine q_thn ?_
  refine tr_seq ?_
  refine tr_seq ?_
  refine tr_reg ?_
  refine rs_v (v_move rfl) rfl ?_
  refine rs_v (v_len u_sl_impl_SpanAnswer rfl) rfl ?_
  refine rs_v (v_move rfl) rfl ?_
  refine rs_nil ?_
  refine q_thn ?_
  refine tr_block ?_
  refine tr_loop (fun m E h' => ∃ k v n, k ≤ G.length ∧ m = G.length - k ∧ E = [(3, v), (6, .slice a G.length c), (7, .int .i64 (G.length : Int)), (8, .int .i64 (k : Int))] ∧ Keep [] h h' ∧ n = (listOf (G.take k)).length ∧ OutR A h h' h.size 61 3 cSpan v n (listOf (G.take k))) G.length [(3, _), (6, _), (7, _), (8, _)] ⟨rfl, rfl, rfl, rfl, trivial⟩ ⟨0, _, 0, Nat.zero_le _, rfl, rfl, K, rfl, OutR.nil _ _ _ _ _ _ _⟩ ?_
  rintro m E hL1 ⟨k, v, n, hk, rfl, rfl, K, hn, hout⟩
  have hout0 := hout
  obtain ⟨xs, F, O, hrow, hF⟩ := hout
  have KL0 := K.1
  have hob := own_ne O; have KL := Keep.refl [] hL1
  refine tr_seq ?_
  refine tr_reg ?_
  refine rs_v (v_lt rfl rfl) rfl ?_
  refine rs_nil ?_
  refine q_thn ?_
  refine tr_seq ?_
  refine tr_ifn rfl (fun hif => ?_) (fun hif => ?_)
  · -- no
    simp only [decide_eq_true_eq, decide_eq_false_iff_not] at hif
    have hkk : k = G.length := by omega
    subst hkk
    refine tr_exit ?_
    refine q_thn_exit ?_
    refine q_lp_exit ?_
    refine q_blk_hit ?_
    refine q_thn ?_
    refine tr_seq ?_
    refine tr_reg ?_
    refine rs_v (v_move rfl) rfl ?_
    refine rs_v (v_assign rfl) rfl ?_
    refine rs_nil ?_
    refine q_thn ?_
    refine tr_ret ?_
    refine q_ret (res_tmp rfl rfl) ?_
    rw [List.take_length] at hout0 hn
    exact ⟨hout0.fin cSpan_st hn (Nat.le_refl _) cSpan_r, K⟩
  -- yes
  simp only [decide_eq_true_eq, decide_eq_false_iff_not] at hif
  rcases hx with rfl | ⟨b, o, rfl, hAb, hR⟩
  · simp at hif; omega
  obtain ⟨x, hsk⟩ := ex_get (L := G) (k := k) (by omega)
  have hkl : k < G.length := (List.getElem?_eq_some_iff.1 hsk).1
  have KL0 := K.1
  obtain ⟨kv, hcc, hkx⟩ := hR k x hsk
  obtain ⟨ka, kc, rfl⟩ := hkx.form2
  have hcells := K.cells (by simp) hcc
  have hnk : n ≤ k := by rw [hn]; exact Nat.le_trans (listOf_le _) (by rw [List.length_take]; omega)
  refine tr_skip ?_
  refine q_thn ?_
  refine tr_seq ?_
  refine tr_block ?_
  refine tr_seq ?_
  refine tr_reg ?_
  refine rs_v (v_indexAddrN u_sl_impl_SpanAnswer siz_impl_SpanAnswer rfl rfl (by omega)) rfl ?_
  refine rs_v (v_loadAgg (vs := [_, _, _, _, _]) many_impl_SpanAnswer rfl (by exact hcells)) rfl ?_
  refine rs_w (w_new zero_impl_SpanAnswer) rfl ?_
  rintro _ h2 ⟨rfl, B2, K2, Z2⟩
  have O := O.keep2 K2 (fun x hm => by have := hob x hm; simp; try omega)
  have S2 := K.1; have K := K.new0 K2; have KL := KL.new0 K2
  refine rs_w0 (w_put siz_impl_SpanAnswer rfl rfl rfl rfl B2 rfl) ?_
  rintro _ h3 ⟨B3, K3⟩
  have O := O.keep2 K3 (fun x hm => by have := hob x hm; simp; try omega)
  have B2 := B3; have K := K.new1 K3 (by first | (right; omega) | (left; simp; done)); have Z3 := K3.1; have KL := KL.new1 K3 (.inr (by omega))
  refine rs_nil ?_
  refine q_thn ?_
  refine tr_seq ?_
  refine tr_reg ?_
  refine rs_v (v_fieldAddr fa_impl_SpanAnswer_1 rfl) rfl ?_
  refine rs_v (v_load one_bool rfl (by exact B2.cell _ rfl)) rfl ?_
  refine rs_nil ?_
  refine q_thn ?_
  refine tr_if rfl (fun hif => ?_) (fun hif => ?_)
  · -- yes
    skip
    refine tr_reg ?_
    refine rs_v (v_move rfl) rfl ?_
    refine rs_v (v_fieldAddr fa_impl_SpanAnswer_2 rfl) rfl ?_
    refine rs_v (v_loadAgg (vs := [_, _, _]) many_impl_Span rfl (by exact B2.sub _ 3 rfl)) rfl ?_
    refine rs_w (w_new1 u_sl_impl_Span siz_impl_Span zero_impl_Span rfl rfl rfl rfl rfl) rfl ?_
    rintro _ h4 ⟨rfl, B4, K4, Z4⟩
    have B2 := K4.blk (by simp) B2
    have O := O.keep2 K4 (fun x hm => by have := hob x hm; simp; try omega)
    have S4 := K.1; have K := K.new0 K4; have KL := KL.new0 K4
    refine rs_w (w_app1 u_sl_impl_Span info_impl_Span rfl rfl rfl O rfl rfl B4 rfl (by omega) (by omega) (by omega)) rfl ?_
    have K70 := K
    have KL70 := KL
    rintro v5 h5 ⟨O5, K5, N5, F5⟩
    have K := K.newX K5 (fun x hm => .inr (by have := hob x hm; omega)); have Z5 := K5.1
    have B2 := K5.blk (fun hm => by have := hob _ hm; omega) B2
    have B4 := K5.blk (fun hm => by have := hob _ hm; omega) B4
    refine rs_v (v_assign rfl) rfl ?_
    refine rs_nil ?_
    refine q_blk_n ?_
    refine q_thn ?_
    refine tr_reg ?_
    refine rs_v (v_add rfl rfl (by omega) (by omega)) rfl ?_
    refine rs_v (v_move rfl) rfl ?_
    refine rs_nil ?_
    refine q_lp (G.length - (k + 1)) [(3, _), (6, _), (7, _), (8, _)] (by omega) ⟨rfl, rfl, rfl, rfl, trivial⟩ ⟨k + 1, v5, n + 1, by omega, rfl, rfl, K, ?_, ?_⟩
    · rw [take_snoc' hsk, listOf_snoc, if_pos hif, List.length_append, ← hn]; rfl
    · rw [take_snoc' hsk, listOf_snoc, if_pos hif]
      exact OutR.snoc cSpan_st hA (by omega) hob hrow hF KL0 KL70 O5 K5 F5 rfl ⟨_, rfl, (hkx.stab (K70.st hA)).mono Up.old⟩
  -- no
  skip
  refine tr_skip ?_
  refine q_blk_n ?_
  refine q_thn ?_
  refine tr_reg ?_
  refine rs_v (v_add rfl rfl (by omega) (by omega)) rfl ?_
  refine rs_v (v_move rfl) rfl ?_
  refine rs_nil ?_
  refine q_lp (G.length - (k + 1)) [(3, _), (6, _), (7, _), (8, _)] (by omega) ⟨rfl, rfl, rfl, rfl, trivial⟩ ⟨k + 1, v, n, by omega, rfl, rfl, K, ?_, ?_⟩
  · rw [take_snoc' hsk, listOf_snoc, if_neg (by rw [hif]; decide)]; exact hn
  · rw [take_snoc' hsk, listOf_snoc, if_neg (by rw [hif]; decide)]
    exact hout0.keep cSpan_st KL
end Go.Proofs.Ytgebfbnndgjkiaa
namespace Go.Proofs.Ytgebfbnndgjkiaa
open Go.Tess Go.RowKit
set_option maxRecDepth 100000
set_option maxHeartbeats 2000000
theorem Good.filter {W : List SpanD} (h : Good W) (P : SpanD → Bool) (hO : Tess.Ord (W.filter P)) : Good (W.filter P) :=
  ⟨Nat.le_trans (List.length_filter_le _ _) h.len, fun s hs => h.full s (List.mem_filter.1 hs).1, fun s hs => h.small s (List.mem_filter.1 hs).1, hO⟩
/-- A span truncated to itself is found. -/
theorem first_found {W : List SpanD} {s : SpanD} {r : List SpanD} (hW : W = s :: r) (hs : slt s.s s.e = true) : (ansOf (W.filterMap (ffT none none s.s s.e)) (some (pFirst (W.filterMap (ffT none none s.s s.e))))).ok = true := by
  have h1 : cutLo s.s s = s.s := by unfold cutLo; split <;> rfl
  have h2 : cutUp s.e s = s.e := by unfold cutUp; split <;> rfl
  have h3 : ffT none none s.s s.e s = some s := by rw [ffT_plain, h1, h2, if_pos hs]
  rw [hW, List.filterMap_cons, h3]
  simp only [pFirst, List.length_cons]
  rw [if_neg (by omega)]
  simp [ansOf, cur]

end Go.Proofs.Ytgebfbnndgjkiaa
namespace Go.Proofs.Ytgebfbnndgjkiaa
open Go.Tess Go.RowKit
set_option maxRecDepth 100000
set_option maxHeartbeats 1000000
/-- The prefix mode's boxes. -/
def PreE (G : Nat → Prop) (h : Heap) (hp pp : Value) (P : ByteArray) : Prop :=
  ∃ hb pb pv, hp = .pointer (some ⟨hb, 0, none⟩) ∧ pp = .pointer (some ⟨pb, 0, none⟩) ∧ G hb ∧ G pb ∧ cellH h hb 0 = some (.bool true) ∧ cellH h pb 0 = some pv ∧ RBytes G h pv P
theorem PreE.stab {G : Nat → Prop} {h h' : Heap} {hp pp : Value} {P : ByteArray} (hr : PreE G h hp pp P) (s : Stab G h h') : PreE G h' hp pp P := by
  obtain ⟨hb, pb, pv, e1, e2, g1, g2, c1, c2, r⟩ := hr
  refine ⟨hb, pb, pv, e1, e2, g1, g2, ?_, ?_, r.stab s⟩
  · unfold cellH at *; rw [s hb g1]; exact c1
  · unfold cellH at *; rw [s pb g2]; exact c2
theorem PreE.mono {G G' : Nat → Prop} {h : Heap} {hp pp : Value} {P : ByteArray} (hr : PreE G h hp pp P) (s : ∀ b, G b → G' b) : PreE G' h hp pp P := by
  obtain ⟨hb, pb, pv, e1, e2, g1, g2, c1, c2, r⟩ := hr
  exact ⟨hb, pb, pv, e1, e2, s _ g1, s _ g2, c1, c2, r.mono s⟩
end Go.Proofs.Ytgebfbnndgjkiaa
namespace Go.Proofs.Ytgebfbnndgjkiaa
open Go.Tess Go.RowKit
set_option maxRecDepth 100000
set_option maxHeartbeats 1000000
section
variable {P : Program} {χ : Chi} {ρ : Operand → Option Value} {h : Heap} {ty : TypeId} {pos : String} {after : Array Edge} {guard : Option (Nat × Bool)} {dst : Option Tmp} {x y z : Operand} {t t2 e : TypeId}
theorem v_cap {a : Option Addr} {n c : Nat} (ht : P.underlying t = some (.slice e)) (hx : ρ x = some (.slice a n c)) :
    OpV P χ ⟨dst, .call ⟨.builtin .cap, #[x], #[t]⟩, ty, pos, after, guard⟩ ρ h (.int .i64 (c : Int)) := by
  intro r d hr
  have e1 := hr x (by simp [Op.operands, Call.operands]) _ hx
  have he := elem_of ht
  simp [execOp, resolve, invoke, builtin, e1, run_cap_slice (mkw χ h d) t ty a n c (by rw [he]; exact ht), goInt]
theorem v_mul {a b : Int} (hx : ρ x = some (.int .i64 a)) (hy : ρ y = some (.int .i64 b)) (h0 : -9223372036854775808 ≤ a * b) (h1 : a * b ≤ 9223372036854775807) :
    OpV P χ ⟨dst, .binOp .mul t x y t2, ty, pos, after, guard⟩ ρ h (.int .i64 (a * b)) :=
  v_bin hx hy fun w => by simp [eqGuard, binOp, Op.intArith, IntWalk.i64_in _ ⟨h0, h1⟩]
theorem v_slice_lhm {sz b o m c i j : Nat} {k1 k2 k3 : IntKind} {x1 x2 x3 : Operand} {j1 j2 j3 : Int} (ht : P.underlying t = some (.slice e)) (hs : Siz P e sz)
    (hx : ρ x = some (.slice (some ⟨b, o, none⟩) m c)) (h1 : ρ x1 = some (.int k1 j1)) (h2 : ρ x2 = some (.int k2 j2)) (h3 : ρ x3 = some (.int k3 j3)) (e1 : j1 = (i : Int)) (e2 : j2 = ((i + j : Nat) : Int)) (e3 : j3 = ((i + j : Nat) : Int)) (hc : i + j ≤ c) :
    OpV P χ ⟨dst, .slice t x (some x1) (some x2) (some x3), ty, pos, after, guard⟩ ρ h (.slice (some ⟨b, if j = 0 then o else o + i * sz, none⟩) j j) := by
  intro r d hr
  have f0 := hr x (by simp [Op.operands]) _ hx
  have f1 := hr x1 (by simp [Op.operands]) _ h1
  have f2 := hr x2 (by simp [Op.operands]) _ h2
  have f3 := hr x3 (by simp [Op.operands]) _ h3
  subst e1; subst e2; subst e3
  have he := elem_of ht
  have hq := run_slice_lhm (w := mkw χ h d) t (some ⟨b, o, none⟩) m c (by rw [he]; exact ht) k1 k2 k3 (i : Int) ((i + j : Nat) : Int) ((i + j : Nat) : Int) (by omega) (by omega) (by omega) (by omega)
  rw [he, hs, Result.andThen_ok] at hq
  have h9 : sliced (some ⟨b, o, none⟩) (Int.toNat (i : Int)) (Int.toNat ((i + j : Nat) : Int)) (Int.toNat ((i + j : Nat) : Int)) sz = .slice (some ⟨b, if j = 0 then o else o + i * sz, none⟩) j j := by
    simp only [sliced, Int.toNat_natCast]
    have a1 : i + j - i = j := by omega
    rw [a1]
    by_cases hj : j = 0
    · subst hj; simp
    · rw [if_neg (by omega), if_neg hj]; simp [addr_add]
  rw [h9] at hq
  rw [Int.natCast_add] at hq
  simp [execOp, f0, f1, f2, f3, run_sliceAt_slice (mkw χ h d) t _ _ _ _ (by rw [he]; exact ht), hq]
/-- make of a slice without elements, with a room. -/
theorem w_make0 {i : TypeInfo} {z0 : Value} {kl kc : IntKind} {c : Nat} {j : Int} (ht : P.underlying t = some (.slice e)) (hi : P.info? e = some i) (hz : i.zero = some z0) (h1 : z0.cells.size = 1) (hs : i.size = 1) (hx : ρ x = some (.int kl 0)) (hy : ρ y = some (.int kc j)) (hj : j = (c : Int))
    (hb : (i.bytes : Int) * c ≤ 281474976710656) (hc : c ≤ 9223372036854775807) :
    OpW P χ ⟨dst, .makeSlice t x y, ty, pos, after, guard⟩ ρ h (fun v h' => v = .slice (some ⟨h.size, 0, none⟩) 0 c ∧ (∃ cs, cs.length = c ∧ Blk h' h.size cs e) ∧ Keep [] h h') := by
  refine w_of_run fun r d hr => ?_
  have e1 := hr x (by simp [Op.operands]) _ hx
  have e2 := hr y (by simp [Op.operands]) _ hy
  subst hj
  have hrun := run_make (P := P) (mkw χ h d) t e i z0 ht hi hz kl kc 0 (c : Int) (Int.le_refl _) (by omega) hb (by omega)
  refine ⟨.slice (some ⟨h.size, 0, none⟩) 0 c, h.push (.cells (madeCells z0.cells (c * i.size)) e), d, by simp [execOp, e1, e2, hrun]; exact ⟨rfl, rfl⟩, rfl, ⟨(madeCells z0.cells (c * i.size)).toList, by simp [size_madeCells, hs], Blk.new h _ e⟩, Keep.push _ _ _⟩
/-- copy of all elements of a row into the room of a block. -/
theorem w_copyB {g o n m c1 c2 b o2 : Nat} {cur cs : List Value} {T : TypeId} (ht : P.underlying t = some (.slice e)) (hs : (P.info? e).map (·.size) = some 1) (hx : ρ x = some (.slice (some ⟨g, o, none⟩) n c1)) (hy : ρ y = some (.slice (some ⟨b, o2, none⟩) m c2))
    (hg : Blk h g cur T) (hn : cs.length = m) (hnm : m = n) (hsrc : CellsAt h b o2 cs) (hfit : o + m ≤ cur.length) (h1 : ∀ v, v ∈ cs → v.oneCell' = true) :
    OpW P χ ⟨dst, .call ⟨.builtin .copy, #[x, y], #[t, t2]⟩, ty, pos, after, guard⟩ ρ h (fun _ h' => Blk h' g (cur.take o ++ cs ++ cur.drop (o + cs.length)) T ∧ Keep [g] h h') := by
  refine w_of_run fun r d hr => ?_
  have e1 := hr x (by simp [Op.operands, Call.operands]) _ hx
  have e2 := hr y (by simp [Op.operands, Call.operands]) _ hy
  have hcl : ∀ j v, cs[j]? = some v → (mkw χ h d).cell? ((⟨b, o2, none⟩ : Addr).add j) = some v := fun j v hj => by rw [addr_add]; exact hsrc j v hj
  have hrun := run_copy_row (P := P) (mkw χ h d) t t2 ty e g o n c1 ⟨b, o2, none⟩ m c2 cur.toArray T cs ht hs hg (by rw [hn, hnm]; simp) hcl (by simpa [hn] using hfit) h1
  refine ⟨.int .i64 (cs.length : Int), ((mkw χ h d).setRow g (cur.take o ++ cs ++ cur.drop (o + cs.length)).toArray).heap, d, ?_, ?_, ?_⟩
  · simp only [List.toList_toArray] at hrun
    simp [execOp, resolve, invoke, builtin, e1, e2, hrun]
    refine ⟨rfl, ?_⟩
    rfl
  · have := setRow_heap (mkw χ h d) g cur.toArray (cur.take o ++ cs ++ cur.drop (o + cs.length)).toArray T (0, 0) hg
    exact this
  · refine ⟨by simp [World.setRow, mkw], fun k hk hx => ?_⟩
    have : k ≠ g := fun e => hx (by simp [e])
    exact setRow_other (mkw χ h d) g k _ this
theorem v_copy0 {a d0 : Option Addr} {n m c1 c2 : Nat} (ht : P.underlying t = some (.slice e)) (hs : (P.info? e).map (·.size) = some 1) (hx : ρ x = some (.slice d0 n c1)) (hy : ρ y = some (.slice a m c2)) (hm : m = 0) :
    OpV P χ ⟨dst, .call ⟨.builtin .copy, #[x, y], #[t, t2]⟩, ty, pos, after, guard⟩ ρ h (.int .i64 0) := by
  intro r d hr
  have e1 := hr x (by simp [Op.operands, Call.operands]) _ hx
  have e2 := hr y (by simp [Op.operands, Call.operands]) _ hy
  subst hm
  simp [execOp, resolve, invoke, builtin, e1, e2, run_copy_none (mkw χ h d) t t2 ty e d0 a n c1 0 c2 ht hs (by simp), goInt]
end
end Go.Proofs.Ytgebfbnndgjkiaa
namespace Go.Proofs.Ytgebfbnndgjkiaa
open Go.Tess Go.RowKit
set_option maxRecDepth 100000
set_option maxHeartbeats 1000000
/-- The part of an arena's block that no bytes have been given of yet. -/
def Free (a : Value) (b o : Nat) : Prop := ∃ n c, a = .slice (some ⟨b, 0, none⟩) n c ∧ n ≤ o
def Aren (h : Heap) (a : Value) : Prop := a = .slice none 0 0 ∨ ∃ g n c cs, a = .slice (some ⟨g, 0, none⟩) n c ∧ n ≤ c ∧ c ≤ 2147483647 ∧ cs.length = c ∧ Blk h g cs 5
/-- What giving bytes of an arena does to the heap: blocks besides X and the arena's stay whole, and all cells but the free ones. -/
structure Tn (X : List Nat) (h h' : Heap) (a a' : Value) : Prop where
  sz : h.size ≤ h'.size
  blk : ∀ b, b < h.size → b ∉ X → b ∉ a.ownBlock.toList → h'[b]? = h[b]?
  cell : ∀ b o v, b ∉ X → ¬ Free a b o → cellH h b o = some v → cellH h' b o = some v
  free : ∀ b o, Free a' b o → Free a b o ∨ h.size ≤ b
  own : ∀ x, x ∈ a'.ownBlock.toList → x ∈ a.ownBlock.toList ∨ h.size ≤ x
theorem Aren.low {h : Heap} {a : Value} (ha : Aren h a) : ∀ x, x ∈ a.ownBlock.toList → x < h.size := by
  rcases ha with rfl | ⟨g, n, c, cs, rfl, _, _, _, B⟩
  · simp [Value.ownBlock]
  · intro x hx; simp [Value.ownBlock] at hx; subst hx; exact B.lt
theorem Aren.keep {X : List Nat} {h h' : Heap} {a : Value} (ha : Aren h a) (k : Keep X h h') (hX : ∀ x, x ∈ a.ownBlock.toList → x ∉ X) : Aren h' a := by
  rcases ha with rfl | ⟨g, n, c, cs, rfl, h1, h2, h3, B⟩
  · exact .inl rfl
  · exact .inr ⟨g, n, c, cs, rfl, h1, h2, h3, k.blk (hX g (by simp [Value.ownBlock])) B⟩
theorem Aren.form {h : Heap} {a : Value} (ha : Aren h a) : ∃ x n c, a = .slice x n c ∧ n ≤ c ∧ c ≤ 2147483647 := by
  rcases ha with rfl | ⟨g, n, c, cs, rfl, h1, h2, h3, B⟩
  · exact ⟨_, _, _, rfl, by omega, by omega⟩
  · exact ⟨_, _, _, rfl, h1, h2⟩
theorem Tn.refl (X : List Nat) (h : Heap) (a : Value) : Tn X h h a a := ⟨Nat.le_refl _, fun _ _ _ _ => rfl, fun _ _ _ _ _ hc => hc, fun _ _ hf => .inl hf, fun _ hx => .inl hx⟩
theorem Tn.trans {X : List Nat} {h h1 h2 : Heap} {a a1 a2 : Value} (s : Tn X h h1 a a1) (t : Tn X h1 h2 a1 a2) : Tn X h h2 a a2 := by
  have hz := s.sz
  refine ⟨Nat.le_trans s.sz t.sz, fun b hb hX ho => ?_, fun b o v hX hf hc => ?_, fun b o hf => ?_, fun x hx => ?_⟩
  · refine (t.blk b (by omega) hX fun hm => ?_).trans (s.blk b hb hX ho)
    rcases s.own b hm with h1 | h1
    · exact ho h1
    · omega
  · refine t.cell b o v hX (fun hm => ?_) (s.cell b o v hX hf hc)
    rcases s.free b o hm with h1 | h1
    · exact hf h1
    · have := cellH_lt hc; omega
  · rcases t.free b o hf with h1 | h1
    · exact s.free b o h1
    · exact .inr (by omega)
  · rcases t.own x hx with h1 | h1
    · exact s.own x h1
    · exact .inr (by omega)
theorem Tn.keep {X : List Nat} {h h' : Heap} {a a' : Value} (s : Tn X h h' a a') : Keep (X ++ a.ownBlock.toList) h h' :=
  ⟨s.sz, fun b hb hm => s.blk b hb (fun h1 => hm (List.mem_append_left _ h1)) (fun h1 => hm (List.mem_append_right _ h1))⟩
theorem Tn.more {X Y : List Nat} {h h' : Heap} {a a' : Value} (s : Tn X h h' a a') (hs : ∀ x, x ∈ X → x ∈ Y) : Tn Y h h' a a' :=
  ⟨s.sz, fun b hb hm ho => s.blk b hb (fun h1 => hm (hs b h1)) ho, fun b o v hm hf hc => s.cell b o v (fun h1 => hm (hs b h1)) hf hc, s.free, s.own⟩
/-- A step that turns only blocks of X, and not the arena. -/
theorem Tn.put {X : List Nat} {h h1 h2 : Heap} {a a1 : Value} (s : Tn X h h1 a a1) (k : Keep X h1 h2) : Tn X h h2 a a1 := by
  have hz := s.sz; have hz2 := k.1
  exact ⟨by omega, fun b hb hX ho => (k.2 b (by omega) hX).trans (s.blk b hb hX ho), fun b o v hX hf hc => k.cell hX (s.cell b o v hX hf hc), s.free, s.own⟩
/-- Bytes that an arena gave. -/
def SBy (G : Nat → Prop) (a : Value) (h : Heap) (v : Value) (s : ByteArray) : Prop :=
  SlR h (fun b => G b ∧ CapV v) 1 (fun h b o (c : UInt8) => cellH h b o = some (.int .u8 (c.toNat : Int)) ∧ ¬ Free a b o) v s.data.toList
theorem SlR.to {α : Type} {h h' : Heap} {A A' : Nat → Prop} {sz : Nat} {R R' : Heap → Nat → Nat → α → Prop} {v : Value} {xs : List α} (hr : SlR h A sz R v xs)
    (hA : ∀ b, A b → A' b) (hR : ∀ b o x, A b → R h b o x → R' h' b o x) : SlR h' A' sz R' v xs := by
  obtain ⟨hl, a, c, e, hx⟩ := hr
  exact ⟨hl, a, c, e, fun i x hi => by obtain ⟨b, o, e1, e2, e3⟩ := hx i x hi; exact ⟨b, o, e1, hA b e2, hR b _ x e2 e3⟩⟩
theorem SBy.step {X : List Nat} {G G' : Nat → Prop} {a a' v : Value} {h h' : Heap} {s : ByteArray} (hs : SBy G a h v s) (t : Tn X h h' a a') (hX : ∀ b, G b → b ∉ X) (hG : ∀ b, G b → G' b) : SBy G' a' h' v s :=
  SlR.to hs (fun b hb => ⟨hG b hb.1, hb.2⟩) fun b o x hb hc => ⟨t.cell b o _ (hX b hb.1) hc.2 hc.1, fun hf => by
    rcases t.free b o hf with h1 | h1
    · exact hc.2 h1
    · have := cellH_lt hc.1; omega⟩
theorem SBy.bytes {G : Nat → Prop} {a v : Value} {h : Heap} {s : ByteArray} (hs : SBy G a h v s) : RBytes G h v s := SlR.to hs (fun _ hb => hb) fun _ _ _ _ hc => hc.1
theorem SBy.nil (G : Nat → Prop) (a : Value) (h : Heap) (x : Option Addr) (c : Nat) {s : ByteArray} (hs : s.data.toList = []) : SBy G a h (.slice x 0 c) s := by
  unfold SBy; rw [hs]; exact ⟨by simp, x, c, rfl, fun i y hi => by simp at hi⟩
theorem RBytes.cellsAt {A : Nat → Prop} {h : Heap} {v : Value} {s : ByteArray} (hr : RBytes A h v s) : ∃ x c, v = .slice x s.data.toList.length c ∧ (s.data.toList = [] ∨ ∃ b o, x = some ⟨b, o, none⟩ ∧ A b ∧ CellsAt h b o (byteCells s.data.toList)) := by
  obtain ⟨_, x, c, e, hx⟩ := SlR.form hr
  refine ⟨x, c, e, ?_⟩
  rcases hx with h1 | ⟨b, o, h1, h2, h3⟩
  · exact .inl h1
  · refine .inr ⟨b, o, h1, h2.1, fun j v hj => ?_⟩
    simp only [byteCells, List.getElem?_map] at hj
    cases hq : s.data.toList[j]? with
    | none => rw [hq] at hj; simp at hj
    | some y =>
      rw [hq] at hj; simp only [Option.map_some, Option.some.injEq] at hj; subst hj
      have := h3 j y hq
      rwa [Nat.mul_one] at this
theorem info_u8 : ∃ i, Try.prog.info? 5 = some i ∧ i.zero = some (.int .u8 0) ∧ i.size = 1 ∧ i.bytes = 1 := by
  have h0 := info_uint8
  cases hq : Try.prog.info? 5 with
  | none => rw [hq] at h0; simp at h0
  | some i =>
    rw [hq] at h0
    simp only [Option.map_some, Option.some.injEq, Prod.mk.injEq] at h0
    exact ⟨i, rfl, h0⟩
section
variable {P : Program} {χ : Chi} {ρ : Operand → Option Value} {h : Heap} {ty : TypeId} {pos : String} {after : Array Edge} {guard : Option (Nat × Bool)} {dst : Option Tmp} {x y z : Operand} {t t2 e : TypeId}
theorem v_slice_lhm0 {sz : Nat} {a : Option Addr} {m c : Nat} {k1 k2 k3 : IntKind} {x1 x2 x3 : Operand} {j1 j2 j3 : Int} (ht : P.underlying t = some (.slice e)) (hs : Siz P e sz)
    (hx : ρ x = some (.slice a m c)) (h1 : ρ x1 = some (.int k1 j1)) (h2 : ρ x2 = some (.int k2 j2)) (h3 : ρ x3 = some (.int k3 j3)) (e1 : j1 = 0) (e2 : j2 = 0) (e3 : j3 = 0) :
    OpV P χ ⟨dst, .slice t x (some x1) (some x2) (some x3), ty, pos, after, guard⟩ ρ h (.slice a 0 0) := by
  intro r d hr
  have f0 := hr x (by simp [Op.operands]) _ hx
  have f1 := hr x1 (by simp [Op.operands]) _ h1
  have f2 := hr x2 (by simp [Op.operands]) _ h2
  have f3 := hr x3 (by simp [Op.operands]) _ h3
  subst e1; subst e2; subst e3
  have he := elem_of ht
  have hq := run_slice_lhm (w := mkw χ h d) t a m c (by rw [he]; exact ht) k1 k2 k3 0 0 0 (by omega) (by omega) (by omega) (by omega)
  rw [he, hs, Result.andThen_ok] at hq
  have h9 : sliced a (Int.toNat 0) (Int.toNat 0) (Int.toNat 0) sz = .slice a 0 0 := by simp [sliced]
  rw [h9] at hq
  simp [execOp, f0, f1, f2, f3, run_sliceAt_slice (mkw χ h d) t _ _ _ _ (by rw [he]; exact ht), hq]
/-- copy of bytes into what an arena gave for them. -/
def Copied (d0 : Option Addr) (cs : List Value) (h h' : Heap) : Prop :=
  (cs = [] ∧ h' = h) ∨ ∃ g p cur T, d0 = some ⟨g, p, none⟩ ∧ Blk h g cur T ∧ p + cs.length ≤ cur.length ∧ Blk h' g (cur.take p ++ cs ++ cur.drop (p + cs.length)) T ∧ Keep [g] h h'
theorem w_copyS {d0 a0 : Option Addr} {m c1 c2 : Nat} {cs : List Value} (ht : P.underlying t = some (.slice e)) (hs : (P.info? e).map (·.size) = some 1) (hx : ρ x = some (.slice d0 m c1)) (hy : ρ y = some (.slice a0 m c2)) (hn : cs.length = m)
    (hsrc : cs = [] ∨ ∃ b o2, a0 = some ⟨b, o2, none⟩ ∧ CellsAt h b o2 cs) (hd : cs = [] ∨ ∃ g p cur T, d0 = some ⟨g, p, none⟩ ∧ Blk h g cur T ∧ p + m ≤ cur.length) (h1 : ∀ v, v ∈ cs → v.oneCell' = true) :
    OpW P χ ⟨dst, .call ⟨.builtin .copy, #[x, y], #[t, t2]⟩, ty, pos, after, guard⟩ ρ h (fun _ h' => Copied d0 cs h h') := by
  by_cases h0 : cs = []
  · subst h0
    exact (v_copy0 ht hs hx hy (by simpa using hn.symm)).w.mono fun _ _ ⟨_, e2⟩ => .inl ⟨rfl, e2⟩
  · rcases hsrc with e1 | ⟨b, o2, rfl, hsrc⟩
    · exact absurd e1 h0
    rcases hd with e1 | ⟨g, p, cur, T, rfl, B, hfit⟩
    · exact absurd e1 h0
    exact (w_copyB ht hs hx hy B hn rfl hsrc hfit h1).mono fun _ _ ⟨e1, e2⟩ => .inr ⟨g, p, cur, T, rfl, B, by omega, e1, e2⟩
end
theorem bc_one {l : List UInt8} : ∀ v, v ∈ byteCells l → v.oneCell' = true := fun v hv => by
  simp only [byteCells, List.mem_map] at hv
  obtain ⟨c, _, rfl⟩ := hv
  rfl
def rsz0 (c : Nat) : Nat := if c * 2 < 512 then 512 else if 524288 < c * 2 then 524288 else c * 2
def rsz (c m : Nat) : Nat := if rsz0 c < m then m else rsz0 c
theorem rsz_ge (c m : Nat) : m ≤ rsz c m := by unfold rsz; split <;> omega
theorem rsz_le {c m : Nat} (hm : m ≤ 2147483647) : rsz c m ≤ 2147483647 := by unfold rsz rsz0; (repeat' split) <;> omega
/-- What Alloc gives. -/
def AllocH (a : Value) (m : Nat) (h : Heap) (a' : Value) (d0 : Option Addr) (h' : Heap) : Prop :=
  Keep [] h h' ∧ ((a' = .slice none 0 0 ∧ d0 = none ∧ a = .slice none 0 0 ∧ m = 0) ∨
    ∃ g p k cs, a' = .slice (some ⟨g, 0, none⟩) (p + m) k ∧ d0 = some ⟨g, if m = 0 then 0 else 0 + p * 1, none⟩ ∧ p + m ≤ k ∧ k ≤ 2147483647 ∧ cs.length = k ∧ Blk h' g cs 5 ∧ (a = .slice (some ⟨g, 0, none⟩) p k ∨ (g = h.size ∧ p = 0)))

theorem c_reserve (χ : Chi) (h : Heap) (a : Option Addr) (n c m : Nat) (hc : c ≤ 2147483647) (hm : m ≤ 2147483647) :
    Cl Try.prog χ 156 #[.slice a n c, .int .i64 (m : Int)] h (fun r h' => r = .slice (some ⟨h.size, 0, none⟩) 0 (rsz c m) ∧ ∃ cs, cs.length = rsz c m ∧ Blk h' h.size cs 5 ∧ Keep [] h h') := by
  obtain ⟨i, hi, hz, hsz, hby⟩ := info_u8
  refine cl_intro Try.func156 rfl rfl rfl ?_
  have K : Keep [] h h := Keep.refl _ _
  refine tr_seq ?_
  refine tr_reg ?_
  refine rs_v (v_assign rfl) rfl ?_
  refine rs_nil ?_
  refine q_thn ?_
  refine tr_seq ?_
  refine tr_reg ?_
  refine rs_v (v_move rfl) rfl ?_
  refine rs_v (v_cap u_bytealloc_A rfl) rfl ?_
  refine rs_v (v_mul rfl rfl (by omega) (by omega)) rfl ?_
  refine rs_v (v_assign rfl) rfl ?_
  refine rs_nil ?_
  refine q_thn ?_
  refine tr_seq ?_
  refine tr_seq ?_
  refine tr_reg ?_
  refine rs_v (v_move rfl) rfl ?_
  refine rs_v (v_lt rfl rfl) rfl ?_
  refine rs_nil ?_
  refine q_thn ?_
  refine tr_if rfl (fun hif => ?_) (fun hif => ?_)
  · -- yes
    simp only [decide_eq_true_eq, decide_eq_false_iff_not] at hif
    refine tr_reg ?_
    refine rs_v (v_assign rfl) rfl ?_
    refine rs_nil ?_
    refine q_thn ?_
    refine tr_seq ?_
    refine tr_seq ?_
    refine tr_reg ?_
    refine rs_v (v_move rfl) rfl ?_
    refine rs_v (v_move rfl) rfl ?_
    refine rs_v (v_lt rfl rfl) rfl ?_
    refine rs_nil ?_
    refine q_thn ?_
    refine tr_if rfl (fun hif => ?_) (fun hif => ?_)
    · -- yes
      simp only [decide_eq_true_eq, decide_eq_false_iff_not] at hif
      refine tr_reg ?_
      refine rs_v (v_move rfl) rfl ?_
      refine rs_v (v_assign rfl) rfl ?_
      refine rs_nil ?_
      refine q_thn ?_
      refine tr_seq ?_
      refine tr_reg ?_
      refine rs_v (v_move rfl) rfl ?_
      refine rs_w (w_make0 (c := m) u_sl_uint8 hi hz rfl hsz rfl rfl rfl (by rw [hby]; omega) (by omega)) rfl ?_
      rintro _ h1 ⟨rfl, ⟨cs1, hcs1, B1⟩, K1⟩
      have K := K.new0 K1; have Z1 := K1.1
      refine rs_v (v_assign rfl) rfl ?_
      refine rs_nil ?_
      refine q_thn ?_
      refine tr_ret ?_
      refine q_ret (res_tmp rfl rfl) ?_
      have hk : rsz c m = m := by unfold rsz rsz0; (repeat' split) <;> omega
      rw [hk]
      exact ⟨rfl, cs1, hcs1, B1, K⟩
    -- no
    simp only [decide_eq_true_eq, decide_eq_false_iff_not] at hif
    refine tr_skip ?_
    refine q_thn ?_
    refine tr_seq ?_
    refine tr_reg ?_
    refine rs_v (v_move rfl) rfl ?_
    refine rs_w (w_make0 (c := 512) u_sl_uint8 hi hz rfl hsz rfl rfl rfl (by rw [hby]; omega) (by omega)) rfl ?_
    rintro _ h2 ⟨rfl, ⟨cs2, hcs2, B2⟩, K2⟩
    have K := K.new0 K2; have Z2 := K2.1
    refine rs_v (v_assign rfl) rfl ?_
    refine rs_nil ?_
    refine q_thn ?_
    refine tr_ret ?_
    refine q_ret (res_tmp rfl rfl) ?_
    have hk : rsz c m = 512 := by unfold rsz rsz0; (repeat' split) <;> omega
    rw [hk]
    exact ⟨rfl, cs2, hcs2, B2, K⟩
  -- no
  simp only [decide_eq_true_eq, decide_eq_false_iff_not] at hif
  refine tr_seq ?_
  refine tr_reg ?_
  refine rs_v (v_move rfl) rfl ?_
  refine rs_v (v_gt rfl rfl) rfl ?_
  refine rs_nil ?_
  refine q_thn ?_
  refine tr_if rfl (fun hif => ?_) (fun hif => ?_)
  · -- yes
    simp only [decide_eq_true_eq, decide_eq_false_iff_not] at hif
    refine tr_reg ?_
    refine rs_v (v_assign rfl) rfl ?_
    refine rs_nil ?_
    refine q_thn ?_
    refine tr_seq ?_
    refine tr_seq ?_
    refine tr_reg ?_
    refine rs_v (v_move rfl) rfl ?_
    refine rs_v (v_move rfl) rfl ?_
    refine rs_v (v_lt rfl rfl) rfl ?_
    refine rs_nil ?_
    refine q_thn ?_
    refine tr_if rfl (fun hif => ?_) (fun hif => ?_)
    · -- yes
      simp only [decide_eq_true_eq, decide_eq_false_iff_not] at hif
      refine tr_reg ?_
      refine rs_v (v_move rfl) rfl ?_
      refine rs_v (v_assign rfl) rfl ?_
      refine rs_nil ?_
      refine q_thn ?_
      refine tr_seq ?_
      refine tr_reg ?_
      refine rs_v (v_move rfl) rfl ?_
      refine rs_w (w_make0 (c := m) u_sl_uint8 hi hz rfl hsz rfl rfl rfl (by rw [hby]; omega) (by omega)) rfl ?_
      rintro _ h3 ⟨rfl, ⟨cs3, hcs3, B3⟩, K3⟩
      have K := K.new0 K3; have Z3 := K3.1
      refine rs_v (v_assign rfl) rfl ?_
      refine rs_nil ?_
      refine q_thn ?_
      refine tr_ret ?_
      refine q_ret (res_tmp rfl rfl) ?_
      have hk : rsz c m = m := by unfold rsz rsz0; (repeat' split) <;> omega
      rw [hk]
      exact ⟨rfl, cs3, hcs3, B3, K⟩
    -- no
    simp only [decide_eq_true_eq, decide_eq_false_iff_not] at hif
    refine tr_skip ?_
    refine q_thn ?_
    refine tr_seq ?_
    refine tr_reg ?_
    refine rs_v (v_move rfl) rfl ?_
    refine rs_w (w_make0 (c := 524288) u_sl_uint8 hi hz rfl hsz rfl rfl rfl (by rw [hby]; omega) (by omega)) rfl ?_
    rintro _ h4 ⟨rfl, ⟨cs4, hcs4, B4⟩, K4⟩
    have K := K.new0 K4; have Z4 := K4.1
    refine rs_v (v_assign rfl) rfl ?_
    refine rs_nil ?_
    refine q_thn ?_
    refine tr_ret ?_
    refine q_ret (res_tmp rfl rfl) ?_
    have hk : rsz c m = 524288 := by unfold rsz rsz0; (repeat' split) <;> omega
    rw [hk]
    exact ⟨rfl, cs4, hcs4, B4, K⟩
  -- no
  simp only [decide_eq_true_eq, decide_eq_false_iff_not] at hif
  refine tr_skip ?_
  refine q_thn ?_
  refine tr_seq ?_
  refine tr_seq ?_
  refine tr_reg ?_
  refine rs_v (v_move rfl) rfl ?_
  refine rs_v (v_move rfl) rfl ?_
  refine rs_v (v_lt rfl rfl) rfl ?_
  refine rs_nil ?_
  refine q_thn ?_
  refine tr_if rfl (fun hif => ?_) (fun hif => ?_)
  · -- yes
    simp only [decide_eq_true_eq, decide_eq_false_iff_not] at hif
    refine tr_reg ?_
    refine rs_v (v_move rfl) rfl ?_
    refine rs_v (v_assign rfl) rfl ?_
    refine rs_nil ?_
    refine q_thn ?_
    refine tr_seq ?_
    refine tr_reg ?_
    refine rs_v (v_move rfl) rfl ?_
    refine rs_w (w_make0 (c := m) u_sl_uint8 hi hz rfl hsz rfl rfl rfl (by rw [hby]; omega) (by omega)) rfl ?_
    rintro _ h5 ⟨rfl, ⟨cs5, hcs5, B5⟩, K5⟩
    have K := K.new0 K5; have Z5 := K5.1
    refine rs_v (v_assign rfl) rfl ?_
    refine rs_nil ?_
    refine q_thn ?_
    refine tr_ret ?_
    refine q_ret (res_tmp rfl rfl) ?_
    have hk : rsz c m = m := by unfold rsz rsz0; (repeat' split) <;> omega
    rw [hk]
    exact ⟨rfl, cs5, hcs5, B5, K⟩
  -- no
  simp only [decide_eq_true_eq, decide_eq_false_iff_not] at hif
  refine tr_skip ?_
  refine q_thn ?_
  refine tr_seq ?_
  refine tr_reg ?_
  refine rs_v (v_move rfl) rfl ?_
  refine rs_w (w_make0 (c := c * 2) u_sl_uint8 hi hz rfl hsz rfl rfl (by omega) (by rw [hby]; omega) (by omega)) rfl ?_
  rintro _ h6 ⟨rfl, ⟨cs6, hcs6, B6⟩, K6⟩
  have K := K.new0 K6; have Z6 := K6.1
  refine rs_v (v_assign rfl) rfl ?_
  refine rs_nil ?_
  refine q_thn ?_
  refine tr_ret ?_
  refine q_ret (res_tmp rfl rfl) ?_
  have hk : rsz c m = c * 2 := by unfold rsz rsz0; (repeat' split) <;> omega
  rw [hk]
  exact ⟨rfl, cs6, hcs6, B6, K⟩
theorem c_Alloc1 (χ : Chi) (h : Heap)  (m : Nat) (hm : m ≤ 2147483647) (h0 : 0 < m) :
    Cl Try.prog χ 155 #[.slice none 0 0, .int .i64 (m : Int)] h (fun r h' => r = .tuple #[.slice (some ⟨h.size, 0, none⟩) (0 + m) (rsz 0 m), .slice (some ⟨h.size, if m = 0 then 0 else 0 + 0 * 1, none⟩) m m] ∧ AllocH (.slice none 0 0) m h (.slice (some ⟨h.size, 0, none⟩) (0 + m) (rsz 0 m)) ((some ⟨h.size, if m = 0 then 0 else 0 + 0 * 1, none⟩)) h') := by
  refine cl_intro Try.func155 rfl rfl rfl ?_
  have K : Keep [] h h := Keep.refl _ _
  refine tr_seq ?_
  refine tr_reg ?_
  refine rs_v (v_assign rfl) rfl ?_
  refine rs_v (v_assign rfl) rfl ?_
  refine rs_nil ?_
  refine q_thn ?_
  refine tr_seq ?_
  refine tr_seq ?_
  refine tr_reg ?_
  refine rs_v (v_move rfl) rfl ?_
  refine rs_v (v_cap u_bytealloc_A rfl) rfl ?_
  refine rs_v (v_move rfl) rfl ?_
  refine rs_v (v_len u_bytealloc_A rfl) rfl ?_
  refine rs_v (v_sub rfl rfl (by omega) (by omega)) rfl ?_
  refine rs_v (v_move rfl) rfl ?_
  refine rs_v (v_lt rfl rfl) rfl ?_
  refine rs_nil ?_
  refine q_thn ?_
  refine tr_if_t (congrArg some (congrArg Value.bool (decide_eq_true (by omega)))) ?_
  refine tr_reg ?_
  refine rs_v (v_move rfl) rfl ?_
  refine rs_v (v_move rfl) rfl ?_
  refine rs_w (w_call (vs := [_, _]) ok_bytealloc_A_reserve rfl ⟨rfl, rfl, trivial⟩ (c_reserve χ _ _ _ 0 m (by omega) hm)) rfl ?_
  rintro _ h1 ⟨rfl, cs9, hcs9, B9, K1⟩
  have K := K.new0 K1; have Z1 := K1.1
  refine rs_v (v_assign rfl) rfl ?_
  refine rs_nil ?_
  refine q_thn ?_
  refine tr_seq ?_
  refine tr_reg ?_
  refine rs_v (v_move rfl) rfl ?_
  refine rs_v (v_len u_bytealloc_A rfl) rfl ?_
  refine rs_v (v_assign rfl) rfl ?_
  refine rs_nil ?_
  refine q_thn ?_
  refine tr_seq ?_
  refine tr_reg ?_
  refine rs_v (v_move rfl) rfl ?_
  refine rs_v (v_move rfl) rfl ?_
  refine rs_v (v_move rfl) rfl ?_
  refine rs_v (v_move rfl) rfl ?_
  refine rs_v (v_add rfl rfl (by omega) (by omega)) rfl ?_
  refine rs_v (v_move rfl) rfl ?_
  refine rs_v (v_move rfl) rfl ?_
  refine rs_v (v_add rfl rfl (by omega) (by omega)) rfl ?_
  refine rs_v (v_slice_lhm (i := 0) (j := m) u_bytealloc_A siz_uint8 rfl rfl rfl rfl rfl (by omega) (by omega) (by have := rsz_ge 0 m; omega)) rfl ?_
  refine rs_v (v_assign rfl) rfl ?_
  refine rs_nil ?_
  refine q_thn ?_
  refine tr_seq ?_
  refine tr_reg ?_
  refine rs_v (v_move rfl) rfl ?_
  refine rs_v (v_move rfl) rfl ?_
  refine rs_v (v_move rfl) rfl ?_
  refine rs_v (v_add rfl rfl (by omega) (by omega)) rfl ?_
  refine rs_v (v_slice_h (i := 0 + m) u_bytealloc_A siz_uint8 rfl rfl (by omega) (by have := rsz_ge 0 m; omega)) rfl ?_
  refine rs_v (v_assign rfl) rfl ?_
  refine rs_nil ?_
  refine q_thn ?_
  refine tr_seq ?_
  refine tr_reg ?_
  refine rs_v (v_move rfl) rfl ?_
  refine rs_v (v_move rfl) rfl ?_
  refine rs_v (v_assign rfl) rfl ?_
  refine rs_v (v_assign rfl) rfl ?_
  refine rs_nil ?_
  refine q_thn ?_
  refine tr_ret ?_
  refine q_ret (res_tmp2 rfl rfl rfl) ?_
  exact ⟨rfl, K, .inr ⟨_, 0, _, cs9, rfl, by rfl, by have := rsz_ge 0 m; omega, rsz_le hm, hcs9, B9, .inr ⟨rfl, rfl⟩⟩⟩
theorem c_Alloc2 (χ : Chi) (h : Heap)  (m : Nat) (hm : m ≤ 2147483647) (h0 : m = 0) :
    Cl Try.prog χ 155 #[.slice none 0 0, .int .i64 (m : Int)] h (fun r h' => r = .tuple #[.slice none 0 0, .slice none m m] ∧ AllocH (.slice none 0 0) m h (.slice none 0 0) (none) h') := by
  refine cl_intro Try.func155 rfl rfl rfl ?_
  have K : Keep [] h h := Keep.refl _ _
  refine tr_seq ?_
  refine tr_reg ?_
  refine rs_v (v_assign rfl) rfl ?_
  refine rs_v (v_assign rfl) rfl ?_
  refine rs_nil ?_
  refine q_thn ?_
  refine tr_seq ?_
  refine tr_seq ?_
  refine tr_reg ?_
  refine rs_v (v_move rfl) rfl ?_
  refine rs_v (v_cap u_bytealloc_A rfl) rfl ?_
  refine rs_v (v_move rfl) rfl ?_
  refine rs_v (v_len u_bytealloc_A rfl) rfl ?_
  refine rs_v (v_sub rfl rfl (by omega) (by omega)) rfl ?_
  refine rs_v (v_move rfl) rfl ?_
  refine rs_v (v_lt rfl rfl) rfl ?_
  refine rs_nil ?_
  refine q_thn ?_
  refine tr_if_f (congrArg some (congrArg Value.bool (decide_eq_false (by omega)))) ?_
  refine tr_skip ?_
  refine q_thn ?_
  refine tr_seq ?_
  refine tr_reg ?_
  refine rs_v (v_move rfl) rfl ?_
  refine rs_v (v_len u_bytealloc_A rfl) rfl ?_
  refine rs_v (v_assign rfl) rfl ?_
  refine rs_nil ?_
  refine q_thn ?_
  refine tr_seq ?_
  refine tr_reg ?_
  refine rs_v (v_move rfl) rfl ?_
  refine rs_v (v_move rfl) rfl ?_
  refine rs_v (v_move rfl) rfl ?_
  refine rs_v (v_move rfl) rfl ?_
  refine rs_v (v_add rfl rfl (by omega) (by omega)) rfl ?_
  refine rs_v (v_move rfl) rfl ?_
  refine rs_v (v_move rfl) rfl ?_
  refine rs_v (v_add rfl rfl (by omega) (by omega)) rfl ?_
  refine rs_v (v_slice_lhm0 u_bytealloc_A siz_uint8 rfl rfl rfl rfl rfl (by omega) (by omega)) rfl ?_
  refine rs_v (v_assign rfl) rfl ?_
  refine rs_nil ?_
  refine q_thn ?_
  refine tr_seq ?_
  refine tr_reg ?_
  refine rs_v (v_move rfl) rfl ?_
  refine rs_v (v_move rfl) rfl ?_
  refine rs_v (v_move rfl) rfl ?_
  refine rs_v (v_add rfl rfl (by omega) (by omega)) rfl ?_
  refine rs_v (v_slice_h (i := 0) u_bytealloc_A siz_uint8 rfl rfl (by omega) (by omega)) rfl ?_
  refine rs_v (v_assign rfl) rfl ?_
  refine rs_nil ?_
  refine q_thn ?_
  refine tr_seq ?_
  refine tr_reg ?_
  refine rs_v (v_move rfl) rfl ?_
  refine rs_v (v_move rfl) rfl ?_
  refine rs_v (v_assign rfl) rfl ?_
  refine rs_v (v_assign rfl) rfl ?_
  refine rs_nil ?_
  refine q_thn ?_
  refine tr_ret ?_
  refine q_ret (res_tmp2 rfl rfl rfl) ?_
  subst h0
  exact ⟨rfl, K, .inl ⟨rfl, rfl, rfl, rfl⟩⟩
theorem c_Alloc3 (χ : Chi) (h : Heap) (g p c : Nat) (cs : List Value) (hpc : p ≤ c) (hc : c ≤ 2147483647) (hcs : cs.length = c) (B : Blk h g cs 5) (m : Nat) (hm : m ≤ 2147483647) (h0 : c < p + m) :
    Cl Try.prog χ 155 #[.slice (some ⟨g, 0, none⟩) p c, .int .i64 (m : Int)] h (fun r h' => r = .tuple #[.slice (some ⟨h.size, 0, none⟩) (0 + m) (rsz c m), .slice (some ⟨h.size, if m = 0 then 0 else 0 + 0 * 1, none⟩) m m] ∧ AllocH (.slice (some ⟨g, 0, none⟩) p c) m h (.slice (some ⟨h.size, 0, none⟩) (0 + m) (rsz c m)) ((some ⟨h.size, if m = 0 then 0 else 0 + 0 * 1, none⟩)) h') := by
  refine cl_intro Try.func155 rfl rfl rfl ?_
  have K : Keep [] h h := Keep.refl _ _
  refine tr_seq ?_
  refine tr_reg ?_
  refine rs_v (v_assign rfl) rfl ?_
  refine rs_v (v_assign rfl) rfl ?_
  refine rs_nil ?_
  refine q_thn ?_
  refine tr_seq ?_
  refine tr_seq ?_
  refine tr_reg ?_
  refine rs_v (v_move rfl) rfl ?_
  refine rs_v (v_cap u_bytealloc_A rfl) rfl ?_
  refine rs_v (v_move rfl) rfl ?_
  refine rs_v (v_len u_bytealloc_A rfl) rfl ?_
  refine rs_v (v_sub rfl rfl (by omega) (by omega)) rfl ?_
  refine rs_v (v_move rfl) rfl ?_
  refine rs_v (v_lt rfl rfl) rfl ?_
  refine rs_nil ?_
  refine q_thn ?_
  refine tr_if_t (congrArg some (congrArg Value.bool (decide_eq_true (by omega)))) ?_
  refine tr_reg ?_
  refine rs_v (v_move rfl) rfl ?_
  refine rs_v (v_move rfl) rfl ?_
  refine rs_w (w_call (vs := [_, _]) ok_bytealloc_A_reserve rfl ⟨rfl, rfl, trivial⟩ (c_reserve χ _ _ _ c m (by omega) hm)) rfl ?_
  rintro _ h1 ⟨rfl, cs9, hcs9, B9, K1⟩
  have K := K.new0 K1; have Z1 := K1.1
  refine rs_v (v_assign rfl) rfl ?_
  refine rs_nil ?_
  refine q_thn ?_
  refine tr_seq ?_
  refine tr_reg ?_
  refine rs_v (v_move rfl) rfl ?_
  refine rs_v (v_len u_bytealloc_A rfl) rfl ?_
  refine rs_v (v_assign rfl) rfl ?_
  refine rs_nil ?_
  refine q_thn ?_
  refine tr_seq ?_
  refine tr_reg ?_
  refine rs_v (v_move rfl) rfl ?_
  refine rs_v (v_move rfl) rfl ?_
  refine rs_v (v_move rfl) rfl ?_
  refine rs_v (v_move rfl) rfl ?_
  refine rs_v (v_add rfl rfl (by omega) (by omega)) rfl ?_
  refine rs_v (v_move rfl) rfl ?_
  refine rs_v (v_move rfl) rfl ?_
  refine rs_v (v_add rfl rfl (by omega) (by omega)) rfl ?_
  refine rs_v (v_slice_lhm (i := 0) (j := m) u_bytealloc_A siz_uint8 rfl rfl rfl rfl rfl (by omega) (by omega) (by have := rsz_ge c m; omega)) rfl ?_
  refine rs_v (v_assign rfl) rfl ?_
  refine rs_nil ?_
  refine q_thn ?_
  refine tr_seq ?_
  refine tr_reg ?_
  refine rs_v (v_move rfl) rfl ?_
  refine rs_v (v_move rfl) rfl ?_
  refine rs_v (v_move rfl) rfl ?_
  refine rs_v (v_add rfl rfl (by omega) (by omega)) rfl ?_
  refine rs_v (v_slice_h (i := 0 + m) u_bytealloc_A siz_uint8 rfl rfl (by omega) (by have := rsz_ge c m; omega)) rfl ?_
  refine rs_v (v_assign rfl) rfl ?_
  refine rs_nil ?_
  refine q_thn ?_
  refine tr_seq ?_
  refine tr_reg ?_
  refine rs_v (v_move rfl) rfl ?_
  refine rs_v (v_move rfl) rfl ?_
  refine rs_v (v_assign rfl) rfl ?_
  refine rs_v (v_assign rfl) rfl ?_
  refine rs_nil ?_
  refine q_thn ?_
  refine tr_ret ?_
  refine q_ret (res_tmp2 rfl rfl rfl) ?_
  exact ⟨rfl, K, .inr ⟨_, 0, _, cs9, rfl, by rfl, by have := rsz_ge c m; omega, rsz_le hm, hcs9, B9, .inr ⟨rfl, rfl⟩⟩⟩
theorem c_Alloc4 (χ : Chi) (h : Heap) (g p c : Nat) (cs : List Value) (hpc : p ≤ c) (hc : c ≤ 2147483647) (hcs : cs.length = c) (B : Blk h g cs 5) (m : Nat) (hm : m ≤ 2147483647) (h0 : p + m ≤ c) :
    Cl Try.prog χ 155 #[.slice (some ⟨g, 0, none⟩) p c, .int .i64 (m : Int)] h (fun r h' => r = .tuple #[.slice (some ⟨g, 0, none⟩) (p + m) c, .slice (some ⟨g, if m = 0 then 0 else 0 + p * 1, none⟩) m m] ∧ AllocH (.slice (some ⟨g, 0, none⟩) p c) m h (.slice (some ⟨g, 0, none⟩) (p + m) c) ((some ⟨g, if m = 0 then 0 else 0 + p * 1, none⟩)) h') := by
  refine cl_intro Try.func155 rfl rfl rfl ?_
  have K : Keep [] h h := Keep.refl _ _
  refine tr_seq ?_
  refine tr_reg ?_
  refine rs_v (v_assign rfl) rfl ?_
  refine rs_v (v_assign rfl) rfl ?_
  refine rs_nil ?_
  refine q_thn ?_
  refine tr_seq ?_
  refine tr_seq ?_
  refine tr_reg ?_
  refine rs_v (v_move rfl) rfl ?_
  refine rs_v (v_cap u_bytealloc_A rfl) rfl ?_
  refine rs_v (v_move rfl) rfl ?_
  refine rs_v (v_len u_bytealloc_A rfl) rfl ?_
  refine rs_v (v_sub rfl rfl (by omega) (by omega)) rfl ?_
  refine rs_v (v_move rfl) rfl ?_
  refine rs_v (v_lt rfl rfl) rfl ?_
  refine rs_nil ?_
  refine q_thn ?_
  refine tr_if_f (congrArg some (congrArg Value.bool (decide_eq_false (by omega)))) ?_
  refine tr_skip ?_
  refine q_thn ?_
  refine tr_seq ?_
  refine tr_reg ?_
  refine rs_v (v_move rfl) rfl ?_
  refine rs_v (v_len u_bytealloc_A rfl) rfl ?_
  refine rs_v (v_assign rfl) rfl ?_
  refine rs_nil ?_
  refine q_thn ?_
  refine tr_seq ?_
  refine tr_reg ?_
  refine rs_v (v_move rfl) rfl ?_
  refine rs_v (v_move rfl) rfl ?_
  refine rs_v (v_move rfl) rfl ?_
  refine rs_v (v_move rfl) rfl ?_
  refine rs_v (v_add rfl rfl (by omega) (by omega)) rfl ?_
  refine rs_v (v_move rfl) rfl ?_
  refine rs_v (v_move rfl) rfl ?_
  refine rs_v (v_add rfl rfl (by omega) (by omega)) rfl ?_
  refine rs_v (v_slice_lhm (i := p) (j := m) u_bytealloc_A siz_uint8 rfl rfl rfl rfl rfl (by omega) (by omega) (by omega)) rfl ?_
  refine rs_v (v_assign rfl) rfl ?_
  refine rs_nil ?_
  refine q_thn ?_
  refine tr_seq ?_
  refine tr_reg ?_
  refine rs_v (v_move rfl) rfl ?_
  refine rs_v (v_move rfl) rfl ?_
  refine rs_v (v_move rfl) rfl ?_
  refine rs_v (v_add rfl rfl (by omega) (by omega)) rfl ?_
  refine rs_v (v_slice_h (i := p + m) u_bytealloc_A siz_uint8 rfl rfl (by omega) (by omega)) rfl ?_
  refine rs_v (v_assign rfl) rfl ?_
  refine rs_nil ?_
  refine q_thn ?_
  refine tr_seq ?_
  refine tr_reg ?_
  refine rs_v (v_move rfl) rfl ?_
  refine rs_v (v_move rfl) rfl ?_
  refine rs_v (v_assign rfl) rfl ?_
  refine rs_v (v_assign rfl) rfl ?_
  refine rs_nil ?_
  refine q_thn ?_
  refine tr_ret ?_
  refine q_ret (res_tmp2 rfl rfl rfl) ?_
  exact ⟨rfl, K, .inr ⟨g, p, c, cs, rfl, rfl, h0, hc, hcs, B, .inl rfl⟩⟩
theorem c_Alloc (χ : Chi) (h : Heap) (a : Value) (ha : Aren h a) (m : Nat) (hm : m ≤ 2147483647) :
    ∃ x n c d0, Cl Try.prog χ 155 #[a, .int .i64 (m : Int)] h (fun r h' => r = .tuple #[.slice x n c, .slice d0 m m] ∧ AllocH a m h (.slice x n c) d0 h') := by
  rcases ha with rfl | ⟨g, n, c, cs, rfl, h1, h2, h3, B⟩
  · rcases Nat.eq_zero_or_pos m with h0 | h0
    · exact ⟨_, _, _, _, c_Alloc2 χ h m hm h0⟩
    · exact ⟨_, _, _, _, c_Alloc1 χ h m hm h0⟩
  · rcases Nat.lt_or_ge c (n + m) with h0 | h0
    · exact ⟨_, _, _, _, c_Alloc3 χ h g n c cs h1 h2 h3 B m hm h0⟩
    · exact ⟨_, _, _, _, c_Alloc4 χ h g n c cs h1 h2 h3 B m hm h0⟩
end Go.Proofs.Ytgebfbnndgjkiaa
namespace Go.Proofs.Ytgebfbnndgjkiaa
open Go.Tess Go.RowKit
set_option maxRecDepth 100000
set_option maxHeartbeats 1000000
theorem info_sz_u8 : (Try.prog.info? 5).map (·.size) = some 1 := by kernel_rfl
theorem bc_len (l : List UInt8) : (byteCells l).length = l.length := by simp [byteCells]
theorem bc_at {l : List UInt8} {i : Nat} {x : UInt8} (h : l[i]? = some x) : (byteCells l)[i]? = some (.int .u8 (x.toNat : Int)) := by simp only [byteCells, List.getElem?_map, h]; rfl
theorem ba_size (s : ByteArray) : s.data.toList.length = s.size := Array.length_toList
/-- What is read after bytes have been laid into a row. -/
theorem laid_at {cur cs : List Value} {p : Nat} (hp : p + cs.length ≤ cur.length) : (cur.take p ++ cs ++ cur.drop (p + cs.length)).length = cur.length ∧ (∀ (j : Nat) v, j < p → cur[j]? = some v → (cur.take p ++ cs ++ cur.drop (p + cs.length))[j]? = some v) ∧ ∀ (j : Nat) v, cs[j]? = some v → (cur.take p ++ cs ++ cur.drop (p + cs.length))[p + j]? = some v := by
  have hl : (cur.take p).length = p := by rw [List.length_take]; omega
  refine ⟨by simp; omega, fun j v hj hv => ?_, fun j v hv => ?_⟩
  · rw [List.append_assoc, List.getElem?_append_left (by omega), List.getElem?_take_of_lt hj]; exact hv
  · have hj := (List.getElem?_eq_some_iff.1 hv).1
    rw [List.append_assoc, List.getElem?_append_right (by omega), hl, List.getElem?_append_left (by omega), show p + j - p = j from by omega]; exact hv
theorem copy_fin {a a1 : Value} {d0 : Option Addr} {h h1 h2 : Heap} {s : ByteArray} (ha : Aren h a) (hal : AllocH a s.data.toList.length h a1 d0 h1) (hcp : Copied d0 (byteCells s.data.toList) h1 h2) (hs : s.size ≤ 2147483647) :
    Aren h2 a1 ∧ Tn [] h h2 a a1 ∧ SBy (fun b => b ∈ a1.ownBlock.toList) a1 h2 (.slice d0 s.data.toList.length s.data.toList.length) s := by
  have hsl := ba_size s
  obtain ⟨K, hal⟩ := hal
  rcases hal with ⟨rfl, rfl, rfl, hm⟩ | ⟨g, p, k, cs, rfl, rfl, hpk, hk, hcs, B, ha1⟩
  · have hh : h2 = h1 := by
      rcases hcp with ⟨_, e⟩ | ⟨g, p, cur, T, e, _⟩
      · exact e
      · cases e
    subst hh
    refine ⟨.inl rfl, ⟨K.1, fun b hb _ _ => K.2 b hb (by simp), fun b o v _ _ hc => K.cell (by simp) hc, fun b o hf => ?_, fun x hx => .inl hx⟩, ?_⟩
    · obtain ⟨n, c, e, _⟩ := hf; cases e
    · rw [hm]; exact SBy.nil _ _ _ _ _ (List.eq_nil_of_length_eq_zero hm)
  · -- the block after the copy
    have hfin : ∃ cs2, cs2.length = k ∧ Blk h2 g cs2 5 ∧ Keep [g] h1 h2 ∧ (∀ (j : Nat) v, j < p → cs[j]? = some v → cs2[j]? = some v) ∧ ∀ (j : Nat) v, (byteCells s.data.toList)[j]? = some v → cs2[p + j]? = some v := by
      rcases hcp with ⟨e, rfl⟩ | ⟨g', p', cur, T, e, B1, hfit, B2, K2⟩
      · exact ⟨cs, hcs, B, Keep.refl _ _, fun _ _ _ hv => hv, fun j v hv => by rw [e] at hv; simp at hv⟩
      · have hg : g' = g ∧ p' = if s.data.toList.length = 0 then 0 else 0 + p * 1 := by
          simp only [Option.some.injEq, Addr.mk.injEq] at e; exact ⟨e.1.symm, e.2.1.symm⟩
        obtain ⟨rfl, rfl⟩ := hg
        have he : cur = cs ∧ T = 5 := by
          have := B1.symm.trans B
          simp at this; exact this
        obtain ⟨rfl, rfl⟩ := he
        by_cases h0 : s.data.toList.length = 0
        · have hnil : byteCells s.data.toList = [] := List.eq_nil_of_length_eq_zero (by rw [bc_len]; exact h0)
          rw [hnil] at B2 ⊢
          refine ⟨cur, hcs, by simpa using B2, K2, fun _ _ _ hv => hv, fun j v hv => by simp at hv⟩
        · rw [if_neg h0, Nat.zero_add, Nat.mul_one] at B2 hfit
          obtain ⟨l1, l2, l3⟩ := laid_at hfit
          exact ⟨_, l1.trans hcs, B2, K2, l2, l3⟩
    obtain ⟨cs2, hl2, B2, K2, hold, hnew⟩ := hfin
    have hz := K.1; have hz2 := K2.1
    have hgl := B.lt
    refine ⟨.inr ⟨g, _, k, cs2, rfl, hpk, hk, hl2, B2⟩, ⟨by omega, fun b hb _ ho => ?_, fun b o v _ hf hc => ?_, fun b o hf => ?_, fun x hx => ?_⟩, ⟨by omega, _, _, rfl, fun i x hi => ?_⟩⟩
    · refine (K2.2 b (by omega) (fun hm => ?_)).trans (K.2 b hb (by simp))
      rw [List.mem_singleton] at hm; subst hm
      rcases ha1 with rfl | ⟨h9, _⟩
      · exact ho (by simp [Value.ownBlock])
      · omega
    · have hc1 := K.cell (by simp) hc
      by_cases hb : b = g
      · subst hb
        rcases ha1 with rfl | ⟨h9, _⟩
        · have ho : o < p := Nat.lt_of_not_le fun h => hf ⟨_, _, rfl, h⟩
          have : cs[o]? = some v := by
            simp only [cellH, Blk] at hc1 B
            rw [B] at hc1; simpa using hc1
          exact B2.cell o (hold o v ho this)
        · have := cellH_lt hc; omega
      · exact K2.cell (by simpa using hb) hc1
    · obtain ⟨n, c, e, ho⟩ := hf
      simp only [Value.slice.injEq, Option.some.injEq, Addr.mk.injEq] at e
      obtain ⟨⟨e1, _⟩, e2, _⟩ := e
      subst e1
      rcases ha1 with rfl | ⟨h9, _⟩
      · exact .inl ⟨_, _, rfl, by omega⟩
      · exact .inr (by omega)
    · simp [Value.ownBlock] at hx; subst hx
      rcases ha1 with rfl | ⟨h9, _⟩
      · exact .inl (by simp [Value.ownBlock])
      · exact .inr (by omega)
    · have hil := (List.getElem?_eq_some_iff.1 hi).1
      rw [if_neg (by omega), Nat.zero_add, Nat.mul_one]
      refine ⟨g, p, rfl, ⟨by simp [Value.ownBlock], fun a n c e => by cases e; omega⟩, ?_, fun hf => ?_⟩
      · rw [Nat.mul_one]; exact B2.cell _ (hnew i _ (bc_at hi))
      · obtain ⟨n, c, e, ho⟩ := hf
        simp only [Value.slice.injEq] at e
        omega

theorem c_Copy0 (χ : Chi) (h : Heap) (a : Value) (ha : Aren h a) (A : Nat → Prop) (x : Option Addr) (c : Nat) (s : ByteArray) (hs : s.size ≤ 2147483647) (hsrc : s.data.toList = [] ∨ ∃ b o, x = some ⟨b, o, none⟩ ∧ A b ∧ CellsAt h b o (byteCells s.data.toList)) (a1 : Value) (d0 : Option Addr)
    (hcl : Cl Try.prog χ 155 #[a, .int .i64 (s.data.toList.length : Int)] h (fun r h' => r = .tuple #[a1, .slice d0 s.data.toList.length s.data.toList.length] ∧ AllocH a s.data.toList.length h a1 d0 h')) :
    Cl Try.prog χ 154 #[a, .slice x s.data.toList.length c] h (fun r h' => r = .tuple #[a1, .slice d0 s.data.toList.length s.data.toList.length] ∧ Aren h' a1 ∧ Tn [] h h' a a1 ∧ SBy (fun b => b ∈ a1.ownBlock.toList) a1 h' (.slice d0 s.data.toList.length s.data.toList.length) s) := by
  refine cl_intro Try.func154 rfl rfl rfl ?_
  have K : Keep [] h h := Keep.refl _ _
  refine tr_seq ?_
  refine tr_reg ?_
  refine rs_v (v_assign rfl) rfl ?_
  refine rs_v (v_assign rfl) rfl ?_
  refine rs_nil ?_
  refine q_thn ?_
  refine tr_seq ?_
  refine tr_reg ?_
  refine rs_v (v_assign rfl) rfl ?_
  refine rs_nil ?_
  refine q_thn ?_
  refine tr_seq ?_
  refine tr_reg ?_
  refine rs_v (v_move rfl) rfl ?_
  refine rs_v (v_move rfl) rfl ?_
  refine rs_v (v_len u_sl_uint8 rfl) rfl ?_
  refine rs_w (w_call (vs := [_, _]) ok_bytealloc_A_Alloc rfl ⟨rfl, rfl, trivial⟩ (hcl)) rfl ?_
  rintro _ h1 ⟨rfl, hal⟩
  have hal0 := hal
  obtain ⟨K1, hal1⟩ := hal
  have hsrc1 : byteCells s.data.toList = [] ∨ ∃ b o2, x = some ⟨b, o2, none⟩ ∧ CellsAt h1 b o2 (byteCells s.data.toList) := by
    rcases hsrc with e | ⟨b, o, e, _, hc⟩
    · exact .inl (by rw [e]; rfl)
    · exact .inr ⟨b, o, e, K1.cells (by simp) hc⟩
  have hd : byteCells s.data.toList = [] ∨ ∃ g p cur T, d0 = some ⟨g, p, none⟩ ∧ Blk h1 g cur T ∧ p + s.data.toList.length ≤ cur.length := by
    rcases hal1 with ⟨_, _, _, e⟩ | ⟨g, p, k, cs, _, rfl, hpk, _, hcs, B, _⟩
    · exact .inl (List.eq_nil_of_length_eq_zero (by rw [bc_len]; exact e))
    · refine .inr ⟨g, _, cs, _, rfl, B, ?_⟩
      split <;> omega
  have K := K.new0 K1; have Z1 := K1.1
  refine rs_v (v_move rfl) rfl ?_
  refine rs_v (v_extract rfl rfl) rfl ?_
  refine rs_v (v_extract rfl rfl) rfl ?_
  refine rs_v (v_assign rfl) rfl ?_
  refine rs_v (v_assign rfl) rfl ?_
  refine rs_nil ?_
  refine q_thn ?_
  refine tr_seq ?_
  refine tr_reg ?_
  refine rs_v (v_move rfl) rfl ?_
  refine rs_v (v_move rfl) rfl ?_
  refine rs_w (w_copyS (cs := byteCells s.data.toList) u_sl_uint8 info_sz_u8 rfl rfl (bc_len _) hsrc1 hd bc_one) rfl ?_
  rintro _ h2 hcp
  refine rs_nil ?_
  refine q_thn ?_
  refine tr_seq ?_
  refine tr_reg ?_
  refine rs_v (v_move rfl) rfl ?_
  refine rs_v (v_move rfl) rfl ?_
  refine rs_v (v_assign rfl) rfl ?_
  refine rs_v (v_assign rfl) rfl ?_
  refine rs_nil ?_
  refine q_thn ?_
  refine tr_ret ?_
  refine q_ret (res_tmp2 rfl rfl rfl) ?_
  exact ⟨rfl, copy_fin ha hal0 hcp hs⟩
theorem c_Copy (χ : Chi) (h : Heap) (a : Value) (ha : Aren h a) (A : Nat → Prop) (bv : Value) (s : ByteArray) (hb : RBytes A h bv s) (hs : s.size ≤ 2147483647) :
    ∃ x n k v1, Cl Try.prog χ 154 #[a, bv] h (fun r h' => r = .tuple #[.slice x n k, v1] ∧ Aren h' (.slice x n k) ∧ Tn [] h h' a (.slice x n k) ∧ SBy (fun b => b ∈ (Value.slice x n k).ownBlock.toList) (.slice x n k) h' v1 s) := by
  obtain ⟨x, c, rfl, hsrc⟩ := RBytes.cellsAt hb
  obtain ⟨y, n, k, d0, hcl⟩ := c_Alloc χ h a ha s.data.toList.length (by rw [ba_size]; exact hs)
  exact ⟨y, n, k, _, c_Copy0 χ h a ha A x c s hs hsrc _ d0 hcl⟩
/-- What saving bytes leaves. -/
def SaveP (cb : Nat) (a ksv kbv : Value) (s : ByteArray) (h : Heap) (r : Value) (h' : Heap) : Prop :=
  ∃ a1, Blk h' cb [a1, ksv, kbv] 164 ∧ Aren h' a1 ∧ Tn [cb] h h' a a1 ∧ SBy (fun b => b ∈ a1.ownBlock.toList) a1 h' r s
theorem c_saveBytes (χ : Chi) (h : Heap) (c cb : Nat) (rest : List Value) (a ksv kbv : Value) (A : Nat → Prop) (bv : Value) (s : ByteArray) (Bc : Blk h c (.pointer (some ⟨cb, 0, none⟩) :: rest) 158) (Bb : Blk h cb [a, ksv, kbv] 164)
    (ha : Aren h a) (hca : c ∉ a.ownBlock.toList) (hcba : cb ∉ a.ownBlock.toList) (hb : RBytes A h bv s) (hs : s.size ≤ 2147483647) :
    Cl Try.prog χ 153 #[.pointer (some ⟨c, 0, none⟩), bv] h (SaveP cb a ksv kbv s h) := by
  obtain ⟨x, cx, rfl, hsrc⟩ := RBytes.cellsAt hb
  obtain ⟨xa, na, ka, v1, hcl⟩ := c_Copy χ h a ha A _ s hb hs
  refine cl_intro Try.func153 rfl rfl rfl ?_
  have K : Keep [] h h := Keep.refl _ _
  refine tr_seq ?_
  refine tr_reg ?_
  refine rs_v (v_assign rfl) rfl ?_
  refine rs_nil ?_
  refine q_thn ?_
  refine tr_seq ?_
  refine tr_seq ?_
  refine tr_reg ?_
  refine rs_v (v_move rfl) rfl ?_
  refine rs_v (v_seqn u_sl_uint8 rfl rfl) rfl ?_
  refine rs_nil ?_
  refine q_thn ?_
  refine tr_if rfl (fun hif => ?_) (fun hif => ?_)
  · -- yes
    skip
    refine tr_seq ?_
    refine tr_reg ?_
    refine rs_v (v_assign rfl) rfl ?_
    refine rs_nil ?_
    refine q_thn ?_
    refine tr_ret ?_
    refine q_thn_ret ?_
    refine q_ret (res_tmp rfl rfl) ?_
    have h0 : s.data.toList = [] := by
      rcases hsrc with e | ⟨b, o, e, _⟩
      · exact e
      · rw [e] at hif; simp at hif
    exact ⟨a, Bb, ha, Tn.refl _ _ _, SBy.nil _ _ _ _ _ h0⟩
  -- no
  skip
  refine tr_skip ?_
  refine q_thn ?_
  refine tr_seq ?_
  have hcst : ∀ h', (h' = h ∨ (fun _ h' => Aren h' (Value.slice xa na ka) ∧ Tn [] h h' a (Value.slice xa na ka) ∧ SBy (fun b => b ∈ (Value.slice xa na ka).ownBlock.toList) (Value.slice xa na ka) h' v1 s) h h') → Blk h' c (.pointer (some ⟨cb, 0, none⟩) :: rest) 158 := fun h' e => by
    rcases e with rfl | e
    · exact Bc
    · exact (e.2.1.blk c Bc.lt (by simp) hca).trans Bc
  refine tr_two 12 18 (fun _ h' => Aren h' (Value.slice xa na ka) ∧ Tn [] h h' a (Value.slice xa na ka) ∧ SBy (fun b => b ∈ (Value.slice xa na ka).ownBlock.toList) (Value.slice xa na ka) h' v1 s) (fun h1 h' => Blk h' cb [(Value.slice xa na ka), ksv, kbv] 164 ∧ Keep [cb] h1 h') (by kernel_rfl) (by kernel_rfl) rfl rfl rfl (by kernel_rfl) ?_
  refine rg_v rfl rfl (fun h' hal => v_move rfl) ?_
  refine rg_v rfl rfl (fun h' hal => v_nilCheck_ptr rfl) ?_
  refine rg_v rfl rfl (fun h' hal => v_fieldAddr fa_keyspan_DefragmentingIter_0 rfl) ?_
  refine rg_v rfl rfl (fun h' hal => by have e := al_01 (by kernel_rfl) hal; have hB := hcst h' e; exact v_load one_p_keyspan_DefragmentingBuffers rfl (hB.cell _ rfl)) ?_
  refine rg_v rfl rfl (fun h' hal => v_move rfl) ?_
  refine rg_v rfl rfl (fun h' hal => v_nilCheck_ptr rfl) ?_
  refine rg_v rfl rfl (fun h' hal => v_fieldAddr fa_keyspan_DefragmentingIter_0 rfl) ?_
  refine rg_v rfl rfl (fun h' hal => by have e := al_0 (by kernel_rfl) hal; subst e; exact v_load one_p_keyspan_DefragmentingBuffers rfl (Bc.cell _ rfl)) ?_
  refine rg_v rfl rfl (fun h' hal => v_nilCheck_ptr rfl) ?_
  refine rg_v rfl rfl (fun h' hal => v_fieldAddr fa_keyspan_DefragmentingBuffers_0 rfl) ?_
  refine rg_v rfl rfl (fun h' hal => by have e := al_0 (by kernel_rfl) hal; subst e; exact v_load one_bytealloc_A rfl (Bb.cell _ rfl)) ?_
  refine rg_v rfl rfl (fun h' hal => v_move rfl) ?_
  refine rg_1 rfl (by kernel_rfl) rfl (w_call (vs := [_, _]) ok_bytealloc_A_Copy rfl ⟨rfl, rfl, trivial⟩ hcl) ?_
  refine rg_v rfl rfl (fun h' hal => v_move rfl) ?_
  refine rg_v (v := (Value.slice xa na ka)) rfl rfl (fun h' hal => v_extract rfl rfl) ?_
  refine rg_v (v := v1) rfl rfl (fun h' hal => v_extract rfl rfl) ?_
  refine rg_v rfl rfl (fun h' hal => v_nilCheck_ptr rfl) ?_
  refine rg_v rfl rfl (fun h' hal => v_fieldAddr fa_keyspan_DefragmentingBuffers_0 rfl) ?_
  refine rg_2 rfl (by kernel_rfl) rfl (fun h1 he => OpW.mono (w_put (v := (Value.slice xa na ka)) siz_bytealloc_A rfl rfl rfl rfl ((he.2.1.blk cb Bb.lt (by simp) hcba).trans Bb) rfl) (fun _ _ e => e)) ?_
  refine rg_v rfl rfl (fun h' hal => v_assign rfl) ?_
  refine rg_end ?_ rfl
  rintro h1 h1 he ⟨B2, K2⟩
  simp only [endM, hypF, ofE, argE, List.nil_append]
  intro _
  refine q_thn ?_
  refine tr_seq ?_
  refine tr_reg ?_
  refine rs_v (v_move rfl) rfl ?_
  refine rs_v (v_assign rfl) rfl ?_
  refine rs_nil ?_
  refine q_thn ?_
  refine tr_ret ?_
  refine q_ret (res_tmp rfl rfl) ?_
  have hcb := Bb.lt
  have hnew : ∀ x, x ∈ (Value.slice xa na ka).ownBlock.toList → x ∉ [cb] := fun x hx hm => by
    rw [List.mem_singleton] at hm; subst hm
    rcases he.2.1.own x hx with h1 | h1
    · exact hcba h1
    · omega
  exact ⟨_, B2, he.1.keep K2 hnew, (he.2.1.more (by simp)).put K2, he.2.2.step (Tn.put (Tn.refl _ _ _) K2) hnew (fun _ h => h)⟩
end Go.Proofs.Ytgebfbnndgjkiaa
namespace Go.Proofs.Ytgebfbnndgjkiaa
open Go.Tess Go.RowKit
set_option maxRecDepth 100000
set_option maxHeartbeats 1000000
abbrev bufT : TypeId := 164
abbrev dfT : TypeId := 158
abbrev keyT : TypeId := 130
abbrev u8T : TypeId := 5
theorem blk_inj {h : Heap} {b : Nat} {x y : List Value} {T U : TypeId} (h1 : Blk h b x T) (h2 : Blk h b y U) : x = y := by
  have := h1.symm.trans h2
  simp at this; exact this.1
/-- The cells of a defragmenting iterator. -/
def dL (cb : Nat) (cm eq it sp : Value) (z : Int) (sv ev kv mt rd : Value) : List Value := [.pointer (some ⟨cb, 0, none⟩), cm, eq, it, sp, .int .i8 z, sv, ev, kv, .int .i8 0, mt, rd]
/-- Its blocks lie apart, and apart from those of the iterator beneath. -/
structure Dis (c cb : Nat) (a ksv kbv : Value) (Fin : Nat → Prop) : Prop where
  ne : c ≠ cb
  fc : ¬ Fin c
  fb : ¬ Fin cb
  a1 : ∀ x, x ∈ a.ownBlock.toList → x ≠ c ∧ x ≠ cb ∧ ¬ Fin x
  k1 : ∀ x, x ∈ ksv.ownBlock.toList → x ≠ c ∧ x ≠ cb ∧ ¬ Fin x ∧ x ∉ a.ownBlock.toList
  b1 : ∀ x, x ∈ kbv.ownBlock.toList → x ≠ c ∧ x ≠ cb ∧ ¬ Fin x ∧ x ∉ a.ownBlock.toList ∧ x ∉ ksv.ownBlock.toList
/-- Bytes have been saved in the arena that a block of buffers holds. -/
def SvS (X : List Nat) (cb : Nat) (ksv kbv : Value) (h h' : Heap) : Prop :=
  h.size ≤ h'.size ∧ ∀ a, Blk h cb [a, ksv, kbv] bufT → Aren h a → ∃ a', Blk h' cb [a', ksv, kbv] bufT ∧ Aren h' a' ∧ Tn X h h' a a'
theorem svs_pre (X : List Nat) (cb : Nat) (ksv kbv : Value) : PreO (SvS X cb ksv kbv) where
  refl := fun h => ⟨Nat.le_refl _, fun a B ha => ⟨a, B, ha, Tn.refl _ _ _⟩⟩
  trans := fun x y z h k => ⟨Nat.le_trans h.1 k.1, fun a B ha => by
    obtain ⟨a1, B1, h1, t1⟩ := h.2 a B ha
    obtain ⟨a2, B2, h2, t2⟩ := k.2 a1 B1 h1
    exact ⟨a2, B2, h2, t1.trans t2⟩⟩
theorem SvS.more {X Y : List Nat} {cb : Nat} {ksv kbv : Value} {h h' : Heap} (hs : SvS X cb ksv kbv h h') (hXY : ∀ x, x ∈ X → x ∈ Y) : SvS Y cb ksv kbv h h' :=
  ⟨hs.1, fun a B ha => by
    obtain ⟨a1, B1, h1, t1⟩ := hs.2 a B ha
    exact ⟨a1, B1, h1, t1.more hXY⟩⟩
/-- Bytes that have been saved since a place, besides the rows of keys. -/
def SvV (h0 : Heap) (a0 : Value) (cb : Nat) (ksv kbv : Value) (s : ByteArray) (v : Value) (h : Heap) : Prop :=
  ∃ a G, Blk h cb [a, ksv, kbv] bufT ∧ Aren h a ∧ SBy G a h v s ∧ ∀ b, G b → b < h.size ∧ b ≠ cb ∧ (b ∈ a0.ownBlock.toList ∨ h0.size ≤ b) ∧ b ∉ ksv.ownBlock.toList
theorem SvV.step {X : List Nat} {h0 h h' : Heap} {a0 : Value} {cb : Nat} {ksv kbv v : Value} {s : ByteArray} (hv : SvV h0 a0 cb ksv kbv s v h) (hs : SvS X cb ksv kbv h h') (hX : ∀ x, x ∈ X → x = cb ∨ x ∈ ksv.ownBlock.toList) : SvV h0 a0 cb ksv kbv s v h' := by
  obtain ⟨a, G, B, ha, hb, hG⟩ := hv
  obtain ⟨a1, B1, h1, t1⟩ := hs.2 a B ha
  refine ⟨a1, G, B1, h1, hb.step t1 (fun b hg hm => ?_) (fun _ h => h), fun b hg => ⟨by have := (hG b hg).1; have := hs.1; omega, (hG b hg).2⟩⟩
  rcases hX b hm with e | e
  · exact (hG b hg).2.1 e
  · exact (hG b hg).2.2.2 e
theorem SvV.form {h0 h : Heap} {a0 : Value} {cb : Nat} {ksv kbv v : Value} {s : ByteArray} (hv : SvV h0 a0 cb ksv kbv s v h) : ∃ x n k, v = .slice x n k := by
  obtain ⟨a, G, B, ha, hb, hG⟩ := hv
  obtain ⟨x, k, e⟩ := SlR.form2 hb
  exact ⟨x, _, k, e⟩
/-- What a call of saveBytes gives. -/
theorem save_svs {cb : Nat} {a ksv kbv r : Value} {s : ByteArray} {h h' : Heap} (B : Blk h cb [a, ksv, kbv] bufT) (hp : SaveP cb a ksv kbv s h r h') : SvS [cb] cb ksv kbv h h' := by
  obtain ⟨a1, B1, h1, t1, _⟩ := hp
  refine ⟨t1.sz, fun a2 B2 _ => ?_⟩
  have := blk_inj B B2
  simp only [List.cons.injEq, and_true] at this
  obtain ⟨rfl, _⟩ := this
  exact ⟨a1, B1, h1, t1⟩
theorem save_svv {X : List Nat} {cb : Nat} {a0 a ksv kbv r : Value} {s : ByteArray} {h0 h h' : Heap} (t0 : Tn X h0 h a0 a) (hcb : cb < h0.size) (ha0 : ∀ x, x ∈ a0.ownBlock.toList → x ≠ cb ∧ x ∉ ksv.ownBlock.toList) (hk : ∀ x, x ∈ ksv.ownBlock.toList → x < h0.size)
    (hp : SaveP cb a ksv kbv s h r h') : SvV h0 a0 cb ksv kbv s r h' := by
  obtain ⟨a1, B1, h1, t1, hb⟩ := hp
  refine ⟨a1, _, B1, h1, hb, fun b hb => ?_⟩
  have hz := t0.sz
  have hor : b ∈ a0.ownBlock.toList ∨ h0.size ≤ b := by
    rcases t1.own b hb with h2 | h2
    · rcases t0.own b h2 with h3 | h3
      · exact .inl h3
      · exact .inr h3
    · exact .inr (by omega)
  refine ⟨h1.low b hb, ?_, hor, ?_⟩
  · rcases hor with h2 | h2
    · exact (ha0 b h2).1
    · omega
  · rcases hor with h2 | h2
    · exact (ha0 b h2).2
    · intro hm; have := hk b hm; omega
/-- A key whose bytes have been saved. -/
def cSKey (G : Nat → Prop) (a : Value) (h : Heap) (c : List Value) (k : KeyD) : Prop := ∃ sv vv, c = [.int .u64 k.tr, sv, vv] ∧ SBy G a h sv k.suf ∧ SBy G a h vv k.val
theorem cSKey.step {X : List Nat} {G G' : Nat → Prop} {a a' : Value} {h h' : Heap} {c : List Value} {k : KeyD} (hs : cSKey G a h c k) (t : Tn X h h' a a') (hX : ∀ b, G b → b ∉ X) (hG : ∀ b, G b → G' b) : cSKey G' a' h' c k := by
  obtain ⟨sv, vv, e, h1, h2⟩ := hs
  exact ⟨sv, vv, e, h1.step t hX hG, h2.step t hX hG⟩
theorem cSKey.pkey {G : Nat → Prop} {a : Value} {h : Heap} {c : List Value} {k : KeyD} (hs : cSKey G a h c k) : cPKey G h c k := by
  obtain ⟨sv, vv, e, h1, h2⟩ := hs
  exact ⟨sv, vv, e, h1.bytes, h2.bytes⟩
/-- The slice of one key that is appended. -/
def NewK (h0 : Heap) (a0 : Value) (cb : Nat) (ksv kbv : Value) (k : KeyD) (v : Value) (h : Heap) : Prop :=
  ∃ g v1 v2 a, v = .slice (some ⟨g, 0, none⟩) 1 1 ∧ Blk h g [.int .u64 k.tr, v1, v2] keyT ∧ Blk h cb [a, ksv, kbv] bufT ∧ Aren h a ∧ h0.size ≤ g ∧ g ∉ a.ownBlock.toList ∧ SvV h0 a0 cb ksv kbv k.suf v1 h ∧ SvV h0 a0 cb ksv kbv k.val v2 h
theorem NewK.step {X : List Nat} {h0 h h' : Heap} {a0 : Value} {cb : Nat} {ksv kbv v : Value} {k : KeyD} (hv : NewK h0 a0 cb ksv kbv k v h) (hs : SvS X cb ksv kbv h h') (hX : ∀ x, x ∈ X → x = cb ∨ x ∈ ksv.ownBlock.toList) (hcb : cb < h0.size) (hk : ∀ x, x ∈ ksv.ownBlock.toList → x < h0.size) : NewK h0 a0 cb ksv kbv k v h' := by
  obtain ⟨g, v1, v2, a, e, Bg, B, ha, hg, hga, h1, h2⟩ := hv
  obtain ⟨a1, B1, ha1, t1⟩ := hs.2 a B ha
  have hgX : g ∉ X := fun hm => by
    rcases hX g hm with e | e
    · omega
    · have := hk g e; omega
  refine ⟨g, v1, v2, a1, e, (t1.blk g Bg.lt hgX hga).trans Bg, B1, ha1, hg, fun hm => ?_, h1.step hs hX, h2.step hs hX⟩
  rcases t1.own g hm with h3 | h3
  · exact hga h3
  · have := Bg.lt; omega
/-- The row of keys behind the append. -/
def AppK (h0 : Heap) (a0 : Value) (cb : Nat) (ksv kbv : Value) (m : Nat) (xs : List Value) (k : KeyD) (v : Value) (h : Heap) : Prop :=
  ∃ v1 v2 a G, Blk h cb [a, ksv, kbv] bufT ∧ Aren h a ∧ Own h 0 keyT 3 v (m + 1) (xs ++ [.int .u64 k.tr, v1, v2]) ∧ SBy G a h v1 k.suf ∧ SBy G a h v2 k.val ∧
    (∀ b, G b → b < h.size ∧ b ≠ cb ∧ (b ∈ a0.ownBlock.toList ∨ h0.size ≤ b) ∧ b ∉ v.ownBlock.toList ∧ b ∉ ksv.ownBlock.toList) ∧ ∀ x, x ∈ v.ownBlock.toList → (x ∈ ksv.ownBlock.toList ∨ h0.size ≤ x) ∧ x ≠ cb ∧ x ∉ a.ownBlock.toList
theorem AppK.step {h0 h h' : Heap} {a0 : Value} {cb : Nat} {ksv kbv v : Value} {m : Nat} {xs : List Value} {k : KeyD} (hv : AppK h0 a0 cb ksv kbv m xs k v h) (hs : SvS [cb] cb ksv kbv h h') : AppK h0 a0 cb ksv kbv m xs k v h' := by
  obtain ⟨v1, v2, a, G, B, ha, O, h1, h2, hG, ho⟩ := hv
  obtain ⟨a1, B1, ha1, t1⟩ := hs.2 a B ha
  have hGX : ∀ b, G b → b ∉ [cb] := fun b hb hm => (hG b hb).2.1 (by simpa using hm)
  have hz := hs.1
  have hol := own_ne O
  refine ⟨v1, v2, a1, G, B1, ha1, O.keep2 t1.keep (fun x hx hm => ?_), h1.step t1 hGX (fun _ h => h), h2.step t1 hGX (fun _ h => h), fun b hb => ⟨by have := (hG b hb).1; omega, (hG b hb).2⟩, fun x hx => ⟨(ho x hx).1, (ho x hx).2.1, fun hm => ?_⟩⟩
  · rcases List.mem_append.1 hm with e | e
    · exact (ho x hx).2.1 (by simpa using e)
    · exact (ho x hx).2.2 e
  · rcases t1.own x hm with h3 | h3
    · exact (ho x hx).2.2 h3
    · have := (hol x hx).2; omega
/-- The append itself. -/
theorem app_svs {cb : Nat} {a ksv kbv : Value} {h h' : Heap} (B : Blk h cb [a, ksv, kbv] bufT) (ha : Aren h a) (hd : ∀ x, x ∈ ksv.ownBlock.toList → x ≠ cb ∧ x ∉ a.ownBlock.toList) (K : Keep ksv.ownBlock.toList h h') : SvS (cb :: ksv.ownBlock.toList) cb ksv kbv h h' := by
  refine ⟨K.1, fun a2 B2 _ => ?_⟩
  have := blk_inj B B2
  simp only [List.cons.injEq, and_true] at this
  obtain ⟨rfl, _⟩ := this
  exact ⟨a, K.blk (fun hm => (hd cb hm).1 rfl) B, ha.keep K (fun x hx hm => (hd x hm).2 hx), (Tn.refl _ _ _).put (K.sub fun x hx => List.mem_cons_of_mem _ hx)⟩
theorem app_appk {X : List Nat} {h0 h h' : Heap} {a0 : Value} {cb : Nat} {ksv kbv v : Value} {m : Nat} {xs : List Value} {k : KeyD} {a1 v1 v2 : Value} (t0 : Tn X h0 h a0 a1) (hcb : cb < h0.size) (hd : ∀ x, x ∈ ksv.ownBlock.toList → x ≠ cb ∧ x ∉ a0.ownBlock.toList ∧ x < h0.size)
    (B : Blk h cb [a1, ksv, kbv] bufT) (ha : Aren h a1) (hs1 : SvV h0 a0 cb ksv kbv k.suf v1 h) (hs2 : SvV h0 a0 cb ksv kbv k.val v2 h) (O : Own h' 0 keyT 3 v (m + 1) (xs ++ [.int .u64 k.tr, v1, v2])) (K : Keep ksv.ownBlock.toList h h') (hv : v.ownBlock = ksv.ownBlock ∨ v.ownBlock = some h.size) : AppK h0 a0 cb ksv kbv m xs k v h' := by
  obtain ⟨x1, G1, C1, _, b1, g1⟩ := hs1
  obtain ⟨x2, G2, C2, _, b2, g2⟩ := hs2
  have e1 := blk_inj B C1; have e2 := blk_inj B C2
  simp only [List.cons.injEq, and_true] at e1 e2
  obtain ⟨rfl, _⟩ := e1; obtain ⟨rfl, _⟩ := e2
  have hz := t0.sz; have hzk := K.1
  have ha1 : ∀ x, x ∈ a1.ownBlock.toList → x ∉ ksv.ownBlock.toList := fun x hx hm => by
    rcases t0.own x hx with e | e
    · exact (hd x hm).2.1 e
    · have := (hd x hm).2.2; omega
  have T : Tn ksv.ownBlock.toList h h' a1 a1 := (Tn.refl _ _ _).put K
  have hG : ∀ b, G1 b ∨ G2 b → b < h.size ∧ b ≠ cb ∧ (b ∈ a0.ownBlock.toList ∨ h0.size ≤ b) ∧ b ∉ ksv.ownBlock.toList := fun b hb => hb.elim (g1 b) (g2 b)
  have hvb : ∀ x, x ∈ v.ownBlock.toList → x ∈ ksv.ownBlock.toList ∨ x = h.size := fun x hx => by
    rcases hv with e | e
    · rw [e] at hx; exact .inl hx
    · rw [e] at hx; simp at hx; exact .inr hx
  refine ⟨v1, v2, a1, fun b => G1 b ∨ G2 b, K.blk (fun hm => (hd cb hm).1 rfl) B, ha.keep K ha1, O, b1.step T (fun b hb => (g1 b hb).2.2.2) (fun b hb => .inl hb), b2.step T (fun b hb => (g2 b hb).2.2.2) (fun b hb => .inr hb), fun b hb => ?_, fun x hx => ?_⟩
  · obtain ⟨q1, q2, q3, q4⟩ := hG b hb
    refine ⟨by omega, q2, q3, fun hm => ?_, q4⟩
    rcases hvb b hm with e | e
    · exact q4 e
    · omega
  · rcases hvb x hx with e | e
    · exact ⟨.inl e, (hd x e).1, fun hm => ha1 x hm e⟩
    · exact ⟨.inr (by omega), by omega, fun hm => by have := ha.low x hm; omega⟩
section
variable {P : Program} {χ : Chi} {n : Nat} {ops : Array Oper} {rest : List Oper} {S Sb : Heap → Heap → Prop} {h0 : Heap} {Z : MEnv → List (Heap → Prop) → Prop} {M : MEnv} {F : List (Heap → Prop)} {big : Bool}
  {dd : Nat} {op : Op} {ty : TypeId} {pos : String} {after : Array Edge}
/-- One that looks at two loose slots, at one, in a part with a great one. -/
theorem rb_o2 (t t2 : Nat) {Ψ Ψ2 : Value → Heap → Prop} (Φ : Value → Heap → Prop) (hne : (t2 == t) = false) (hl : M.lookup t = some (.loose Ψ)) (hl2 : M.lookup t2 = some (.loose Ψ2))
    (hm : ((⟨some dd, op, ty, pos, after, none⟩ : Oper).looksAt ops).contains t = true) (hm2 : ((⟨some dd, op, ty, pos, after, none⟩ : Oper).looksAt ops).contains t2 = true)
    (hst : ∀ v h h', S h0 h → S h h' → Φ v h → Φ v h')
    (hw : ∀ u u2 h', S h0 h' → Ψ u h' → Ψ2 u2 h' → OpW P χ ⟨some dd, op, ty, pos, after, none⟩ (evM ((t2, .val u2) :: (t, .val u) :: M)) h' (fun v h'' => Sb h' h'' ∧ Φ v h''))
    (k : RMb P χ n ops Sb S h0 Z big rest ((dd, .loose Φ) :: M) F) : RMb P χ n ops Sb S h0 Z big (⟨some dd, op, ty, pos, after, none⟩ :: rest) M F :=
  ⟨.loose Φ, false, by simp, fun _ => hst, by simp, fun _ h' hs => om_open t hl hm fun u hu => om_open t2 (by rw [List.lookup_cons, hne]; exact hl2) hm2 fun u2 hu2 => om_w (by simp) rfl (hw u u2 h' hs hu hu2), by simp, by rw [show (big && !false) = big from by simp]; exact k⟩
theorem rb_o (t : Nat) {Ψ : Value → Heap → Prop} (Φ : Value → Heap → Prop) (hl : M.lookup t = some (.loose Ψ)) (hm : ((⟨some dd, op, ty, pos, after, none⟩ : Oper).looksAt ops).contains t = true)
    (hst : ∀ v h h', S h0 h → S h h' → Φ v h → Φ v h')
    (hw : ∀ u h', S h0 h' → Ψ u h' → OpW P χ ⟨some dd, op, ty, pos, after, none⟩ (evM ((t, .val u) :: M)) h' (fun v h'' => Sb h' h'' ∧ Φ v h''))
    (k : RMb P χ n ops Sb S h0 Z big rest ((dd, .loose Φ) :: M) F) : RMb P χ n ops Sb S h0 Z big (⟨some dd, op, ty, pos, after, none⟩ :: rest) M F :=
  ⟨.loose Φ, false, by simp, fun _ => hst, by simp, fun _ h' hs => om_open t hl hm fun u hu => om_w (by simp) rfl (hw u h' hs hu), by simp, by rw [show (big && !false) = big from by simp]; exact k⟩
end
end Go.Proofs.Ytgebfbnndgjkiaa
namespace Go.Proofs.Ytgebfbnndgjkiaa
open Go.Tess Go.RowKit
set_option maxRecDepth 100000
set_option maxHeartbeats 1000000
def SmS (s : SpanD) : Prop := s.s.size ≤ 2147483647 ∧ s.e.size ≤ 2147483647 ∧ s.ks.length ≤ 100000 ∧ ∀ k, k ∈ s.ks → k.suf.size ≤ 2147483647 ∧ k.val.size ≤ 2147483647
/-- The iterator while it keeps a span: k of the keys are kept. -/
structure SvI (c cb : Nat) (a0 k0 kb : Value) (cells : List Value) (h0 : Heap) (s : SpanD) (sv ev : Value) (k : Nat) (a1 k1 : Value) (xs : List Value) (G : Nat → Prop) (h : Heap) : Prop where
  bc : Blk h c cells dfT
  bb : Blk h cb [a1, k1, kb] bufT
  ar : Aren h a1
  ow : Own h 0 keyT 3 k1 k xs
  rw : RowsR 3 (cSKey G a1 h) xs (s.ks.take k)
  b1 : SBy G a1 h sv s.s
  b2 : SBy G a1 h ev s.e
  g : ∀ b, G b → b < h.size ∧ (b ∈ a0.ownBlock.toList ∨ h0.size ≤ b) ∧ b ∉ k1.ownBlock.toList
  ao : ∀ x, x ∈ a1.ownBlock.toList → x ∈ a0.ownBlock.toList ∨ h0.size ≤ x
  ko : ∀ x, x ∈ k1.ownBlock.toList → (x ∈ k0.ownBlock.toList ∨ h0.size ≤ x) ∧ x ∉ a1.ownBlock.toList
  kp : Keep (c :: cb :: (a0.ownBlock.toList ++ k0.ownBlock.toList)) h0 h
section
variable {c cb : Nat} {a0 k0 kb a1 k1 sv ev : Value} {cells cells' : List Value} {h0 h h' ha : Heap} {s : SpanD} {k : Nat} {xs : List Value} {G : Nat → Prop} {Fin : Nat → Prop}
theorem SvI.ane (i : SvI c cb a0 k0 kb cells h0 s sv ev k a1 k1 xs G h) (hd : Dis c cb a0 k0 kb Fin) (hc : c < h0.size) (hb : cb < h0.size) : ∀ x, x ∈ a1.ownBlock.toList → x ≠ c ∧ x ≠ cb := fun x hx => by
  rcases i.ao x hx with e | e
  · exact ⟨(hd.a1 x e).1, (hd.a1 x e).2.1⟩
  · exact ⟨by omega, by omega⟩
theorem SvI.kne (i : SvI c cb a0 k0 kb cells h0 s sv ev k a1 k1 xs G h) (hd : Dis c cb a0 k0 kb Fin) (hc : c < h0.size) (hb : cb < h0.size) : ∀ x, x ∈ k1.ownBlock.toList → x ≠ c ∧ x ≠ cb := fun x hx => by
  rcases (i.ko x hx).1 with e | e
  · exact ⟨(hd.k1 x e).1, (hd.k1 x e).2.1⟩
  · exact ⟨by omega, by omega⟩
theorem SvI.gne (i : SvI c cb a0 k0 kb cells h0 s sv ev k a1 k1 xs G h) (hd : Dis c cb a0 k0 kb Fin) (hc : c < h0.size) (hb : cb < h0.size) : ∀ b, G b → b ≠ c ∧ b ≠ cb := fun x hx => by
  rcases (i.g x hx).2.1 with e | e
  · exact ⟨(hd.a1 x e).1, (hd.a1 x e).2.1⟩
  · exact ⟨by omega, by omega⟩
/-- A store into the iterator's own block. -/
theorem SvI.putC (i : SvI c cb a0 k0 kb cells h0 s sv ev k a1 k1 xs G h) (hd : Dis c cb a0 k0 kb Fin) (hc : c < h0.size) (hb : cb < h0.size) (K : Keep [c] h h') (B : Blk h' c cells' dfT) : SvI c cb a0 k0 kb cells' h0 s sv ev k a1 k1 xs G h' := by
  have T : Tn [c] h h' a1 a1 := (Tn.refl _ _ _).put K
  have hg : ∀ b, G b → b ∉ [c] := fun b hb' hm => (i.gne hd hc hb b hb').1 (by simpa using hm)
  exact ⟨B, K.blk (by simp; exact fun e => hd.ne e.symm) i.bb, i.ar.keep K (fun x hx hm => (i.ane hd hc hb x hx).1 (by simpa using hm)), i.ow.keep2 K (fun x hx hm => (i.kne hd hc hb x hx).1 (by simpa using hm)),
    i.rw.mono fun c a hr => hr.step T hg (fun _ h => h), i.b1.step T hg (fun _ h => h), i.b2.step T hg (fun _ h => h), fun b hb => ⟨by have := (i.g b hb).1; have := K.1; omega, (i.g b hb).2⟩, i.ao, i.ko, i.kp.trans (K.sub (by simp))⟩
/-- The first two saved, and curr told of them. -/
theorem SvI.start (hd : Dis c cb a0 k0 kb Fin) (hcl : c < h0.size) (hbl : cb < h0.size) {kv : Value} (hkv : kv.ownBlock = k0.ownBlock) {kb2 : Value} (K0 : Keep [c, cb] h0 h) (ha0 : Aren h a0) (Bb : Blk h cb [a0, kv, kb2] bufT) (Ok : Own h 0 keyT 3 kv 0 [])
    (Sv : SvS [cb] cb kv kb2 h ha) (q1 : SvV h a0 cb kv kb2 s.s sv ha) (q2 : SvV h a0 cb kv kb2 s.e ev ha) (K : Keep [c] ha h') (B : Blk h' c cells dfT) : ∃ a1 G, SvI c cb a0 k0 kb2 cells h0 s sv ev 0 a1 kv [] G h' := by
  obtain ⟨a1, B1, ha1, T⟩ := Sv.2 a0 Bb ha0
  obtain ⟨x1, G1, C1, _, b1, g1⟩ := q1
  obtain ⟨x2, G2, C2, _, b2, g2⟩ := q2
  have e1 := blk_inj B1 C1; have e2 := blk_inj B1 C2
  simp only [List.cons.injEq, and_true] at e1 e2
  obtain ⟨rfl, _⟩ := e1; obtain ⟨rfl, _⟩ := e2
  have hz := K0.1; have hz2 := T.sz; have hz3 := K.1
  have hG : ∀ b, G1 b ∨ G2 b → b < ha.size ∧ b ≠ cb ∧ (b ∈ a0.ownBlock.toList ∨ h.size ≤ b) ∧ b ∉ kv.ownBlock.toList := fun b hb => hb.elim (g1 b) (g2 b)
  have hGc : ∀ b, G1 b ∨ G2 b → b ∉ [c] := fun b hb hm => by
    rw [List.mem_singleton] at hm; subst hm
    rcases (hG b hb).2.2.1 with e | e
    · exact (hd.a1 b e).1 rfl
    · omega
  have hao : ∀ x, x ∈ a1.ownBlock.toList → x ∈ a0.ownBlock.toList ∨ h0.size ≤ x := fun x hx => by
    rcases T.own x hx with e | e
    · exact .inl e
    · exact .inr (by omega)
  have hac : ∀ x, x ∈ a1.ownBlock.toList → x ≠ c := fun x hx => by
    rcases hao x hx with e | e
    · exact (hd.a1 x e).1
    · omega
  have Tc : Tn [c] ha h' a1 a1 := (Tn.refl _ _ _).put K
  refine ⟨a1, fun b => G1 b ∨ G2 b, B, K.blk (by simp; exact fun e => hd.ne e.symm) B1, ha1.keep K (fun x hx hm => hac x hx (by simpa using hm)), ?_, RowsR.nil _ _, b1.step Tc (fun b hb => hGc b (.inl hb)) (fun _ h => .inl h), b2.step Tc (fun b hb => hGc b (.inr hb)) (fun _ h => .inr h), fun b hb => ?_, hao, fun x hx => ?_, ?_⟩
  · refine (Ok.keep2 T.keep (fun x hx hm => ?_)).keep2 K (fun x hx hm => ?_)
    · rw [hkv] at hx
      rcases List.mem_append.1 hm with e | e
      · exact (hd.k1 x hx).2.1 (by simpa using e)
      · exact (hd.k1 x hx).2.2.2 e
    · rw [hkv] at hx; exact (hd.k1 x hx).1 (by simpa using hm)
  · obtain ⟨p1, p2, p3, p4⟩ := hG b hb
    refine ⟨by omega, ?_, p4⟩
    rcases p3 with e | e
    · exact .inl e
    · exact .inr (by omega)
  · rw [hkv] at hx
    refine ⟨.inl hx, fun hm => ?_⟩
    have hxl := (own_ne Ok x (by rw [hkv]; exact hx)).2
    rcases T.own x hm with e | e
    · exact (hd.k1 x hx).2.2.2 e
    · omega
  · refine ⟨by omega, fun b hb hm => ?_⟩
    simp only [List.mem_cons, List.mem_append, not_or] at hm
    obtain ⟨m1, m2, m3, m4⟩ := hm
    exact (K.2 b (by omega) (by simpa using m1)).trans ((T.blk b (by omega) (by simpa using m2) m3).trans (K0.2 b hb (by simp; exact ⟨m1, m2⟩)))
/-- One key more. -/
theorem SvI.app (i : SvI c cb a0 k0 kb cells h0 s sv ev k a1 k1 xs G h) (hd : Dis c cb a0 k0 kb Fin) (hcl : c < h0.size) (hbl : cb < h0.size) {key : KeyD} (hk : s.ks[k]? = some key) (Sv : SvS (cb :: k1.ownBlock.toList) cb k1 kb h ha) {v : Value} (q : AppK h a1 cb k1 kb k xs key v ha)
    (K : Keep [cb] ha h') (B : ∀ a2, Blk ha cb [a2, k1, kb] bufT → Blk h' cb [a2, v, kb] bufT) : ∃ a2 xs2 G2, SvI c cb a0 k0 kb cells h0 s sv ev (k + 1) a2 v xs2 G2 h' := by
  obtain ⟨a2, B2, ha2, T⟩ := Sv.2 a1 i.bb i.ar
  obtain ⟨v1, v2, a3, G3, B3, _, O, b1, b2, g3, ho⟩ := q
  have e1 := blk_inj B2 B3
  simp only [List.cons.injEq, and_true] at e1
  obtain ⟨rfl, _⟩ := e1
  have hz := T.sz; have hz2 := K.1; have hz0 := i.kp.1
  have hane := i.ane hd hcl hbl; have hkne := i.kne hd hcl hbl; have hgne := i.gne hd hcl hbl
  have hGX : ∀ b, G b → b ∉ cb :: k1.ownBlock.toList := fun b hb hm => by
    rcases List.mem_cons.1 hm with e | e
    · exact (hgne b hb).2 e
    · exact (i.g b hb).2.2 e
  have T2 : Tn [cb] ha h' a2 a2 := (Tn.refl _ _ _).put K
  have hGc : ∀ b, G b → b ∉ [cb] := fun b hb hm => (hgne b hb).2 (by simpa using hm)
  have hG3c : ∀ b, G3 b → b ∉ [cb] := fun b hb hm => (g3 b hb).2.1 (by simpa using hm)
  have hao : ∀ x, x ∈ a2.ownBlock.toList → x ∈ a0.ownBlock.toList ∨ h0.size ≤ x := fun x hx => by
    rcases T.own x hx with e | e
    · exact i.ao x e
    · exact .inr (by omega)
  refine ⟨a2, xs ++ [.int .u64 key.tr, v1, v2], fun b => G b ∨ G3 b, ?_, B a2 B2, ha2.keep K (fun x hx hm => ?_), O.keep2 K (fun x hx hm => (ho x hx).2.1 (by simpa using hm)), ?_, (i.b1.step T hGX (fun _ h => h)).step T2 hGc (fun _ h => .inl h), (i.b2.step T hGX (fun _ h => h)).step T2 hGc (fun _ h => .inl h), fun b hb => ?_, hao, fun x hx => ?_, ?_⟩
  · refine (K.2 c (by have := i.bc.lt; omega) (by simp; exact hd.ne)).trans ((T.blk c i.bc.lt (fun hm => ?_) (fun hm => (hane c hm).1 rfl)).trans i.bc)
    rcases List.mem_cons.1 hm with e | e
    · exact hd.ne e
    · exact (hkne c e).1 rfl
  · have : x ≠ cb := by
      rcases hao x hx with e | e
      · exact (hd.a1 x e).2.1
      · omega
    exact this (by simpa using hm)
  · rw [take_snoc' hk]
    exact RowsR.snoc (i.rw.mono fun c a hr => (hr.step T hGX (fun _ h => h)).step T2 hGc (fun _ h => .inl h)) rfl ⟨v1, v2, rfl, b1.step T2 hG3c (fun _ h => .inr h), b2.step T2 hG3c (fun _ h => .inr h)⟩
  · rcases hb with hb | hb
    · obtain ⟨p1, p2, p3⟩ := i.g b hb
      refine ⟨by omega, p2, fun hm => ?_⟩
      rcases (ho b hm).1 with e | e
      · exact p3 e
      · omega
    · obtain ⟨p1, p2, p3, p4, _⟩ := g3 b hb
      refine ⟨by omega, ?_, p4⟩
      rcases p3 with e | e
      · exact i.ao b e
      · exact .inr (by omega)
  · obtain ⟨p1, p2, p3⟩ := ho x hx
    refine ⟨?_, p3⟩
    rcases p1 with e | e
    · exact (i.ko x e).1
    · exact .inr (by omega)
  · refine ⟨by omega, fun b hb hm => ?_⟩
    have hm0 := hm
    simp only [List.mem_cons, List.mem_append, not_or] at hm
    obtain ⟨m1, m2, m3, m4⟩ := hm
    refine (K.2 b (by omega) (by simpa using m2)).trans ((T.blk b (by omega) (fun h9 => ?_) (fun h9 => ?_)).trans (i.kp.2 b hb hm0))
    · rcases List.mem_cons.1 h9 with e | e
      · exact m2 e
      · rcases (i.ko b e).1 with e2 | e2
        · exact m4 e2
        · omega
    · rcases i.ao b h9 with e2 | e2
      · exact m3 e2
      · omega
end
theorem c_Reset (χ : Chi) (h : Heap) (x : Option Addr) (n c : Nat) :
    Cl Try.prog χ 140 #[.slice x n c] h (fun r h' => r = .slice x 0 c ∧ h' = h) := by
  refine cl_intro Try.func140 rfl rfl rfl ?_
  have K : Keep [] h h := Keep.refl _ _
  refine tr_seq ?_
  refine tr_reg ?_
  refine rs_v (v_assign rfl) rfl ?_
  refine rs_nil ?_
  refine q_thn ?_
  refine tr_seq ?_
  refine tr_reg ?_
  refine rs_v (v_move rfl) rfl ?_
  refine rs_v (v_slice_h (i := 0) u_bytealloc_A siz_uint8 rfl rfl rfl (Nat.zero_le _)) rfl ?_
  refine rs_v (v_assign rfl) rfl ?_
  refine rs_nil ?_
  refine q_thn ?_
  refine tr_ret ?_
  refine q_ret (res_tmp rfl rfl) ?_
  exact ⟨rfl, rfl⟩
end Go.Proofs.Ytgebfbnndgjkiaa
