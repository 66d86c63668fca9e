/- Twenty-first part: how the filtering iterator seeks. Conditions: those that each theorem names. -/
import Derived.Test.YtgebfbnndgjkiaaW20
set_option linter.unusedVariables false
set_option linter.unusedSimpArgs false
namespace Go.Proofs.Ytgebfbnndgjkiaa
open Go.Tess Go.RowKit
set_option maxRecDepth 100000
set_option maxHeartbeats 1000000

theorem c_FiSeekGE {χ : Chi} {ff : SpanD → Option SpanD} {fv : Value} {G0 : Nat → Prop} {Env : Heap → Prop} {W : List SpanD} {t : TypeId} {v0 : Value} {I : ItI} {c : Nat} {F : Nat → Prop} {h : Heap} {p : Pos} {kv0 : Value} {key : ByteArray}
    (hit : IterOK Try.prog χ W t v0 I) (hfn : FnOK χ W ff fv G0 Env) (hWn : ∀ s, s ∈ W → s.ks.length ≤ 100000) (hO : Tess.Ord W) (hSh : Shrink ff W) (hI : FIt ff W I t v0 fv c G0 Env p F h) (hkey : RBytes (fun b => ¬ F b) h kv0 key) :
    Cl Try.prog χ 166 #[.pointer (some ⟨c, 0, none⟩), kv0] h (ItPost (W.filterMap ff) (FIt ff W I t v0 fv c G0 Env) F h (pGE (W.filterMap ff) key)) := by
  obtain ⟨q, Fin, sv, ev, kv, kk, n, xs, hs, hrel⟩ := hI
  have Bc := hs.2.1
  refine cl_intro Try.func166 rfl rfl rfl ?_
  have K : Keep [] h h := Keep.refl _ _
  refine tr_seq ?_
  refine tr_reg ?_
  refine rs_v (v_assign rfl) rfl ?_
  refine rs_nil ?_
  refine q_thn ?_
  refine tr_seq ?_
  refine tr_reg ?_
  refine rs_v (v_move rfl) rfl ?_
  refine rs_v (v_move rfl) rfl ?_
  refine rs_v (v_nilCheck_ptr rfl) rfl ?_
  refine rs_v (v_fieldAddr fa_keyspan_filteringIter_0 rfl) rfl ?_
  refine rs_v (v_load one_keyspan_FragmentIterator rfl (by exact Bc.cell _ rfl)) rfl ?_
  refine rs_v (v_move rfl) rfl ?_
  refine rs_w (w_mcall (vs := [_]) (hit.ge hs.1 (hkey.mono (fun b hb hf => hb (hs.2.2.2.2.2.2.2.2.1 b hf)))) rfl ⟨rfl, trivial⟩) rfl ?_
  rintro r1 h1 hp1
  obtain ⟨Fin', hs', hF', KP', hret'⟩ := fst_inner hit hfn hs hp1
  refine rs_w (w_call (vs := [_, _, _]) ok_keyspan_filteringIter_filter rfl ⟨rfl, rfl, rfl, trivial⟩ (c_filterF hit hfn hWn in_ge hs' hret')) rfl ?_
  rintro r2 h2 hp2
  have hFF : ∀ b, (F b ∨ Fin' b) → F b ∨ h.size ≤ b := fun b hb => hb.elim .inl (fun e => (hF' b e).imp (hs.2.2.2.2.2.2.2.2.1 b) id)
  have hp20 := hp2
  obtain ⟨F2, hI2, hF2, KP2, hret2⟩ := hp2
  have hI20 := hI2
  obtain ⟨q2, Fin2, sv2, ev2, kv2, kk2, n2, xs2, hs2, hrel2⟩ := hI20
  have Bc := hs2.2.1
  have KPt := KP'.trans KP2 hFF
  have hF9 : ∀ b, F2 b → F b ∨ h.size ≤ b := fun b hb => (hF2 b hb).elim (hFF b) (fun e => .inr (by have := KP'.1; omega))
  have hke : RBy h2 kv0 key := RBytes.by ((RBytes.lowen hkey).stab (fun b hb => KPt.2 b hb.2 hb.1))
  have hlaw := seek_ge hO hSh key
  refine rs_v (v_assign rfl) rfl ?_
  refine rs_nil ?_
  refine q_thn ?_
  refine tr_seq ?_
  refine tr_cut (fun E h' => ∃ bb : Bool, h2 = h' ∧ E = [(0, .pointer (some ⟨c, 0, none⟩)), (1, kv0), (5, r2), (28, .bool bb)] ∧ (bb = true → ∃ s2, cur (W.filterMap ff) (fwdP ff W (pGE W key)) = some s2 ∧ sle s2.e key = true) ∧ (bb = false → ∀ s2, cur (W.filterMap ff) (fwdP ff W (pGE W key)) = some s2 → sle s2.e key = false)) ?_ ?_
  ·
    obtain ⟨qv, rfl, hq⟩ := hret2.form
    rcases hq with ⟨rfl, hcur⟩ | ⟨s2, b, o, rfl, hcur, hFb, hps⟩
    · skip
      refine tr_quiet (by kernel_rfl) (by kernel_rfl) ?_
      refine rq_v (v_move rfl) ?_
      refine rq_v (v_pne u_p_keyspan_Span rfl rfl) ?_
      refine rq_v (v_move rfl) ?_
      refine rm_gs same_pre rfl rfl rfl ?_
      refine rm_gs same_pre rfl rfl rfl ?_
      refine rm_gs same_pre rfl rfl rfl ?_
      refine rm_gs same_pre rfl rfl rfl ?_
      refine rm_gs same_pre rfl rfl rfl ?_
      refine rm_gs same_pre rfl rfl rfl ?_
      refine rm_gs same_pre rfl rfl rfl ?_
      refine rm_gs same_pre rfl rfl rfl ?_
      refine rm_gs same_pre rfl rfl rfl ?_
      refine rm_gs same_pre rfl rfl rfl ?_
      refine rm_gs same_pre rfl rfl rfl ?_
      refine rq_v (v_pick_f rfl rfl) ?_
      refine rm_end ?_; simp only [endM, hypF, ofE, argE]
      exact q_cut [(0, _), (1, _), (5, _), (28, _)] ⟨rfl, rfl, rfl, rfl, trivial⟩ ⟨_, rfl, rfl, (fun h9 => by cases h9), fun _ s2 hs9 => by rw [hcur] at hs9; cases hs9⟩
    · obtain ⟨sv9, ev9, kv9, kk9, hcell, g1, g2, g3⟩ := hps
      refine tr_quiet (by kernel_rfl) (by kernel_rfl) ?_
      refine rq_v (v_move rfl) ?_
      refine rq_v (v_pne u_p_keyspan_Span rfl rfl) ?_
      refine rq_v (v_move rfl) ?_
      refine rq_gv rfl rfl (v_move rfl) ?_
      refine rq_gv rfl rfl (v_nilCheck_ptr rfl) ?_
      refine rq_gv rfl rfl (v_fieldAddr fa_keyspan_filteringIter_2 rfl) ?_
      refine rq_gv rfl rfl (v_load one_base_Compare rfl (by exact Bc.cell _ rfl)) ?_
      refine rq_gv rfl rfl (v_move rfl) ?_
      refine rq_gv rfl rfl (v_nilCheck_ptr rfl) ?_
      refine rq_gv rfl rfl (v_fieldAddr fa_keyspan_Span_1 rfl) ?_
      refine rq_gv rfl rfl (v_load one_sl_uint8 rfl (by exact hcell.at 1 rfl)) ?_
      refine rq_gv rfl rfl (v_move rfl) ?_
      refine rq_gw rfl rfl (w_callv (first := []) (cap := []) (vs := [_, _]) ok_bytes_Compare rfl ⟨rfl, rfl, trivial⟩ (c_Compare χ _ _ _ s2.e key (RBytes.by g2) hke)) ?_
      refine rq_gv rfl rfl (v_le rfl rfl) ?_
      refine rq_v (v_pick_t rfl rfl) ?_
      refine rm_end ?_; simp only [endM, hypF, ofE, argE]
      exact q_cut [(0, _), (1, _), (5, _), (28, _)] ⟨rfl, rfl, rfl, rfl, trivial⟩ ⟨_, rfl, rfl, (fun h9 => ⟨s2, hcur, sle_iff.2 (of_decide_eq_true h9)⟩), fun h9 s3 hs9 => by rw [hcur] at hs9; cases hs9; exact sle_no.2 (by have := of_decide_eq_false h9; omega)⟩
  rintro E h9 ⟨bb, hh, rfl, hb1, hb0⟩
  subst hh
  refine tr_if rfl (fun hif => ?_) (fun hif => ?_)
  · -- yes
    obtain ⟨s2, hcur, hgood⟩ := hb1 hif
    have hcan : canNext (fwdP ff W (pGE W key)) = true := by
      obtain ⟨i9, e9, _⟩ := cur_some hcur
      rw [e9]; rfl
    refine tr_seq ?_
    refine tr_reg ?_
    refine rs_v (v_move rfl) rfl ?_
    refine rs_w (w_call (vs := [_]) ok_keyspan_filteringIter_Next rfl ⟨rfl, trivial⟩ (c_FiNext hit hfn hWn hI2 hcan)) rfl ?_
    rintro r3 h4 hp3
    refine rs_v (v_assign rfl) rfl ?_
    refine rs_nil ?_
    refine q_thn ?_
    refine tr_ret ?_
    refine q_thn_ret ?_
    refine q_ret (res_tmp rfl rfl) ?_
    rw [hlaw.2 s2 hcur, if_pos hgood]
    exact itpost_trans (KP'.trans KP2 hFF) hF9 hp3
  -- no
  skip
  refine tr_skip ?_
  refine q_thn ?_
  refine tr_seq ?_
  refine tr_reg ?_
  refine rs_v (v_move rfl) rfl ?_
  refine rs_v (v_assign rfl) rfl ?_
  refine rs_nil ?_
  refine q_thn ?_
  refine tr_ret ?_
  refine q_ret (res_tmp rfl rfl) ?_
  have hpp : pGE (W.filterMap ff) key = fwdP ff W (pGE W key) := by
    cases hc9 : cur (W.filterMap ff) (fwdP ff W (pGE W key)) with
    | none => exact hlaw.1 hc9
    | some s2 =>
      have h9 := hb0 hif s2 hc9
      rw [hlaw.2 s2 hc9, if_neg (by rw [h9]; decide)]
  rw [hpp]
  exact itpost_trans KP' hFF hp20
theorem c_FiSeekLT {χ : Chi} {ff : SpanD → Option SpanD} {fv : Value} {G0 : Nat → Prop} {Env : Heap → Prop} {W : List SpanD} {t : TypeId} {v0 : Value} {I : ItI} {c : Nat} {F : Nat → Prop} {h : Heap} {p : Pos} {kv0 : Value} {key : ByteArray}
    (hit : IterOK Try.prog χ W t v0 I) (hfn : FnOK χ W ff fv G0 Env) (hWn : ∀ s, s ∈ W → s.ks.length ≤ 100000) (hO : Tess.Ord W) (hSh : Shrink ff W) (hI : FIt ff W I t v0 fv c G0 Env p F h) (hkey : RBytes (fun b => ¬ F b) h kv0 key) :
    Cl Try.prog χ 167 #[.pointer (some ⟨c, 0, none⟩), kv0] h (ItPost (W.filterMap ff) (FIt ff W I t v0 fv c G0 Env) F h (pLT (W.filterMap ff) key)) := by
  obtain ⟨q, Fin, sv, ev, kv, kk, n, xs, hs, hrel⟩ := hI
  have Bc := hs.2.1
  refine cl_intro Try.func167 rfl rfl rfl ?_
  have K : Keep [] h h := Keep.refl _ _
  refine tr_seq ?_
  refine tr_reg ?_
  refine rs_v (v_assign rfl) rfl ?_
  refine rs_nil ?_
  refine q_thn ?_
  refine tr_seq ?_
  refine tr_reg ?_
  refine rs_v (v_move rfl) rfl ?_
  refine rs_v (v_move rfl) rfl ?_
  refine rs_v (v_nilCheck_ptr rfl) rfl ?_
  refine rs_v (v_fieldAddr fa_keyspan_filteringIter_0 rfl) rfl ?_
  refine rs_v (v_load one_keyspan_FragmentIterator rfl (by exact Bc.cell _ rfl)) rfl ?_
  refine rs_v (v_move rfl) rfl ?_
  refine rs_w (w_mcall (vs := [_]) (hit.lt hs.1 (hkey.mono (fun b hb hf => hb (hs.2.2.2.2.2.2.2.2.1 b hf)))) rfl ⟨rfl, trivial⟩) rfl ?_
  rintro r1 h1 hp1
  obtain ⟨Fin', hs', hF', KP', hret'⟩ := fst_inner hit hfn hs hp1
  refine rs_w (w_call (vs := [_, _, _]) ok_keyspan_filteringIter_filter rfl ⟨rfl, rfl, rfl, trivial⟩ (c_filterB hit hfn hWn in_lt hs' hret')) rfl ?_
  rintro r2 h2 hp2
  have hFF : ∀ b, (F b ∨ Fin' b) → F b ∨ h.size ≤ b := fun b hb => hb.elim .inl (fun e => (hF' b e).imp (hs.2.2.2.2.2.2.2.2.1 b) id)
  have hp20 := hp2
  obtain ⟨F2, hI2, hF2, KP2, hret2⟩ := hp2
  have hI20 := hI2
  obtain ⟨q2, Fin2, sv2, ev2, kv2, kk2, n2, xs2, hs2, hrel2⟩ := hI20
  have Bc := hs2.2.1
  have KPt := KP'.trans KP2 hFF
  have hF9 : ∀ b, F2 b → F b ∨ h.size ≤ b := fun b hb => (hF2 b hb).elim (hFF b) (fun e => .inr (by have := KP'.1; omega))
  have hke : RBy h2 kv0 key := RBytes.by ((RBytes.lowen hkey).stab (fun b hb => KPt.2 b hb.2 hb.1))
  have hlaw := seek_lt hO hSh key
  refine rs_v (v_assign rfl) rfl ?_
  refine rs_nil ?_
  refine q_thn ?_
  refine tr_seq ?_
  refine tr_cut (fun E h' => ∃ bb : Bool, h2 = h' ∧ E = [(0, .pointer (some ⟨c, 0, none⟩)), (1, kv0), (5, r2), (28, .bool bb)] ∧ (bb = true → ∃ s2, cur (W.filterMap ff) (bwdP ff W (pLT W key)) = some s2 ∧ slt s2.s key = false) ∧ (bb = false → ∀ s2, cur (W.filterMap ff) (bwdP ff W (pLT W key)) = some s2 → slt s2.s key = true)) ?_ ?_
  ·
    obtain ⟨qv, rfl, hq⟩ := hret2.form
    rcases hq with ⟨rfl, hcur⟩ | ⟨s2, b, o, rfl, hcur, hFb, hps⟩
    · skip
      refine tr_quiet (by kernel_rfl) (by kernel_rfl) ?_
      refine rq_v (v_move rfl) ?_
      refine rq_v (v_pne u_p_keyspan_Span rfl rfl) ?_
      refine rq_v (v_move rfl) ?_
      refine rm_gs same_pre rfl rfl rfl ?_
      refine rm_gs same_pre rfl rfl rfl ?_
      refine rm_gs same_pre rfl rfl rfl ?_
      refine rm_gs same_pre rfl rfl rfl ?_
      refine rm_gs same_pre rfl rfl rfl ?_
      refine rm_gs same_pre rfl rfl rfl ?_
      refine rm_gs same_pre rfl rfl rfl ?_
      refine rm_gs same_pre rfl rfl rfl ?_
      refine rm_gs same_pre rfl rfl rfl ?_
      refine rm_gs same_pre rfl rfl rfl ?_
      refine rm_gs same_pre rfl rfl rfl ?_
      refine rq_v (v_pick_f rfl rfl) ?_
      refine rm_end ?_; simp only [endM, hypF, ofE, argE]
      exact q_cut [(0, _), (1, _), (5, _), (28, _)] ⟨rfl, rfl, rfl, rfl, trivial⟩ ⟨_, rfl, rfl, (fun h9 => by cases h9), fun _ s2 hs9 => by rw [hcur] at hs9; cases hs9⟩
    · obtain ⟨sv9, ev9, kv9, kk9, hcell, g1, g2, g3⟩ := hps
      refine tr_quiet (by kernel_rfl) (by kernel_rfl) ?_
      refine rq_v (v_move rfl) ?_
      refine rq_v (v_pne u_p_keyspan_Span rfl rfl) ?_
      refine rq_v (v_move rfl) ?_
      refine rq_gv rfl rfl (v_move rfl) ?_
      refine rq_gv rfl rfl (v_nilCheck_ptr rfl) ?_
      refine rq_gv rfl rfl (v_fieldAddr fa_keyspan_filteringIter_2 rfl) ?_
      refine rq_gv rfl rfl (v_load one_base_Compare rfl (by exact Bc.cell _ rfl)) ?_
      refine rq_gv rfl rfl (v_move rfl) ?_
      refine rq_gv rfl rfl (v_nilCheck_ptr rfl) ?_
      refine rq_gv rfl rfl (v_fieldAddr fa_keyspan_Span_0 rfl) ?_
      refine rq_gv rfl rfl (v_load one_sl_uint8 rfl (by exact hcell.at 0 rfl)) ?_
      refine rq_gv rfl rfl (v_move rfl) ?_
      refine rq_gw rfl rfl (w_callv (first := []) (cap := []) (vs := [_, _]) ok_bytes_Compare rfl ⟨rfl, rfl, trivial⟩ (c_Compare χ _ _ _ s2.s key (RBytes.by g1) hke)) ?_
      refine rq_gv rfl rfl (v_ge rfl rfl) ?_
      refine rq_v (v_pick_t rfl rfl) ?_
      refine rm_end ?_; simp only [endM, hypF, ofE, argE]
      exact q_cut [(0, _), (1, _), (5, _), (28, _)] ⟨rfl, rfl, rfl, rfl, trivial⟩ ⟨_, rfl, rfl, (fun h9 => ⟨s2, hcur, slt_no.2 (of_decide_eq_true h9)⟩), fun h9 s3 hs9 => by rw [hcur] at hs9; cases hs9; exact slt_iff.2 (by have := of_decide_eq_false h9; omega)⟩
  rintro E h9 ⟨bb, hh, rfl, hb1, hb0⟩
  subst hh
  refine tr_if rfl (fun hif => ?_) (fun hif => ?_)
  · -- yes
    obtain ⟨s2, hcur, hgood⟩ := hb1 hif
    have hcan : canPrev (bwdP ff W (pLT W key)) = true := by
      obtain ⟨i9, e9, _⟩ := cur_some hcur
      rw [e9]; rfl
    refine tr_seq ?_
    refine tr_reg ?_
    refine rs_v (v_move rfl) rfl ?_
    refine rs_w (w_call (vs := [_]) ok_keyspan_filteringIter_Prev rfl ⟨rfl, trivial⟩ (c_FiPrev hit hfn hWn hI2 hcan)) rfl ?_
    rintro r3 h4 hp3
    refine rs_v (v_assign rfl) rfl ?_
    refine rs_nil ?_
    refine q_thn ?_
    refine tr_ret ?_
    refine q_thn_ret ?_
    refine q_ret (res_tmp rfl rfl) ?_
    rw [hlaw.2 s2 hcur, if_neg (by rw [hgood]; decide)]
    exact itpost_trans (KP'.trans KP2 hFF) hF9 hp3
  -- no
  skip
  refine tr_skip ?_
  refine q_thn ?_
  refine tr_seq ?_
  refine tr_reg ?_
  refine rs_v (v_move rfl) rfl ?_
  refine rs_v (v_assign rfl) rfl ?_
  refine rs_nil ?_
  refine q_thn ?_
  refine tr_ret ?_
  refine q_ret (res_tmp rfl rfl) ?_
  have hpp : pLT (W.filterMap ff) key = bwdP ff W (pLT W key) := by
    cases hc9 : cur (W.filterMap ff) (bwdP ff W (pLT W key)) with
    | none => exact hlaw.1 hc9
    | some s2 =>
      have h9 := hb0 hif s2 hc9
      rw [hlaw.2 s2 hc9, if_pos h9]
  rw [hpp]
  exact itpost_trans KP' hFF hp20
theorem m_FiFirst (v : Value) : Meth Try.prog 183 v "First" 162 v := fun _ => by kernel_rfl
theorem m_FiLast (v : Value) : Meth Try.prog 183 v "Last" 163 v := fun _ => by kernel_rfl
theorem m_FiNext (v : Value) : Meth Try.prog 183 v "Next" 164 v := fun _ => by kernel_rfl
theorem m_FiPrev (v : Value) : Meth Try.prog 183 v "Prev" 165 v := fun _ => by kernel_rfl
theorem m_FiSeekGE (v : Value) : Meth Try.prog 183 v "SeekGE" 166 v := fun _ => by kernel_rfl
theorem m_FiSeekLT (v : Value) : Meth Try.prog 183 v "SeekLT" 167 v := fun _ => by kernel_rfl
theorem m_FiError (v : Value) : Meth Try.prog 183 v "Error" 161 v := fun _ => by kernel_rfl
theorem fi_ok {χ : Chi} {ff : SpanD → Option SpanD} {fv : Value} {G0 : Nat → Prop} {Env : Heap → Prop} {W : List SpanD} {t : TypeId} {v0 : Value} {I : ItI} (c : Nat) (hit : IterOK Try.prog χ W t v0 I) (hfn : FnOK χ W ff fv G0 Env) (hWn : ∀ s, s ∈ W → s.ks.length ≤ 100000) (hO : Tess.Ord W) (hSh : Shrink ff W) :
    IterOK Try.prog χ (W.filterMap ff) 183 (.pointer (some ⟨c, 0, none⟩)) (FIt ff W I t v0 fv c G0 Env) where
  low := fun hI => by obtain ⟨q, Fin, sv, ev, kv, kk, n, xs, hs, hrel⟩ := hI; exact hs.2.2.2.2.2.2.2.2.2.2.2.2
  stab := fun hI hst hz => by
    obtain ⟨q, Fin, sv, ev, kv, kk, n, xs, ⟨hI, B, O, hE, hx, hc, hg, hd, hs1, hs2, hs3, hs4, hl⟩, hrel⟩ := hI
    refine ⟨q, Fin, sv, ev, kv, kk, n, xs, ⟨hit.stab hI (fun b hb => hst b (hs1 b hb)) hz, (hst c hs2).trans B, ?_, hfn.stab hE (fun b hb => hst b (hs4 b hb)) hz, hx, hc, hg, hd, hs1, hs2, hs3, hs4, hl.mono hz⟩, hrel⟩
    refine ⟨O.1, ?_⟩
    rcases O.2 with hn | ⟨g, cap, cur, rfl, hb, hgg, rest⟩
    · exact .inl hn
    · exact .inr ⟨g, cap, cur, rfl, hb, (hst g (hs3 g (by simp [Value.ownBlock]))).trans hgg, rest⟩
  first := fun hI => ⟨_, _, ok_keyspan_filteringIter_First, m_FiFirst _, c_FiFirst hit hfn hWn hI⟩
  last := fun hI => ⟨_, _, ok_keyspan_filteringIter_Last, m_FiLast _, c_FiLast hit hfn hWn hI⟩
  next := fun hI hc => ⟨_, _, ok_keyspan_filteringIter_Next, m_FiNext _, c_FiNext hit hfn hWn hI hc⟩
  prev := fun hI hc => ⟨_, _, ok_keyspan_filteringIter_Prev, m_FiPrev _, c_FiPrev hit hfn hWn hI hc⟩
  ge := fun hI hk => ⟨_, _, ok_keyspan_filteringIter_SeekGE, m_FiSeekGE _, c_FiSeekGE hit hfn hWn hO hSh hI hk⟩
  lt := fun hI hk => ⟨_, _, ok_keyspan_filteringIter_SeekLT, m_FiSeekLT _, c_FiSeekLT hit hfn hWn hO hSh hI hk⟩
  err := fun hI => by
    obtain ⟨q, Fin, sv, ev, kv, kk, n, xs, hs, hrel⟩ := hI
    exact ⟨_, _, ok_keyspan_filteringIter_Error, m_FiError _, c_FiError χ hit _ c q Fin _ hs.1 hs.2.1⟩
end Go.Proofs.Ytgebfbnndgjkiaa
