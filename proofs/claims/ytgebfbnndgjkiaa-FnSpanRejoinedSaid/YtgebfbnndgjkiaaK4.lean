/- Texts W63 to W69, as far as the statement reaches them, laid together by a program of ours. Conditions: those that each theorem names. -/
import Derived.Test.YtgebfbnndgjkiaaK3
set_option linter.unusedVariables false
set_option linter.unusedSimpArgs false
set_option linter.unusedSectionVars false
namespace Go.Proofs.Ytgebfbnndgjkiaa
open Go.Tess Go.RowKit
set_option maxRecDepth 100000
set_option maxHeartbeats 1000000
theorem c_DiNextS (χ : Chi) {W : List SpanD} {I : ItI} {t : TypeId} {v0 : Value} {cmb c cb : Nat} {F : Nat → Prop} {h : Heap} {x y : Nat} (hg : Grp W x y) (hit : IterOK Try.prog χ W t v0 I) (hgood : GoodD W)
    (hI : ∃ Fin F0 sp sv ev kv a ksv kbv nk xk nb xb s0, DSt W I t v0 (.pointer (some ⟨cmb, 0, none⟩)) c cb (nxtP W y) Fin F0 h sp 1 sv ev kv a ksv kbv nk xk nb xb ∧ Ret W (nxtP W y) Fin h sp ∧ ¬ F0 cmb ∧ (∀ b, F0 b → F b) ∧ F cmb ∧ Low F h ∧ Blk h cmb (cmpL s0) 119) :
    Cl Try.prog χ 145 #[.pointer (some ⟨c, 0, none⟩)] h (ItPost (dfr W) (DIt W I t v0 cmb c cb) F h (pNext (dfr W) (.pt (nG W x)))) := by
  obtain ⟨Fin, F0, sp, sv, ev, kv, a, ksv, kbv, nk, xk, nb, xb, s0, D, hret, hcm, hF0, hFc, hlF, Bq⟩ := hI
  have KP := KeepP.refl F0 h
  have hFF : ∀ b, F0 b → F0 b ∨ h.size ≤ b := fun b hb => .inl hb
  have hcF : ∀ x, x ∈ [c] → F0 x := fun x hx => by rw [List.mem_singleton] at hx; subst hx; exact D.fc
  have Bc := D.bc
  obtain ⟨qv, rfl, _⟩ := hret.form
  have hqq := ret_nxt hret
  have hgr := hg.2.1.1
  have hgr2 := hg.2.1.2.1
  refine cl_intro Try.func145 rfl rfl rfl ?_
  have K : Keep [] h h := Keep.refl _ _
  refine tr_seq ?_
  refine tr_reg ?_
  refine rs_v (v_assign rfl) rfl ?_
  refine rs_nil ?_
  refine q_thn ?_
  refine tr_seq ?_
  refine tr_reg ?_
  refine rs_v (v_move rfl) rfl ?_
  refine rs_v (v_nilCheck_ptr rfl) rfl ?_
  refine rs_v (v_fieldAddr fa_keyspan_DefragmentingIter_5 rfl) rfl ?_
  refine rs_v (v_load one_keyspan_iterPos rfl (by exact Bc.cell _ rfl)) rfl ?_
  refine rs_nil ?_
  refine q_thn ?_
  refine tr_block ?_
  refine tr_seq ?_
  refine tr_reg ?_
  refine rs_v (v_eq rfl rfl) rfl ?_
  refine rs_v (v_assign rfl) rfl ?_
  refine rs_nil ?_
  refine q_thn ?_
  refine tr_if_f rfl ?_
  refine tr_seq ?_
  refine tr_reg ?_
  refine rs_v (v_eq rfl rfl) rfl ?_
  refine rs_v (v_assign rfl) rfl ?_
  refine rs_nil ?_
  refine q_thn ?_
  refine tr_if_f rfl ?_
  refine tr_seq ?_
  refine tr_reg ?_
  refine rs_v (v_eq rfl rfl) rfl ?_
  refine rs_v (v_assign rfl) rfl ?_
  refine rs_nil ?_
  refine q_thn ?_
  refine tr_if_t rfl ?_
  refine tr_seq ?_
  refine tr_seq ?_
  refine tr_reg ?_
  refine rs_v (v_move rfl) rfl ?_
  refine rs_v (v_nilCheck_ptr rfl) rfl ?_
  refine rs_v (v_fieldAddr fa_keyspan_DefragmentingIter_4 rfl) rfl ?_
  refine rs_v (v_load one_p_keyspan_Span rfl (by exact Bc.cell _ rfl)) rfl ?_
  refine rs_v (v_peq u_p_keyspan_Span rfl rfl) rfl ?_
  refine rs_nil ?_
  refine q_thn ?_
  refine tr_if rfl (fun hif => ?_) (fun hif => ?_)
  · -- yes
    rcases hqq with ⟨rfl, hb⟩ | ⟨hb, x2, o2, rfl, _, _⟩
    rotate_left
    · simp at hif
    have hret1 := hret
    refine tr_seq ?_
    refine tr_reg ?_
    refine rs_v (v_move rfl) rfl ?_
    refine rs_v (v_nilCheck_ptr rfl) rfl ?_
    refine rs_v (v_fieldAddr fa_keyspan_DefragmentingIter_5 rfl) rfl ?_
    refine rs_w0 (w_put siz_keyspan_iterPos rfl rfl rfl rfl Bc rfl) ?_
    rintro _ h1 ⟨B1, K1⟩
    have hret1 := Ret.stab hret1 (K1.stab (A := _) fun b hb => ⟨D.lo b (D.ff b hb), fun hm => D.di.fc (by rw [List.mem_singleton] at hm; subst hm; exact hb)⟩)
    have D := D.putC hit (sp' := .pointer none) (z' := 0) K1 B1
    have KP := KP.trans (K1.kp hcF) (fun _ h => .inl h)
    refine rs_nil ?_
    refine q_thn ?_
    refine tr_seq ?_
    refine tr_reg ?_
    refine rs_v (v_assign rfl) rfl ?_
    refine rs_nil ?_
    refine q_thn ?_
    refine tr_ret ?_
    refine q_thn_ret ?_
    refine q_blk_ret ?_
    refine q_ret (res_tmp rfl rfl) ?_
    rw [grp_next hg, if_neg (by omega)]
    exact di_post hlF hF0 hFc hcm Bq D hret1 (.inr (.inl ⟨rfl, if_neg hb, rfl⟩)) KP hFF (by unfold Ret; rw [show cur (dfr W) .behind = none from rfl])
  -- no
  rcases hqq with ⟨rfl, hb⟩ | ⟨hb, x2, o2, rfl, _, _⟩
  · simp at hif
  rw [show nxtP W y = .pt y from if_pos hb] at D hret
  refine tr_skip ?_
  refine q_thn ?_
  refine tr_seq ?_
  refine tr_reg ?_
  refine rs_v (v_move rfl) rfl ?_
  refine rs_w (w_call (vs := [_]) ok_keyspan_DefragmentingIter_defragmentForward rfl ⟨rfl, trivial⟩ (c_defragmentForward hit hgood D (by omega) hret)) rfl ?_
  rintro r2 h2 ⟨b3, Fin3, F3, sp3, sv3, ev3, kv3, a3, ksv3, kbv3, nk3, xk3, nb3, xb3, hrun3, hend3, D, hret, rfl, hps9, KP3, hF3⟩
  obtain ⟨qv3, rfl, _⟩ := hret.form
  have hKz := KP.1
  have KP := KP.trans KP3 hFF
  have hFF : ∀ b, F3 b → F0 b ∨ h.size ≤ b := fun b hb => (hF3 b hb).elim (hFF b) (fun e9 => Or.inr (by omega))
  have Bc := D.bc
  refine rs_v (v_assign rfl) rfl ?_
  refine rs_nil ?_
  refine q_thn ?_
  refine tr_ret ?_
  refine q_blk_ret ?_
  refine q_ret (res_tmp rfl rfl) ?_
  have hg3 : Grp W y b3 := ⟨beg_of_end hg.2.2 hb, hrun3, hend3⟩
  rw [grp_next hg, if_pos (by omega)]
  exact di_post hlF hF0 hFc hcm Bq D hret (.inr (.inr (.inr ⟨y, b3, rfl, hg3, .inl ⟨rfl, rfl⟩⟩))) KP hFF (ret_grp hg3 D.fc hps9)
theorem c_DiNextN (χ : Chi) {W : List SpanD} {I : ItI} {t : TypeId} {v0 : Value} {cmb c cb : Nat} {F : Nat → Prop} {h : Heap}  (hit : IterOK Try.prog χ W t v0 I) (hgood : GoodD W)
    (hI : ∃ Fin F0 sp sv ev kv a ksv kbv nk xk nb xb s0, DSt W I t v0 (.pointer (some ⟨cmb, 0, none⟩)) c cb (.ahead) Fin F0 h sp 0 sv ev kv a ksv kbv nk xk nb xb ∧ Ret W (.ahead) Fin h sp ∧ ¬ F0 cmb ∧ (∀ b, F0 b → F b) ∧ F cmb ∧ Low F h ∧ Blk h cmb (cmpL s0) 119) :
    Cl Try.prog χ 145 #[.pointer (some ⟨c, 0, none⟩)] h (ItPost (dfr W) (DIt W I t v0 cmb c cb) F h (pNext (dfr W) .ahead)) := by
  obtain ⟨Fin, F0, sp, sv, ev, kv, a, ksv, kbv, nk, xk, nb, xb, s0, D, hret, hcm, hF0, hFc, hlF, Bq⟩ := hI
  have KP := KeepP.refl F0 h
  have hFF : ∀ b, F0 b → F0 b ∨ h.size ≤ b := fun b hb => .inl hb
  have hcF : ∀ x, x ∈ [c] → F0 x := fun x hx => by rw [List.mem_singleton] at hx; subst hx; exact D.fc
  have Bc := D.bc
  refine cl_intro Try.func145 rfl rfl rfl ?_
  have K : Keep [] h h := Keep.refl _ _
  refine tr_seq ?_
  refine tr_reg ?_
  refine rs_v (v_assign rfl) rfl ?_
  refine rs_nil ?_
  refine q_thn ?_
  refine tr_seq ?_
  refine tr_reg ?_
  refine rs_v (v_move rfl) rfl ?_
  refine rs_v (v_nilCheck_ptr rfl) rfl ?_
  refine rs_v (v_fieldAddr fa_keyspan_DefragmentingIter_5 rfl) rfl ?_
  refine rs_v (v_load one_keyspan_iterPos rfl (by exact Bc.cell _ rfl)) rfl ?_
  refine rs_nil ?_
  refine q_thn ?_
  refine tr_block ?_
  refine tr_seq ?_
  refine tr_reg ?_
  refine rs_v (v_eq rfl rfl) rfl ?_
  refine rs_v (v_assign rfl) rfl ?_
  refine rs_nil ?_
  refine q_thn ?_
  refine tr_if_f rfl ?_
  refine tr_seq ?_
  refine tr_reg ?_
  refine rs_v (v_eq rfl rfl) rfl ?_
  refine rs_v (v_assign rfl) rfl ?_
  refine rs_nil ?_
  refine q_thn ?_
  refine tr_if_t rfl ?_
  refine tr_seq ?_
  refine tr_seq ?_
  refine tr_reg ?_
  refine rs_v (v_move rfl) rfl ?_
  refine rs_gs rfl (rfl) rfl rfl ?_
  refine rs_gs rfl (rfl) rfl rfl ?_
  refine rs_gs rfl (rfl) rfl rfl ?_
  refine rs_gs rfl (rfl) rfl rfl ?_
  refine rs_gs rfl (rfl) rfl rfl ?_
  refine rs_v (v_pick_f rfl rfl) rfl ?_
  refine rs_v (v_move rfl) rfl ?_
  refine rs_gs rfl (rfl) rfl rfl ?_
  refine rs_gs rfl (rfl) rfl rfl ?_
  refine rs_gs rfl (rfl) rfl rfl ?_
  refine rs_gs rfl (rfl) rfl rfl ?_
  refine rs_gs rfl (rfl) rfl rfl ?_
  refine rs_gs rfl (rfl) rfl rfl ?_
  refine rs_v (v_pick_f rfl rfl) rfl ?_
  refine rs_nil ?_
  refine q_thn ?_
  refine tr_if_f rfl ?_
  refine tr_skip ?_
  refine q_thn ?_
  refine tr_seq ?_
  refine tr_reg ?_
  refine rs_v (v_move rfl) rfl ?_
  refine rs_v (v_move rfl) rfl ?_
  refine rs_v (v_nilCheck_ptr rfl) rfl ?_
  refine rs_v (v_fieldAddr fa_keyspan_DefragmentingIter_3 rfl) rfl ?_
  refine rs_v (v_load one_keyspan_FragmentIterator rfl (by exact Bc.cell _ rfl)) rfl ?_
  refine rs_w (w_mcall (vs := []) (hit.next D.it rfl) rfl trivial) rfl ?_
  rintro r1 h1 hp1
  skip
  have DFF := D.ff
  obtain ⟨Fin2, D, hF2, _, KF2, hret2⟩ := D.inner hit hp1
  obtain ⟨qv2, rfl, _⟩ := hret2.form
  have hKz := KP.1
  have hFF2 : ∀ b, _ → F0 b ∨ h.size ≤ b := fun b hb => Or.elim hb (hFF b) (fun e => (hF2 b e).elim (fun e9 => hFF b (DFF b e9)) (fun e9 => Or.inr (by omega)))
  have KP := KP.trans KF2 hFF
  have hFF := hFF2
  have Bc := D.bc
  refine rs_v (v_nilCheck_ptr rfl) rfl ?_
  refine rs_v (v_fieldAddr fa_keyspan_DefragmentingIter_4 rfl) rfl ?_
  refine rs_w0 (w_put siz_p_keyspan_Span rfl rfl rfl rfl Bc rfl) ?_
  rintro _ h2 ⟨B2, K2⟩
  have hret1 := Ret.stab hret2 (K2.stab (A := Fin2) fun b hb => ⟨D.lo b (D.ff b hb), fun hm => D.di.fc (by rw [List.mem_singleton] at hm; subst hm; exact hb)⟩)
  have D := D.putC hit (sp' := .pointer qv2) (z' := 0) K2 B2
  have KP := KP.trans (K2.kp hcF) (fun _ h => .inl h)
  have Bc := D.bc
  refine rs_nil ?_
  refine q_thn ?_
  refine tr_seq ?_
  refine tr_seq ?_
  refine tr_reg ?_
  refine rs_v (v_move rfl) rfl ?_
  refine rs_v (v_nilCheck_ptr rfl) rfl ?_
  refine rs_v (v_fieldAddr fa_keyspan_DefragmentingIter_4 rfl) rfl ?_
  refine rs_v (v_load one_p_keyspan_Span rfl (by exact Bc.cell _ rfl)) rfl ?_
  refine rs_v (v_peq u_p_keyspan_Span rfl rfl) rfl ?_
  refine rs_nil ?_
  refine q_thn ?_
  refine tr_if rfl (fun hif => ?_) (fun hif => ?_)
  · -- yes
    have hq := ret_gen (P := 0 < W.length) (i := 0) (q0 := .behind) (by simp only [pNext]) (by omega) (by simp [cur]) hret1
    rcases hq with ⟨rfl, hW⟩ | ⟨hW, hq, x2, o2, rfl, _, _⟩
    rotate_left
    · simp at hif
    have hWn : W = [] := List.eq_nil_of_length_eq_zero (by omega)
    refine tr_seq ?_
    refine tr_reg ?_
    refine rs_v (v_assign rfl) rfl ?_
    refine rs_nil ?_
    refine q_thn ?_
    refine tr_ret ?_
    refine q_thn_ret ?_
    refine q_blk_ret ?_
    refine q_ret (res_tmp rfl rfl) ?_
    subst hWn
    exact di_post hlF hF0 hFc hcm Bq D hret1 (.inr (.inl ⟨rfl, rfl, rfl⟩)) KP hFF (by unfold Ret; rw [show cur (dfr []) .behind = none from rfl])
  -- no
  have hq := ret_gen (P := 0 < W.length) (i := 0) (q0 := .behind) (by simp only [pNext]) (by omega) (by simp [cur]) hret1
  rcases hq with ⟨rfl, hW⟩ | ⟨hW, hq, x2, o2, rfl, _, _⟩
  · simp at hif
  rw [hq] at D hret1
  refine tr_skip ?_
  refine q_thn ?_
  refine tr_seq ?_
  refine tr_reg ?_
  refine rs_v (v_move rfl) rfl ?_
  refine rs_w (w_call (vs := [_]) ok_keyspan_DefragmentingIter_defragmentForward rfl ⟨rfl, trivial⟩ (c_defragmentForward hit hgood D (by omega) hret1)) rfl ?_
  rintro r3 h3 ⟨b3, Fin3, F3, sp3, sv3, ev3, kv3, a3, ksv3, kbv3, nk3, xk3, nb3, xb3, hrun3, hend3, D, hret, rfl, hps9, KP3, hF3⟩
  obtain ⟨qv3, rfl, _⟩ := hret.form
  have hKz := KP.1
  have KP := KP.trans KP3 hFF
  have hFF : ∀ b, F3 b → F0 b ∨ h.size ≤ b := fun b hb => (hF3 b hb).elim (hFF b) (fun e9 => Or.inr (by omega))
  have Bc := D.bc
  refine rs_v (v_assign rfl) rfl ?_
  refine rs_nil ?_
  refine q_thn ?_
  refine tr_ret ?_
  refine q_blk_ret ?_
  refine q_ret (res_tmp rfl rfl) ?_
  have hg3 : Grp W 0 b3 := ⟨.inl rfl, hrun3, hend3⟩
  rw [grp_ahead hW]
  exact di_post hlF hF0 hFc hcm Bq D hret (.inr (.inr (.inr ⟨0, b3, rfl, hg3, .inl ⟨rfl, rfl⟩⟩))) KP hFF (ret_grp hg3 D.fc hps9)
theorem c_DiNextT (χ : Chi) {W : List SpanD} {I : ItI} {t : TypeId} {v0 : Value} {cmb c cb : Nat} {F : Nat → Prop} {h : Heap} {x y : Nat} (hg : Grp W x y) (hit : IterOK Try.prog χ W t v0 I) (hgood : GoodD W)
    (hI : ∃ Fin F0 sp sv ev kv a ksv kbv nk xk nb xb s0, DSt W I t v0 (.pointer (some ⟨cmb, 0, none⟩)) c cb (prvP x) Fin F0 h sp (-1) sv ev kv a ksv kbv nk xk nb xb ∧ Ret W (prvP x) Fin h sp ∧ ¬ F0 cmb ∧ (∀ b, F0 b → F b) ∧ F cmb ∧ Low F h ∧ Blk h cmb (cmpL s0) 119) :
    Cl Try.prog χ 145 #[.pointer (some ⟨c, 0, none⟩)] h (ItPost (dfr W) (DIt W I t v0 cmb c cb) F h (pNext (dfr W) (.pt (nG W x)))) := by
  obtain ⟨Fin, F0, sp, sv, ev, kv, a, ksv, kbv, nk, xk, nb, xb, s0, D, hret, hcm, hF0, hFc, hlF, Bq⟩ := hI
  have KP := KeepP.refl F0 h
  have hFF : ∀ b, F0 b → F0 b ∨ h.size ≤ b := fun b hb => .inl hb
  have hcF : ∀ x, x ∈ [c] → F0 x := fun x hx => by rw [List.mem_singleton] at hx; subst hx; exact D.fc
  have Bc := D.bc
  have hgr := hg.2.1.1
  have hgr2 := hg.2.1.2.1
  refine cl_intro Try.func145 rfl rfl rfl ?_
  have K : Keep [] h h := Keep.refl _ _
  refine tr_seq ?_
  refine tr_reg ?_
  refine rs_v (v_assign rfl) rfl ?_
  refine rs_nil ?_
  refine q_thn ?_
  refine tr_seq ?_
  refine tr_reg ?_
  refine rs_v (v_move rfl) rfl ?_
  refine rs_v (v_nilCheck_ptr rfl) rfl ?_
  refine rs_v (v_fieldAddr fa_keyspan_DefragmentingIter_5 rfl) rfl ?_
  refine rs_v (v_load one_keyspan_iterPos rfl (by exact Bc.cell _ rfl)) rfl ?_
  refine rs_nil ?_
  refine q_thn ?_
  refine tr_block ?_
  refine tr_seq ?_
  refine tr_reg ?_
  refine rs_v (v_eq rfl rfl) rfl ?_
  refine rs_v (v_assign rfl) rfl ?_
  refine rs_nil ?_
  refine q_thn ?_
  refine tr_if_t rfl ?_
  refine tr_seq ?_
  refine tr_reg ?_
  refine rs_v (v_move rfl) rfl ?_
  refine rs_v (v_move rfl) rfl ?_
  refine rs_v (v_nilCheck_ptr rfl) rfl ?_
  refine rs_v (v_fieldAddr fa_keyspan_DefragmentingIter_3 rfl) rfl ?_
  refine rs_v (v_load one_keyspan_FragmentIterator rfl (by exact Bc.cell _ rfl)) rfl ?_
  refine rs_w (w_mcall (vs := []) (hit.next D.it (by unfold prvP; split <;> rfl)) rfl trivial) rfl ?_
  rintro r1 h1 hp1
  rw [next_prv (a := x) (by omega)] at hp1
  have DFF := D.ff
  obtain ⟨Fin2, D, hF2, _, KF2, hret2⟩ := D.inner hit hp1
  obtain ⟨qv2, rfl, _⟩ := hret2.form
  have hKz := KP.1
  have hFF2 : ∀ b, _ → F0 b ∨ h.size ≤ b := fun b hb => Or.elim hb (hFF b) (fun e => (hF2 b e).elim (fun e9 => hFF b (DFF b e9)) (fun e9 => Or.inr (by omega)))
  have KP := KP.trans KF2 hFF
  have hFF := hFF2
  have Bc := D.bc
  refine rs_v (v_nilCheck_ptr rfl) rfl ?_
  refine rs_v (v_fieldAddr fa_keyspan_DefragmentingIter_4 rfl) rfl ?_
  refine rs_w0 (w_put siz_p_keyspan_Span rfl rfl rfl rfl Bc rfl) ?_
  rintro _ h2 ⟨B2, K2⟩
  have hret1 := Ret.stab hret2 (K2.stab (A := Fin2) fun b hb => ⟨D.lo b (D.ff b hb), fun hm => D.di.fc (by rw [List.mem_singleton] at hm; subst hm; exact hb)⟩)
  have D := D.putC hit (sp' := .pointer qv2) (z' := (-1)) K2 B2
  have KP := KP.trans (K2.kp hcF) (fun _ h => .inl h)
  have Bc := D.bc
  refine rs_nil ?_
  refine q_thn ?_
  refine tr_seq ?_
  refine tr_seq ?_
  refine tr_reg ?_
  refine rs_v (v_move rfl) rfl ?_
  refine rs_gs rfl (rfl) rfl rfl ?_
  refine rs_gs rfl (rfl) rfl rfl ?_
  refine rs_gs rfl (rfl) rfl rfl ?_
  refine rs_gs rfl (rfl) rfl rfl ?_
  refine rs_gs rfl (rfl) rfl rfl ?_
  refine rs_v (v_pick_f rfl rfl) rfl ?_
  refine rs_v (v_move rfl) rfl ?_
  refine rs_gs rfl (rfl) rfl rfl ?_
  refine rs_gs rfl (rfl) rfl rfl ?_
  refine rs_gs rfl (rfl) rfl rfl ?_
  refine rs_gs rfl (rfl) rfl rfl ?_
  refine rs_gs rfl (rfl) rfl rfl ?_
  refine rs_gs rfl (rfl) rfl rfl ?_
  refine rs_v (v_pick_f rfl rfl) rfl ?_
  refine rs_nil ?_
  refine q_thn ?_
  refine tr_if_f rfl ?_
  refine tr_skip ?_
  refine q_thn ?_
  refine tr_seq ?_
  refine tr_reg ?_
  refine rs_v (v_move rfl) rfl ?_
  refine rs_w (w_call (vs := [_]) ok_keyspan_DefragmentingIter_defragmentForward rfl ⟨rfl, trivial⟩ (c_defragmentForward hit hgood D (by omega) hret1)) rfl ?_
  rintro r3 h3 ⟨b3, Fin3, F3, sp3, sv3, ev3, kv3, a3, ksv3, kbv3, nk3, xk3, nb3, xb3, hrun3, hend3, D, hret, rfl, hps3, KP3, hF3⟩
  obtain ⟨qv3, rfl, _⟩ := hret.form
  have hKz := KP.1
  have KP := KP.trans KP3 hFF
  have hFF : ∀ b, F3 b → F0 b ∨ h.size ≤ b := fun b hb => (hF3 b hb).elim (hFF b) (fun e9 => Or.inr (by omega))
  have Bc := D.bc
  have hg4 : Grp W x b3 := ⟨hg.1, hrun3, hend3⟩
  have hgr4 := hg4.2.1.1
  have hgr5 := hg4.2.1.2.1
  have hqq := ret_nxt hret
  refine rs_nil ?_
  refine q_thn ?_
  refine tr_seq ?_
  refine tr_seq ?_
  refine tr_reg ?_
  refine rs_v (v_move rfl) rfl ?_
  refine rs_v (v_nilCheck_ptr rfl) rfl ?_
  refine rs_v (v_fieldAddr fa_keyspan_DefragmentingIter_4 rfl) rfl ?_
  refine rs_v (v_load one_p_keyspan_Span rfl (by exact Bc.cell _ rfl)) rfl ?_
  refine rs_v (v_peq u_p_keyspan_Span rfl rfl) rfl ?_
  refine rs_nil ?_
  refine q_thn ?_
  refine tr_if rfl (fun hif => ?_) (fun hif => ?_)
  · -- yes
    rcases hqq with ⟨rfl, hb⟩ | ⟨hb, x2, o2, rfl, _, _⟩
    rotate_left
    · simp at hif
    have hret1 := hret
    refine tr_seq ?_
    refine tr_reg ?_
    refine rs_v (v_move rfl) rfl ?_
    refine rs_v (v_nilCheck_ptr rfl) rfl ?_
    refine rs_v (v_fieldAddr fa_keyspan_DefragmentingIter_5 rfl) rfl ?_
    refine rs_w0 (w_put siz_keyspan_iterPos rfl rfl rfl rfl Bc rfl) ?_
    rintro _ h4 ⟨B4, K4⟩
    have hret1 := Ret.stab hret1 (K4.stab (A := _) fun b hb => ⟨D.lo b (D.ff b hb), fun hm => D.di.fc (by rw [List.mem_singleton] at hm; subst hm; exact hb)⟩)
    have D := D.putC hit (sp' := .pointer none) (z' := 0) K4 B4
    have KP := KP.trans (K4.kp hcF) (fun _ h => .inl h)
    refine rs_nil ?_
    refine q_thn ?_
    refine tr_seq ?_
    refine tr_reg ?_
    refine rs_v (v_assign rfl) rfl ?_
    refine rs_nil ?_
    refine q_thn ?_
    refine tr_ret ?_
    refine q_thn_ret ?_
    refine q_blk_ret ?_
    refine q_ret (res_tmp rfl rfl) ?_
    rw [grp_next hg4, if_neg (by omega)]
    exact di_post hlF hF0 hFc hcm Bq D hret1 (.inr (.inl ⟨rfl, if_neg hb, rfl⟩)) KP hFF (by unfold Ret; rw [show cur (dfr W) .behind = none from rfl])
  -- no
  rcases hqq with ⟨rfl, hb⟩ | ⟨hb, x2, o2, rfl, _, _⟩
  · simp at hif
  rw [show nxtP W b3 = .pt b3 from if_pos hb] at D hret
  refine tr_skip ?_
  refine q_thn ?_
  refine tr_seq ?_
  refine tr_reg ?_
  refine rs_v (v_move rfl) rfl ?_
  refine rs_w (w_call (vs := [_]) ok_keyspan_DefragmentingIter_defragmentForward rfl ⟨rfl, trivial⟩ (c_defragmentForward hit hgood D (by omega) hret)) rfl ?_
  rintro r5 h5 ⟨b9, Fin3, F3, sp3, sv3, ev3, kv3, a3, ksv3, kbv3, nk3, xk3, nb9, xb9, hrun9, hend9, D, hret, rfl, hps9, KP3, hF3⟩
  obtain ⟨qv3, rfl, _⟩ := hret.form
  have hKz := KP.1
  have KP := KP.trans KP3 hFF
  have hFF : ∀ b, F3 b → F0 b ∨ h.size ≤ b := fun b hb => (hF3 b hb).elim (hFF b) (fun e9 => Or.inr (by omega))
  have Bc := D.bc
  refine rs_v (v_assign rfl) rfl ?_
  refine rs_nil ?_
  refine q_thn ?_
  refine tr_ret ?_
  refine q_blk_ret ?_
  refine q_ret (res_tmp rfl rfl) ?_
  have hg3 : Grp W b3 b9 := ⟨beg_of_end hend3 hb, hrun9, hend9⟩
  rw [grp_next hg4, if_pos (by omega)]
  exact di_post hlF hF0 hFc hcm Bq D hret (.inr (.inr (.inr ⟨b3, b9, rfl, hg3, .inl ⟨rfl, rfl⟩⟩))) KP hFF (ret_grp hg3 D.fc hps9)
theorem c_DiNext (χ : Chi) {W : List SpanD} {I : ItI} {t : TypeId} {v0 : Value} {cmb c cb : Nat} {p : Pos} {F : Nat → Prop} {h : Heap} (hit : IterOK Try.prog χ W t v0 I) (hgood : GoodD W) (hI : DIt W I t v0 cmb c cb p F h) (hc : canNext p = true) :
    Cl Try.prog χ 145 #[.pointer (some ⟨c, 0, none⟩)] h (ItPost (dfr W) (DIt W I t v0 cmb c cb) F h (pNext (dfr W) p)) := by
  obtain ⟨q, Fin, F0, sp, z, sv, ev, kv, a, ksv, kbv, nk, xk, nb, xb, s0, D, hret, hrel, hcm, hF0, hFc, hlF, Bq⟩ := hI
  rcases hrel with rfl | ⟨rfl, rfl, rfl⟩ | ⟨rfl, rfl, rfl⟩ | ⟨x, y, rfl, hg, ⟨rfl, rfl⟩ | ⟨rfl, rfl⟩⟩
  · simp [canNext] at hc
  · simp [canNext] at hc
  · exact c_DiNextN χ hit hgood ⟨Fin, F0, sp, sv, ev, kv, a, ksv, kbv, nk, xk, nb, xb, s0, D, hret, hcm, hF0, hFc, hlF, Bq⟩
  · exact c_DiNextS χ hg hit hgood ⟨Fin, F0, sp, sv, ev, kv, a, ksv, kbv, nk, xk, nb, xb, s0, D, hret, hcm, hF0, hFc, hlF, Bq⟩
  · exact c_DiNextT χ hg hit hgood ⟨Fin, F0, sp, sv, ev, kv, a, ksv, kbv, nk, xk, nb, xb, s0, D, hret, hcm, hF0, hFc, hlF, Bq⟩
theorem c_DiPrevS (χ : Chi) {W : List SpanD} {I : ItI} {t : TypeId} {v0 : Value} {cmb c cb : Nat} {F : Nat → Prop} {h : Heap} {x y : Nat} (hg : Grp W x y) (hit : IterOK Try.prog χ W t v0 I) (hgood : GoodD W)
    (hI : ∃ Fin F0 sp sv ev kv a ksv kbv nk xk nb xb s0, DSt W I t v0 (.pointer (some ⟨cmb, 0, none⟩)) c cb (prvP x) Fin F0 h sp (-1) sv ev kv a ksv kbv nk xk nb xb ∧ Ret W (prvP x) Fin h sp ∧ ¬ F0 cmb ∧ (∀ b, F0 b → F b) ∧ F cmb ∧ Low F h ∧ Blk h cmb (cmpL s0) 119) :
    Cl Try.prog χ 146 #[.pointer (some ⟨c, 0, none⟩)] h (ItPost (dfr W) (DIt W I t v0 cmb c cb) F h (pPrev (dfr W) (.pt (nG W x)))) := by
  obtain ⟨Fin, F0, sp, sv, ev, kv, a, ksv, kbv, nk, xk, nb, xb, s0, D, hret, hcm, hF0, hFc, hlF, Bq⟩ := hI
  have KP := KeepP.refl F0 h
  have hFF : ∀ b, F0 b → F0 b ∨ h.size ≤ b := fun b hb => .inl hb
  have hcF : ∀ x, x ∈ [c] → F0 x := fun x hx => by rw [List.mem_singleton] at hx; subst hx; exact D.fc
  have Bc := D.bc
  obtain ⟨qv, rfl, _⟩ := hret.form
  have hqq := ret_prv (by have := hg.2.1.1; have := hg.2.1.2.1; omega) hret
  have hgr := hg.2.1.1
  have hgr2 := hg.2.1.2.1
  refine cl_intro Try.func146 rfl rfl rfl ?_
  have K : Keep [] h h := Keep.refl _ _
  refine tr_seq ?_
  refine tr_reg ?_
  refine rs_v (v_assign rfl) rfl ?_
  refine rs_nil ?_
  refine q_thn ?_
  refine tr_seq ?_
  refine tr_reg ?_
  refine rs_v (v_move rfl) rfl ?_
  refine rs_v (v_nilCheck_ptr rfl) rfl ?_
  refine rs_v (v_fieldAddr fa_keyspan_DefragmentingIter_5 rfl) rfl ?_
  refine rs_v (v_load one_keyspan_iterPos rfl (by exact Bc.cell _ rfl)) rfl ?_
  refine rs_nil ?_
  refine q_thn ?_
  refine tr_block ?_
  refine tr_seq ?_
  refine tr_reg ?_
  refine rs_v (v_eq rfl rfl) rfl ?_
  refine rs_v (v_assign rfl) rfl ?_
  refine rs_nil ?_
  refine q_thn ?_
  refine tr_if_t rfl ?_
  refine tr_seq ?_
  refine tr_seq ?_
  refine tr_reg ?_
  refine rs_v (v_move rfl) rfl ?_
  refine rs_v (v_nilCheck_ptr rfl) rfl ?_
  refine rs_v (v_fieldAddr fa_keyspan_DefragmentingIter_4 rfl) rfl ?_
  refine rs_v (v_load one_p_keyspan_Span rfl (by exact Bc.cell _ rfl)) rfl ?_
  refine rs_v (v_peq u_p_keyspan_Span rfl rfl) rfl ?_
  refine rs_nil ?_
  refine q_thn ?_
  refine tr_if rfl (fun hif => ?_) (fun hif => ?_)
  · -- yes
    rcases hqq with ⟨rfl, hb⟩ | ⟨hb, x2, o2, rfl, _, _⟩
    rotate_left
    · simp at hif
    have hret1 := hret
    refine tr_seq ?_
    refine tr_reg ?_
    refine rs_v (v_move rfl) rfl ?_
    refine rs_v (v_nilCheck_ptr rfl) rfl ?_
    refine rs_v (v_fieldAddr fa_keyspan_DefragmentingIter_5 rfl) rfl ?_
    refine rs_w0 (w_put siz_keyspan_iterPos rfl rfl rfl rfl Bc rfl) ?_
    rintro _ h1 ⟨B1, K1⟩
    have hret1 := Ret.stab hret1 (K1.stab (A := _) fun b hb => ⟨D.lo b (D.ff b hb), fun hm => D.di.fc (by rw [List.mem_singleton] at hm; subst hm; exact hb)⟩)
    have D := D.putC hit (sp' := .pointer none) (z' := 0) K1 B1
    have KP := KP.trans (K1.kp hcF) (fun _ h => .inl h)
    refine rs_nil ?_
    refine q_thn ?_
    refine tr_seq ?_
    refine tr_reg ?_
    refine rs_v (v_assign rfl) rfl ?_
    refine rs_nil ?_
    refine q_thn ?_
    refine tr_ret ?_
    refine q_thn_ret ?_
    refine q_blk_ret ?_
    refine q_ret (res_tmp rfl rfl) ?_
    rw [grp_prev (a2 := 0) hg (.inl (by omega)), if_pos (by omega)]
    exact di_post hlF hF0 hFc hcm Bq D hret1 (.inr (.inr (.inl ⟨rfl, if_pos hb, rfl⟩))) KP hFF (by unfold Ret; rw [show cur (dfr W) .ahead = none from rfl])
  -- no
  rcases hqq with ⟨rfl, hb⟩ | ⟨hb, x2, o2, rfl, _, _⟩
  · simp at hif
  rw [show prvP x = .pt (x - 1) from if_neg (by omega)] at D hret
  refine tr_skip ?_
  refine q_thn ?_
  refine tr_seq ?_
  refine tr_reg ?_
  refine rs_v (v_move rfl) rfl ?_
  refine rs_w (w_call (vs := [_]) ok_keyspan_DefragmentingIter_defragmentBackward rfl ⟨rfl, trivial⟩ (c_defragmentBackward hit hgood D (by omega) hret)) rfl ?_
  rintro r2 h2 ⟨b3, Fin3, F3, sp3, sv3, ev3, kv3, a3, ksv3, kbv3, nk3, xk3, nb3, xb3, hrun3, hend3, D, hret, rfl, hps9, KP3, hF3⟩
  obtain ⟨qv3, rfl, _⟩ := hret.form
  have hKz := KP.1
  have KP := KP.trans KP3 hFF
  have hFF : ∀ b, F3 b → F0 b ∨ h.size ≤ b := fun b hb => (hF3 b hb).elim (hFF b) (fun e9 => Or.inr (by omega))
  have Bc := D.bc
  refine rs_v (v_assign rfl) rfl ?_
  refine rs_nil ?_
  refine q_thn ?_
  refine tr_ret ?_
  refine q_blk_ret ?_
  refine q_ret (res_tmp rfl rfl) ?_
  rw [show x - 1 + 1 = x from by omega] at hrun3 hps9
  have hg3 : Grp W b3 x := ⟨hend3, hrun3, end_of_beg hg.1 hb⟩
  rw [grp_prev hg (.inr hg3), if_neg (by omega)]
  exact di_post hlF hF0 hFc hcm Bq D hret (.inr (.inr (.inr ⟨b3, x, rfl, hg3, .inr ⟨rfl, rfl⟩⟩))) KP hFF (ret_grp hg3 D.fc hps9)
theorem c_DiPrevN (χ : Chi) {W : List SpanD} {I : ItI} {t : TypeId} {v0 : Value} {cmb c cb : Nat} {F : Nat → Prop} {h : Heap}  (hit : IterOK Try.prog χ W t v0 I) (hgood : GoodD W)
    (hI : ∃ Fin F0 sp sv ev kv a ksv kbv nk xk nb xb s0, DSt W I t v0 (.pointer (some ⟨cmb, 0, none⟩)) c cb (.behind) Fin F0 h sp 0 sv ev kv a ksv kbv nk xk nb xb ∧ Ret W (.behind) Fin h sp ∧ ¬ F0 cmb ∧ (∀ b, F0 b → F b) ∧ F cmb ∧ Low F h ∧ Blk h cmb (cmpL s0) 119) :
    Cl Try.prog χ 146 #[.pointer (some ⟨c, 0, none⟩)] h (ItPost (dfr W) (DIt W I t v0 cmb c cb) F h (pPrev (dfr W) .behind)) := by
  obtain ⟨Fin, F0, sp, sv, ev, kv, a, ksv, kbv, nk, xk, nb, xb, s0, D, hret, hcm, hF0, hFc, hlF, Bq⟩ := hI
  have KP := KeepP.refl F0 h
  have hFF : ∀ b, F0 b → F0 b ∨ h.size ≤ b := fun b hb => .inl hb
  have hcF : ∀ x, x ∈ [c] → F0 x := fun x hx => by rw [List.mem_singleton] at hx; subst hx; exact D.fc
  have Bc := D.bc
  refine cl_intro Try.func146 rfl rfl rfl ?_
  have K : Keep [] h h := Keep.refl _ _
  refine tr_seq ?_
  refine tr_reg ?_
  refine rs_v (v_assign rfl) rfl ?_
  refine rs_nil ?_
  refine q_thn ?_
  refine tr_seq ?_
  refine tr_reg ?_
  refine rs_v (v_move rfl) rfl ?_
  refine rs_v (v_nilCheck_ptr rfl) rfl ?_
  refine rs_v (v_fieldAddr fa_keyspan_DefragmentingIter_5 rfl) rfl ?_
  refine rs_v (v_load one_keyspan_iterPos rfl (by exact Bc.cell _ rfl)) rfl ?_
  refine rs_nil ?_
  refine q_thn ?_
  refine tr_block ?_
  refine tr_seq ?_
  refine tr_reg ?_
  refine rs_v (v_eq rfl rfl) rfl ?_
  refine rs_v (v_assign rfl) rfl ?_
  refine rs_nil ?_
  refine q_thn ?_
  refine tr_if_f rfl ?_
  refine tr_seq ?_
  refine tr_reg ?_
  refine rs_v (v_eq rfl rfl) rfl ?_
  refine rs_v (v_assign rfl) rfl ?_
  refine rs_nil ?_
  refine q_thn ?_
  refine tr_if_t rfl ?_
  refine tr_seq ?_
  refine tr_seq ?_
  refine tr_reg ?_
  refine rs_v (v_move rfl) rfl ?_
  refine rs_gs rfl (rfl) rfl rfl ?_
  refine rs_gs rfl (rfl) rfl rfl ?_
  refine rs_gs rfl (rfl) rfl rfl ?_
  refine rs_gs rfl (rfl) rfl rfl ?_
  refine rs_gs rfl (rfl) rfl rfl ?_
  refine rs_v (v_pick_f rfl rfl) rfl ?_
  refine rs_v (v_move rfl) rfl ?_
  refine rs_gs rfl (rfl) rfl rfl ?_
  refine rs_gs rfl (rfl) rfl rfl ?_
  refine rs_gs rfl (rfl) rfl rfl ?_
  refine rs_gs rfl (rfl) rfl rfl ?_
  refine rs_gs rfl (rfl) rfl rfl ?_
  refine rs_gs rfl (rfl) rfl rfl ?_
  refine rs_v (v_pick_f rfl rfl) rfl ?_
  refine rs_nil ?_
  refine q_thn ?_
  refine tr_if_f rfl ?_
  refine tr_skip ?_
  refine q_thn ?_
  refine tr_seq ?_
  refine tr_reg ?_
  refine rs_v (v_move rfl) rfl ?_
  refine rs_v (v_move rfl) rfl ?_
  refine rs_v (v_nilCheck_ptr rfl) rfl ?_
  refine rs_v (v_fieldAddr fa_keyspan_DefragmentingIter_3 rfl) rfl ?_
  refine rs_v (v_load one_keyspan_FragmentIterator rfl (by exact Bc.cell _ rfl)) rfl ?_
  refine rs_w (w_mcall (vs := []) (hit.prev D.it rfl) rfl trivial) rfl ?_
  rintro r1 h1 hp1
  skip
  have DFF := D.ff
  obtain ⟨Fin2, D, hF2, _, KF2, hret2⟩ := D.inner hit hp1
  obtain ⟨qv2, rfl, _⟩ := hret2.form
  have hKz := KP.1
  have hFF2 : ∀ b, _ → F0 b ∨ h.size ≤ b := fun b hb => Or.elim hb (hFF b) (fun e => (hF2 b e).elim (fun e9 => hFF b (DFF b e9)) (fun e9 => Or.inr (by omega)))
  have KP := KP.trans KF2 hFF
  have hFF := hFF2
  have Bc := D.bc
  refine rs_v (v_nilCheck_ptr rfl) rfl ?_
  refine rs_v (v_fieldAddr fa_keyspan_DefragmentingIter_4 rfl) rfl ?_
  refine rs_w0 (w_put siz_p_keyspan_Span rfl rfl rfl rfl Bc rfl) ?_
  rintro _ h2 ⟨B2, K2⟩
  have hret1 := Ret.stab hret2 (K2.stab (A := Fin2) fun b hb => ⟨D.lo b (D.ff b hb), fun hm => D.di.fc (by rw [List.mem_singleton] at hm; subst hm; exact hb)⟩)
  have D := D.putC hit (sp' := .pointer qv2) (z' := 0) K2 B2
  have KP := KP.trans (K2.kp hcF) (fun _ h => .inl h)
  have Bc := D.bc
  refine rs_nil ?_
  refine q_thn ?_
  refine tr_seq ?_
  refine tr_seq ?_
  refine tr_reg ?_
  refine rs_v (v_move rfl) rfl ?_
  refine rs_v (v_nilCheck_ptr rfl) rfl ?_
  refine rs_v (v_fieldAddr fa_keyspan_DefragmentingIter_4 rfl) rfl ?_
  refine rs_v (v_load one_p_keyspan_Span rfl (by exact Bc.cell _ rfl)) rfl ?_
  refine rs_v (v_peq u_p_keyspan_Span rfl rfl) rfl ?_
  refine rs_nil ?_
  refine q_thn ?_
  refine tr_if rfl (fun hif => ?_) (fun hif => ?_)
  · -- yes
    have hq := ret_gen (P := 0 < W.length) (i := W.length - 1) (q0 := .ahead) (by simp only [pPrev]; split <;> split <;> simp_all <;> omega) (by omega) (by simp [cur]) hret1
    rcases hq with ⟨rfl, hW⟩ | ⟨hW, hq, x2, o2, rfl, _, _⟩
    rotate_left
    · simp at hif
    have hWn : W = [] := List.eq_nil_of_length_eq_zero (by omega)
    refine tr_seq ?_
    refine tr_reg ?_
    refine rs_v (v_assign rfl) rfl ?_
    refine rs_nil ?_
    refine q_thn ?_
    refine tr_ret ?_
    refine q_thn_ret ?_
    refine q_blk_ret ?_
    refine q_ret (res_tmp rfl rfl) ?_
    subst hWn
    exact di_post hlF hF0 hFc hcm Bq D hret1 (.inr (.inr (.inl ⟨rfl, rfl, rfl⟩))) KP hFF (by unfold Ret; rw [show cur (dfr []) .ahead = none from rfl])
  -- no
  have hq := ret_gen (P := 0 < W.length) (i := W.length - 1) (q0 := .ahead) (by simp only [pPrev]; split <;> split <;> simp_all <;> omega) (by omega) (by simp [cur]) hret1
  rcases hq with ⟨rfl, hW⟩ | ⟨hW, hq, x2, o2, rfl, _, _⟩
  · simp at hif
  rw [hq] at D hret1
  refine tr_skip ?_
  refine q_thn ?_
  refine tr_seq ?_
  refine tr_reg ?_
  refine rs_v (v_move rfl) rfl ?_
  refine rs_w (w_call (vs := [_]) ok_keyspan_DefragmentingIter_defragmentBackward rfl ⟨rfl, trivial⟩ (c_defragmentBackward hit hgood D (by omega) hret1)) rfl ?_
  rintro r3 h3 ⟨b3, Fin3, F3, sp3, sv3, ev3, kv3, a3, ksv3, kbv3, nk3, xk3, nb3, xb3, hrun3, hend3, D, hret, rfl, hps9, KP3, hF3⟩
  obtain ⟨qv3, rfl, _⟩ := hret.form
  have hKz := KP.1
  have KP := KP.trans KP3 hFF
  have hFF : ∀ b, F3 b → F0 b ∨ h.size ≤ b := fun b hb => (hF3 b hb).elim (hFF b) (fun e9 => Or.inr (by omega))
  have Bc := D.bc
  refine rs_v (v_assign rfl) rfl ?_
  refine rs_nil ?_
  refine q_thn ?_
  refine tr_ret ?_
  refine q_blk_ret ?_
  refine q_ret (res_tmp rfl rfl) ?_
  rw [show W.length - 1 + 1 = W.length from by omega] at hrun3 hps9
  have hg3 : Grp W b3 W.length := ⟨hend3, hrun3, .inl rfl⟩
  rw [grp_behind hg3]
  exact di_post hlF hF0 hFc hcm Bq D hret (.inr (.inr (.inr ⟨b3, W.length, rfl, hg3, .inr ⟨rfl, rfl⟩⟩))) KP hFF (ret_grp hg3 D.fc hps9)
theorem c_DiPrevT (χ : Chi) {W : List SpanD} {I : ItI} {t : TypeId} {v0 : Value} {cmb c cb : Nat} {F : Nat → Prop} {h : Heap} {x y : Nat} (hg : Grp W x y) (hit : IterOK Try.prog χ W t v0 I) (hgood : GoodD W)
    (hI : ∃ Fin F0 sp sv ev kv a ksv kbv nk xk nb xb s0, DSt W I t v0 (.pointer (some ⟨cmb, 0, none⟩)) c cb (nxtP W y) Fin F0 h sp 1 sv ev kv a ksv kbv nk xk nb xb ∧ Ret W (nxtP W y) Fin h sp ∧ ¬ F0 cmb ∧ (∀ b, F0 b → F b) ∧ F cmb ∧ Low F h ∧ Blk h cmb (cmpL s0) 119) :
    Cl Try.prog χ 146 #[.pointer (some ⟨c, 0, none⟩)] h (ItPost (dfr W) (DIt W I t v0 cmb c cb) F h (pPrev (dfr W) (.pt (nG W x)))) := by
  obtain ⟨Fin, F0, sp, sv, ev, kv, a, ksv, kbv, nk, xk, nb, xb, s0, D, hret, hcm, hF0, hFc, hlF, Bq⟩ := hI
  have KP := KeepP.refl F0 h
  have hFF : ∀ b, F0 b → F0 b ∨ h.size ≤ b := fun b hb => .inl hb
  have hcF : ∀ x, x ∈ [c] → F0 x := fun x hx => by rw [List.mem_singleton] at hx; subst hx; exact D.fc
  have Bc := D.bc
  have hgr := hg.2.1.1
  have hgr2 := hg.2.1.2.1
  refine cl_intro Try.func146 rfl rfl rfl ?_
  have K : Keep [] h h := Keep.refl _ _
  refine tr_seq ?_
  refine tr_reg ?_
  refine rs_v (v_assign rfl) rfl ?_
  refine rs_nil ?_
  refine q_thn ?_
  refine tr_seq ?_
  refine tr_reg ?_
  refine rs_v (v_move rfl) rfl ?_
  refine rs_v (v_nilCheck_ptr rfl) rfl ?_
  refine rs_v (v_fieldAddr fa_keyspan_DefragmentingIter_5 rfl) rfl ?_
  refine rs_v (v_load one_keyspan_iterPos rfl (by exact Bc.cell _ rfl)) rfl ?_
  refine rs_nil ?_
  refine q_thn ?_
  refine tr_block ?_
  refine tr_seq ?_
  refine tr_reg ?_
  refine rs_v (v_eq rfl rfl) rfl ?_
  refine rs_v (v_assign rfl) rfl ?_
  refine rs_nil ?_
  refine q_thn ?_
  refine tr_if_f rfl ?_
  refine tr_seq ?_
  refine tr_reg ?_
  refine rs_v (v_eq rfl rfl) rfl ?_
  refine rs_v (v_assign rfl) rfl ?_
  refine rs_nil ?_
  refine q_thn ?_
  refine tr_if_f rfl ?_
  refine tr_seq ?_
  refine tr_reg ?_
  refine rs_v (v_eq rfl rfl) rfl ?_
  refine rs_v (v_assign rfl) rfl ?_
  refine rs_nil ?_
  refine q_thn ?_
  refine tr_if_t rfl ?_
  refine tr_seq ?_
  refine tr_reg ?_
  refine rs_v (v_move rfl) rfl ?_
  refine rs_v (v_move rfl) rfl ?_
  refine rs_v (v_nilCheck_ptr rfl) rfl ?_
  refine rs_v (v_fieldAddr fa_keyspan_DefragmentingIter_3 rfl) rfl ?_
  refine rs_v (v_load one_keyspan_FragmentIterator rfl (by exact Bc.cell _ rfl)) rfl ?_
  refine rs_w (w_mcall (vs := []) (hit.prev D.it (by unfold nxtP; split <;> rfl)) rfl trivial) rfl ?_
  rintro r1 h1 hp1
  rw [prev_nxt (b := y) (by omega) (by omega)] at hp1
  have DFF := D.ff
  obtain ⟨Fin2, D, hF2, _, KF2, hret2⟩ := D.inner hit hp1
  obtain ⟨qv2, rfl, _⟩ := hret2.form
  have hKz := KP.1
  have hFF2 : ∀ b, _ → F0 b ∨ h.size ≤ b := fun b hb => Or.elim hb (hFF b) (fun e => (hF2 b e).elim (fun e9 => hFF b (DFF b e9)) (fun e9 => Or.inr (by omega)))
  have KP := KP.trans KF2 hFF
  have hFF := hFF2
  have Bc := D.bc
  refine rs_v (v_nilCheck_ptr rfl) rfl ?_
  refine rs_v (v_fieldAddr fa_keyspan_DefragmentingIter_4 rfl) rfl ?_
  refine rs_w0 (w_put siz_p_keyspan_Span rfl rfl rfl rfl Bc rfl) ?_
  rintro _ h2 ⟨B2, K2⟩
  have hret1 := Ret.stab hret2 (K2.stab (A := Fin2) fun b hb => ⟨D.lo b (D.ff b hb), fun hm => D.di.fc (by rw [List.mem_singleton] at hm; subst hm; exact hb)⟩)
  have D := D.putC hit (sp' := .pointer qv2) (z' := 1) K2 B2
  have KP := KP.trans (K2.kp hcF) (fun _ h => .inl h)
  have Bc := D.bc
  refine rs_nil ?_
  refine q_thn ?_
  refine tr_seq ?_
  refine tr_seq ?_
  refine tr_reg ?_
  refine rs_v (v_move rfl) rfl ?_
  refine rs_gs rfl (rfl) rfl rfl ?_
  refine rs_gs rfl (rfl) rfl rfl ?_
  refine rs_gs rfl (rfl) rfl rfl ?_
  refine rs_gs rfl (rfl) rfl rfl ?_
  refine rs_gs rfl (rfl) rfl rfl ?_
  refine rs_v (v_pick_f rfl rfl) rfl ?_
  refine rs_v (v_move rfl) rfl ?_
  refine rs_gs rfl (rfl) rfl rfl ?_
  refine rs_gs rfl (rfl) rfl rfl ?_
  refine rs_gs rfl (rfl) rfl rfl ?_
  refine rs_gs rfl (rfl) rfl rfl ?_
  refine rs_gs rfl (rfl) rfl rfl ?_
  refine rs_gs rfl (rfl) rfl rfl ?_
  refine rs_v (v_pick_f rfl rfl) rfl ?_
  refine rs_nil ?_
  refine q_thn ?_
  refine tr_if_f rfl ?_
  refine tr_skip ?_
  refine q_thn ?_
  refine tr_seq ?_
  refine tr_reg ?_
  refine rs_v (v_move rfl) rfl ?_
  refine rs_w (w_call (vs := [_]) ok_keyspan_DefragmentingIter_defragmentBackward rfl ⟨rfl, trivial⟩ (c_defragmentBackward hit hgood D (by omega) hret1)) rfl ?_
  rintro r3 h3 ⟨b3, Fin3, F3, sp3, sv3, ev3, kv3, a3, ksv3, kbv3, nk3, xk3, nb3, xb3, hrun3, hend3, D, hret, rfl, hps3, KP3, hF3⟩
  obtain ⟨qv3, rfl, _⟩ := hret.form
  have hKz := KP.1
  have KP := KP.trans KP3 hFF
  have hFF : ∀ b, F3 b → F0 b ∨ h.size ≤ b := fun b hb => (hF3 b hb).elim (hFF b) (fun e9 => Or.inr (by omega))
  have Bc := D.bc
  rw [show y - 1 + 1 = y from by omega] at hrun3 hps3
  have hg4 : Grp W b3 y := ⟨hend3, hrun3, hg.2.2⟩
  have hxb : x = b3 := by have h1 := grp_in2 (i := b3) ⟨by have := hrun3.1; omega, hg.2.1.2.1, hrun3.2.2⟩ hgr hg.1; have h2 := grp_in2 (i := x) hg.2.1 hrun3.1 hend3; omega
  subst hxb
  have hgr4 := hg4.2.1.1
  have hgr5 := hg4.2.1.2.1
  have hqq := ret_prv (by omega) hret
  refine rs_nil ?_
  refine q_thn ?_
  refine tr_seq ?_
  refine tr_seq ?_
  refine tr_reg ?_
  refine rs_v (v_move rfl) rfl ?_
  refine rs_v (v_nilCheck_ptr rfl) rfl ?_
  refine rs_v (v_fieldAddr fa_keyspan_DefragmentingIter_4 rfl) rfl ?_
  refine rs_v (v_load one_p_keyspan_Span rfl (by exact Bc.cell _ rfl)) rfl ?_
  refine rs_v (v_peq u_p_keyspan_Span rfl rfl) rfl ?_
  refine rs_nil ?_
  refine q_thn ?_
  refine tr_if rfl (fun hif => ?_) (fun hif => ?_)
  · -- yes
    rcases hqq with ⟨rfl, hb⟩ | ⟨hb, x2, o2, rfl, _, _⟩
    rotate_left
    · simp at hif
    have hret1 := hret
    refine tr_seq ?_
    refine tr_reg ?_
    refine rs_v (v_move rfl) rfl ?_
    refine rs_v (v_nilCheck_ptr rfl) rfl ?_
    refine rs_v (v_fieldAddr fa_keyspan_DefragmentingIter_5 rfl) rfl ?_
    refine rs_w0 (w_put siz_keyspan_iterPos rfl rfl rfl rfl Bc rfl) ?_
    rintro _ h4 ⟨B4, K4⟩
    have hret1 := Ret.stab hret1 (K4.stab (A := _) fun b hb => ⟨D.lo b (D.ff b hb), fun hm => D.di.fc (by rw [List.mem_singleton] at hm; subst hm; exact hb)⟩)
    have D := D.putC hit (sp' := .pointer none) (z' := 0) K4 B4
    have KP := KP.trans (K4.kp hcF) (fun _ h => .inl h)
    refine rs_nil ?_
    refine q_thn ?_
    refine tr_seq ?_
    refine tr_reg ?_
    refine rs_v (v_assign rfl) rfl ?_
    refine rs_nil ?_
    refine q_thn ?_
    refine tr_ret ?_
    refine q_thn_ret ?_
    refine q_blk_ret ?_
    refine q_ret (res_tmp rfl rfl) ?_
    rw [grp_prev (a2 := 0) hg4 (.inl (by omega)), if_pos (by omega)]
    exact di_post hlF hF0 hFc hcm Bq D hret1 (.inr (.inr (.inl ⟨rfl, if_pos hb, rfl⟩))) KP hFF (by unfold Ret; rw [show cur (dfr W) .ahead = none from rfl])
  -- no
  rcases hqq with ⟨rfl, hb⟩ | ⟨hb, x2, o2, rfl, _, _⟩
  · simp at hif
  rw [show prvP x = .pt (x - 1) from if_neg (by omega)] at D hret
  refine tr_skip ?_
  refine q_thn ?_
  refine tr_seq ?_
  refine tr_reg ?_
  refine rs_v (v_move rfl) rfl ?_
  refine rs_w (w_call (vs := [_]) ok_keyspan_DefragmentingIter_defragmentBackward rfl ⟨rfl, trivial⟩ (c_defragmentBackward hit hgood D (by omega) hret)) rfl ?_
  rintro r5 h5 ⟨b9, Fin3, F3, sp3, sv3, ev3, kv3, a3, ksv3, kbv3, nk3, xk3, nb9, xb9, hrun9, hend9, D, hret, rfl, hps9, KP3, hF3⟩
  obtain ⟨qv3, rfl, _⟩ := hret.form
  have hKz := KP.1
  have KP := KP.trans KP3 hFF
  have hFF : ∀ b, F3 b → F0 b ∨ h.size ≤ b := fun b hb => (hF3 b hb).elim (hFF b) (fun e9 => Or.inr (by omega))
  have Bc := D.bc
  refine rs_v (v_assign rfl) rfl ?_
  refine rs_nil ?_
  refine q_thn ?_
  refine tr_ret ?_
  refine q_blk_ret ?_
  refine q_ret (res_tmp rfl rfl) ?_
  rw [show x - 1 + 1 = x from by omega] at hrun9 hps9
  have hg3 : Grp W b9 x := ⟨hend9, hrun9, end_of_beg hg.1 hb⟩
  rw [grp_prev hg4 (.inr hg3), if_neg (by omega)]
  exact di_post hlF hF0 hFc hcm Bq D hret (.inr (.inr (.inr ⟨b9, x, rfl, hg3, .inr ⟨rfl, rfl⟩⟩))) KP hFF (ret_grp hg3 D.fc hps9)
theorem c_DiPrev (χ : Chi) {W : List SpanD} {I : ItI} {t : TypeId} {v0 : Value} {cmb c cb : Nat} {p : Pos} {F : Nat → Prop} {h : Heap} (hit : IterOK Try.prog χ W t v0 I) (hgood : GoodD W) (hI : DIt W I t v0 cmb c cb p F h) (hc : canPrev p = true) :
    Cl Try.prog χ 146 #[.pointer (some ⟨c, 0, none⟩)] h (ItPost (dfr W) (DIt W I t v0 cmb c cb) F h (pPrev (dfr W) p)) := by
  obtain ⟨q, Fin, F0, sp, z, sv, ev, kv, a, ksv, kbv, nk, xk, nb, xb, s0, D, hret, hrel, hcm, hF0, hFc, hlF, Bq⟩ := hI
  rcases hrel with rfl | ⟨rfl, rfl, rfl⟩ | ⟨rfl, rfl, rfl⟩ | ⟨x, y, rfl, hg, ⟨rfl, rfl⟩ | ⟨rfl, rfl⟩⟩
  · simp [canPrev] at hc
  · exact c_DiPrevN χ hit hgood ⟨Fin, F0, sp, sv, ev, kv, a, ksv, kbv, nk, xk, nb, xb, s0, D, hret, hcm, hF0, hFc, hlF, Bq⟩
  · simp [canPrev] at hc
  · exact c_DiPrevT χ hg hit hgood ⟨Fin, F0, sp, sv, ev, kv, a, ksv, kbv, nk, xk, nb, xb, s0, D, hret, hcm, hF0, hFc, hlF, Bq⟩
  · exact c_DiPrevS χ hg hit hgood ⟨Fin, F0, sp, sv, ev, kv, a, ksv, kbv, nk, xk, nb, xb, s0, D, hret, hcm, hF0, hFc, hlF, Bq⟩
end Go.Proofs.Ytgebfbnndgjkiaa
namespace Go.Proofs.Ytgebfbnndgjkiaa
open Go.Tess Go.RowKit
set_option maxRecDepth 100000
set_option maxHeartbeats 1000000
theorem c_DiSeekGE (χ : Chi) {W : List SpanD} {I : ItI} {t : TypeId} {v0 : Value} {cmb c cb : Nat} {p : Pos} {F : Nat → Prop} {h : Heap} (hit : IterOK Try.prog χ W t v0 I) (hgood : GoodD W) (hI : DIt W I t v0 cmb c cb p F h) (hO : Tess.Ord W) {kv0 : Value} {key : ByteArray} (hkey : RBytes (fun b => ¬ F b) h kv0 key) :
    Cl Try.prog χ 147 #[.pointer (some ⟨c, 0, none⟩), kv0] h (ItPost (dfr W) (DIt W I t v0 cmb c cb) F h (pGE (dfr W) key)) := by
  obtain ⟨q, Fin, F0, sp, z, sv, ev, kv, a, ksv, kbv, nk, xk, nb, xb, s0, D, hret, hrel, hcm, hF0, hFc, hlF, Bq⟩ := hI
  have KP := KeepP.refl F0 h
  have hFF : ∀ b, F0 b → F0 b ∨ h.size ≤ b := fun b hb => .inl hb
  have hcF : ∀ x, x ∈ [c] → F0 x := fun x hx => by rw [List.mem_singleton] at hx; subst hx; exact D.fc
  have Bc := D.bc
  refine cl_intro Try.func147 rfl rfl rfl ?_
  have K : Keep [] h h := Keep.refl _ _
  refine tr_seq ?_
  refine tr_reg ?_
  refine rs_v (v_assign rfl) rfl ?_
  refine rs_nil ?_
  refine q_thn ?_
  refine tr_seq ?_
  refine tr_reg ?_
  refine rs_v (v_move rfl) rfl ?_
  refine rs_v (v_move rfl) rfl ?_
  refine rs_v (v_nilCheck_ptr rfl) rfl ?_
  refine rs_v (v_fieldAddr fa_keyspan_DefragmentingIter_3 rfl) rfl ?_
  refine rs_v (v_load one_keyspan_FragmentIterator rfl (by exact Bc.cell _ rfl)) rfl ?_
  refine rs_v (v_move rfl) rfl ?_
  refine rs_w (w_mcall (vs := [_]) (hit.ge D.it (hkey.mono (fun b hb hf => hb (hF0 b (D.ff b hf))))) rfl ⟨rfl, trivial⟩) rfl ?_
  rintro r1 h1 hp1
  skip
  have DFF := D.ff
  obtain ⟨Fin2, D, hF2, _, KF2, hret2⟩ := D.inner hit hp1
  obtain ⟨qv2, rfl, _⟩ := hret2.form
  have hKz := KP.1
  have hFF2 : ∀ b, _ → F0 b ∨ h.size ≤ b := fun b hb => Or.elim hb (hFF b) (fun e => (hF2 b e).elim (fun e9 => hFF b (DFF b e9)) (fun e9 => Or.inr (by omega)))
  have KP := KP.trans KF2 hFF
  have hFF := hFF2
  have Bc := D.bc
  refine rs_v (v_nilCheck_ptr rfl) rfl ?_
  refine rs_v (v_fieldAddr fa_keyspan_DefragmentingIter_4 rfl) rfl ?_
  refine rs_w0 (w_put siz_p_keyspan_Span rfl rfl rfl rfl Bc rfl) ?_
  rintro _ h2 ⟨B2, K2⟩
  have hret1 := Ret.stab hret2 (K2.stab (A := Fin2) fun b hb => ⟨D.lo b (D.ff b hb), fun hm => D.di.fc (by rw [List.mem_singleton] at hm; subst hm; exact hb)⟩)
  have D := D.putC hit (sp' := .pointer qv2) (z' := z) K2 B2
  have KP := KP.trans (K2.kp hcF) (fun _ h => .inl h)
  have Bc := D.bc
  refine rs_nil ?_
  refine q_thn ?_
  refine tr_seq ?_
  refine tr_seq ?_
  refine tr_reg ?_
  refine rs_v (v_move rfl) rfl ?_
  refine rs_v (v_nilCheck_ptr rfl) rfl ?_
  refine rs_v (v_fieldAddr fa_keyspan_DefragmentingIter_4 rfl) rfl ?_
  refine rs_v (v_load one_p_keyspan_Span rfl (by exact Bc.cell _ rfl)) rfl ?_
  refine rs_v (v_peq u_p_keyspan_Span rfl rfl) rfl ?_
  refine rs_nil ?_
  refine q_thn ?_
  refine tr_if rfl (fun hif => ?_) (fun hif => ?_)
  · -- yes
    have hq := ret_gen (q := pGE W key) (P := geI W key < W.length) (i := (geI W key)) (q0 := .behind) (rfl) (fun h => h) (by simp [cur]) hret1
    rcases hq with ⟨rfl, hW⟩ | ⟨hW, hq, x2, o2, rfl, _, _⟩
    rotate_left
    · simp at hif
    refine tr_seq ?_
    refine tr_reg ?_
    refine rs_v (v_move rfl) rfl ?_
    refine rs_v (v_nilCheck_ptr rfl) rfl ?_
    refine rs_v (v_fieldAddr fa_keyspan_DefragmentingIter_5 rfl) rfl ?_
    refine rs_w0 (w_put siz_keyspan_iterPos rfl rfl rfl rfl Bc rfl) ?_
    rintro _ h3 ⟨B3, K3⟩
    have hret1 := Ret.stab hret1 (K3.stab (A := _) fun b hb => ⟨D.lo b (D.ff b hb), fun hm => D.di.fc (by rw [List.mem_singleton] at hm; subst hm; exact hb)⟩)
    have D := D.putC hit (sp' := .pointer none) (z' := 0) K3 B3
    have KP := KP.trans (K3.kp hcF) (fun _ h => .inl h)
    refine rs_nil ?_
    refine q_thn ?_
    refine tr_seq ?_
    refine tr_reg ?_
    refine rs_v (v_assign rfl) rfl ?_
    refine rs_nil ?_
    refine q_thn ?_
    refine tr_ret ?_
    refine q_thn_ret ?_
    refine q_ret (res_tmp rfl rfl) ?_
    rw [ge_none hW]
    exact di_post hlF hF0 hFc hcm Bq D hret1 (.inr (.inl ⟨rfl, (by simp only [pGE]; exact if_neg hW), rfl⟩)) KP hFF (by unfold Ret; rw [show cur (dfr W) .behind = none from rfl])
  -- no
  have hq := ret_gen (q := pGE W key) (P := geI W key < W.length) (i := (geI W key)) (q0 := .behind) (rfl) (fun h => h) (by simp [cur]) hret1
  rcases hq with ⟨rfl, hW⟩ | ⟨hW, hq, x2, o2, rfl, hFb2, hps2⟩
  · simp at hif
  have hil : (geI W key) < W.length := by exact hW
  rw [hq] at D hret1
  obtain ⟨ss, se, sk, _, hcs, r1, r2, r3⟩ := hps2
  obtain ⟨ka, kc, rfl⟩ := SlR.form2 r3
  have hne := (hgood (nth W (geI W key)) (nth_mem hil)).1
  have hne0 : decide (((nth W (geI W key)).ks.length : Int) = 0) = false := by simp; exact hne
  have Bq2 := KP.blk hcm Bq
  have hke := RBytes.by ((RBytes.lowen hkey).stab (fun b hb => KP.2 b hb.2 (fun h0 => hb.1 (hF0 b h0))))
  refine tr_seq ?_
  refine tr_reg ?_
  refine rs_v (v_move rfl) rfl ?_
  refine rs_v (v_nilCheck_ptr rfl) rfl ?_
  refine rs_v (v_fieldAddr fa_keyspan_DefragmentingIter_4 rfl) rfl ?_
  refine rs_v (v_load one_p_keyspan_Span rfl (by exact Bc.cell _ rfl)) rfl ?_
  refine rs_w (w_call (vs := [_]) ok_keyspan_Span_Empty rfl ⟨rfl, trivial⟩ (c_Empty χ _ _ _ ka _ kc (hcs.at 2 rfl))) rfl ?_
  rintro _ h4 ⟨rfl, hsame⟩; have hsame := hsame.symm; subst hsame
  refine rs_nil ?_
  refine q_thn ?_
  refine tr_if_f (lkb hne0) ?_
  refine tr_skip ?_
  refine q_thn ?_
  refine tr_seq ?_
  refine tr_seq ?_
  refine tr_quiet (by kernel_rfl) (by kernel_rfl) ?_
  refine rq_v (v_move rfl) ?_
  refine rq_v (v_nilCheck_ptr rfl) ?_
  refine rq_v (v_fieldAddr fa_keyspan_DefragmentingIter_1 rfl) ?_
  refine rq_v (v_load one_p_base_Comparer rfl (by exact Bc.cell _ rfl)) ?_
  refine rq_v (v_nilCheck_ptr rfl) ?_
  refine rq_v (v_fieldAddr fa_base_Comparer_0 rfl) ?_
  refine rq_v (v_load one_base_Compare rfl (by exact Bq2.cell _ rfl)) ?_
  refine rq_v (v_move rfl) ?_
  refine rq_v (v_nilCheck_ptr rfl) ?_
  refine rq_v (v_fieldAddr fa_keyspan_DefragmentingIter_4 rfl) ?_
  refine rq_v (v_load one_p_keyspan_Span rfl (by exact Bc.cell _ rfl)) ?_
  refine rq_v (v_nilCheck_ptr rfl) ?_
  refine rq_v (v_fieldAddr fa_keyspan_Span_0 rfl) ?_
  refine rq_v (v_load one_sl_uint8 rfl (by exact hcs.at 0 rfl)) ?_
  refine rq_v (v_move rfl) ?_
  refine rq_w (w_callv (first := []) (cap := []) (vs := [_, _]) ok_bytes_Compare rfl ⟨rfl, rfl, trivial⟩ (c_Compare χ _ _ _ (nth W (geI W key)).s key (RBytes.by r1) hke)) ?_
  refine rq_v (v_gt rfl rfl) ?_
  refine rm_end ?_; simp only [endM, hypF, ofE, argE]
  refine q_thn ?_
  refine tr_if rfl (fun hif => ?_) (fun hif => ?_)
  · -- yes
    simp only [decide_eq_true_eq, decide_eq_false_iff_not] at hif
    refine tr_seq ?_
    refine tr_reg ?_
    refine rs_v (v_move rfl) rfl ?_
    refine rs_w (w_call (vs := [_]) ok_keyspan_DefragmentingIter_defragmentForward rfl ⟨rfl, trivial⟩ (c_defragmentForward hit hgood D hil hret1)) rfl ?_
    rintro r5 h5 ⟨b3, Fin3, F3, sp3, sv3, ev3, kv3, a3, ksv3, kbv3, nk3, xk3, nb3, xb3, hrun3, hend3, D, hret, rfl, hps3, KP3, hF3⟩
    obtain ⟨qv3, rfl, _⟩ := hret.form
    have hKz := KP.1
    have KP := KP.trans KP3 hFF
    have hFF : ∀ b, F3 b → F0 b ∨ h.size ≤ b := fun b hb => (hF3 b hb).elim (hFF b) (fun e9 => Or.inr (by omega))
    have Bc := D.bc
    refine rs_v (v_assign rfl) rfl ?_
    refine rs_nil ?_
    refine q_thn ?_
    refine tr_ret ?_
    refine q_thn_ret ?_
    refine q_ret (res_tmp rfl rfl) ?_
    have hg : Grp W (geI W key) b3 := ⟨ge_beg hil (not_sle.1 (sle_no.2 hif)), hrun3, hend3⟩
    rw [ge_grp hO hg (Nat.le_refl _) hrun3.1]
    exact di_post hlF hF0 hFc hcm Bq D hret (.inr (.inr (.inr ⟨_, b3, rfl, hg, .inl ⟨rfl, rfl⟩⟩))) KP hFF (ret_grp hg D.fc hps3)
  -- no
  simp only [decide_eq_true_eq, decide_eq_false_iff_not] at hif
  refine tr_skip ?_
  refine q_thn ?_
  refine tr_seq ?_
  refine tr_reg ?_
  refine rs_v (v_move rfl) rfl ?_
  refine rs_w (w_call (vs := [_]) ok_keyspan_DefragmentingIter_defragmentBackward rfl ⟨rfl, trivial⟩ (c_defragmentBackward hit hgood D hil hret1)) rfl ?_
  rintro r6 h6 ⟨b3, Fin3, F3, sp3, sv3, ev3, kv3, a3, ksv3, kbv3, nk3, xk3, nb3, xb3, hrun3, hend3, D, hret, rfl, hps3, KP3, hF3⟩
  obtain ⟨qv3, rfl, _⟩ := hret.form
  have hKz := KP.1
  have KP := KP.trans KP3 hFF
  have hFF : ∀ b, F3 b → F0 b ∨ h.size ≤ b := fun b hb => (hF3 b hb).elim (hFF b) (fun e9 => Or.inr (by omega))
  have Bc := D.bc
  refine rs_nil ?_
  refine q_thn ?_
  refine tr_seq ?_
  refine tr_cut (fun E h' => h6 = h' ∧ E = [(0, .pointer (some ⟨c, 0, none⟩)), (67, .bool false)]) ?_ ?_
  ·
    have hqq := ret_prv (by have := hrun3.1; have := hrun3.2.1; omega) hret
    rcases hqq with ⟨rfl, _⟩ | ⟨_, x4, o4, rfl, _, _⟩
    · skip
      refine tr_reg ?_
      refine rs_v (v_move rfl) rfl ?_
      refine rs_v (v_nilCheck_ptr rfl) rfl ?_
      refine rs_v (v_fieldAddr fa_keyspan_DefragmentingIter_4 rfl) rfl ?_
      refine rs_v (v_load one_p_keyspan_Span rfl (by exact Bc.cell _ rfl)) rfl ?_
      refine rs_v (v_peq u_p_keyspan_Span rfl rfl) rfl ?_
      refine rs_v (v_move rfl) rfl ?_
      refine rs_gv rfl (rfl) (v_move rfl) rfl ?_
      refine rs_gv rfl (rfl) (v_nilCheck_ptr rfl) rfl ?_
      refine rs_gv rfl (rfl) (v_fieldAddr fa_keyspan_DefragmentingIter_3 rfl) rfl ?_
      refine rs_gv rfl (rfl) (v_load one_keyspan_FragmentIterator rfl (by exact Bc.cell _ rfl)) rfl ?_
      refine rs_gw rfl (rfl) (w_mcall (vs := []) (hit.err D.it) rfl trivial) rfl ?_
      rintro _ h7 ⟨rfl, hsame⟩; have hsame := hsame.symm; subst hsame
      refine rs_gv rfl (rfl) (v_ine_nil isi_error rfl rfl) rfl ?_
      refine rs_v (v_pick_t rfl rfl) rfl ?_
      refine rs_nil ?_
      exact q_cut [(0, _), (67, _)] ⟨rfl, rfl, trivial⟩ ⟨rfl, rfl⟩
    · skip
      refine tr_reg ?_
      refine rs_v (v_move rfl) rfl ?_
      refine rs_v (v_nilCheck_ptr rfl) rfl ?_
      refine rs_v (v_fieldAddr fa_keyspan_DefragmentingIter_4 rfl) rfl ?_
      refine rs_v (v_load one_p_keyspan_Span rfl (by exact Bc.cell _ rfl)) rfl ?_
      refine rs_v (v_peq u_p_keyspan_Span rfl rfl) rfl ?_
      refine rs_v (v_move rfl) rfl ?_
      refine rs_gs rfl (rfl) rfl rfl ?_
      refine rs_gs rfl (rfl) rfl rfl ?_
      refine rs_gs rfl (rfl) rfl rfl ?_
      refine rs_gs rfl (rfl) rfl rfl ?_
      refine rs_gs rfl (rfl) rfl rfl ?_
      refine rs_gs rfl (rfl) rfl rfl ?_
      refine rs_v (v_pick_f rfl rfl) rfl ?_
      refine rs_nil ?_
      exact q_cut [(0, _), (67, _)] ⟨rfl, rfl, trivial⟩ ⟨rfl, rfl⟩
  rintro E h99 ⟨hh, rfl⟩
  subst hh
  refine tr_if_f rfl ?_
  refine tr_skip ?_
  refine q_thn ?_
  refine tr_seq ?_
  refine tr_seq ?_
  refine tr_reg ?_
  refine rs_v (v_move rfl) rfl ?_
  refine rs_v (v_nilCheck_ptr rfl) rfl ?_
  refine rs_v (v_fieldAddr fa_keyspan_DefragmentingIter_5 rfl) rfl ?_
  refine rs_v (v_load one_keyspan_iterPos rfl (by exact Bc.cell _ rfl)) rfl ?_
  refine rs_v (v_eq rfl rfl) rfl ?_
  refine rs_nil ?_
  refine q_thn ?_
  refine tr_if_t rfl ?_
  refine tr_reg ?_
  refine rs_v (v_move rfl) rfl ?_
  refine rs_v (v_move rfl) rfl ?_
  refine rs_v (v_nilCheck_ptr rfl) rfl ?_
  refine rs_v (v_fieldAddr fa_keyspan_DefragmentingIter_3 rfl) rfl ?_
  refine rs_v (v_load one_keyspan_FragmentIterator rfl (by exact Bc.cell _ rfl)) rfl ?_
  refine rs_w (w_mcall (vs := []) (hit.next D.it (by unfold prvP; split <;> rfl)) rfl trivial) rfl ?_
  rintro r9 h9 hp9
  rw [next_prv (a := b3) (by have := hrun3.1; have := hrun3.2.1; omega)] at hp9
  have DFF := D.ff
  obtain ⟨Fin2, D, hF2, _, KF2, hret2⟩ := D.inner hit hp9
  obtain ⟨qv2, rfl, _⟩ := hret2.form
  have hKz := KP.1
  have hFF2 : ∀ b, _ → F0 b ∨ h.size ≤ b := fun b hb => Or.elim hb (hFF b) (fun e => (hF2 b e).elim (fun e9 => hFF b (DFF b e9)) (fun e9 => Or.inr (by omega)))
  have KP := KP.trans KF2 hFF
  have hFF := hFF2
  have Bc := D.bc
  refine rs_v (v_nilCheck_ptr rfl) rfl ?_
  refine rs_v (v_fieldAddr fa_keyspan_DefragmentingIter_4 rfl) rfl ?_
  refine rs_w0 (w_put siz_p_keyspan_Span rfl rfl rfl rfl Bc rfl) ?_
  rintro _ h10 ⟨B10, K10⟩
  have hret1 := Ret.stab hret2 (K10.stab (A := Fin2) fun b hb => ⟨D.lo b (D.ff b hb), fun hm => D.di.fc (by rw [List.mem_singleton] at hm; subst hm; exact hb)⟩)
  have D := D.putC hit (sp' := .pointer qv2) (z' := (-1)) K10 B10
  have KP := KP.trans (K10.kp hcF) (fun _ h => .inl h)
  have Bc := D.bc
  refine rs_nil ?_
  refine q_thn ?_
  refine tr_seq ?_
  refine tr_reg ?_
  refine rs_v (v_move rfl) rfl ?_
  refine rs_w (w_call (vs := [_]) ok_keyspan_DefragmentingIter_defragmentForward rfl ⟨rfl, trivial⟩ (c_defragmentForward hit hgood D (i := b3) (by have := hrun3.1; have := hrun3.2.1; omega) hret1)) rfl ?_
  rintro r11 h11 ⟨b9, Fin3, F3, sp3, sv3, ev3, kv3, a3, ksv3, kbv3, nk3, xk3, nb9, xb9, hrun9, hend9, D, hret, rfl, hps9, KP3, hF3⟩
  obtain ⟨qv3, rfl, _⟩ := hret.form
  have hKz := KP.1
  have KP := KP.trans KP3 hFF
  have hFF : ∀ b, F3 b → F0 b ∨ h.size ≤ b := fun b hb => (hF3 b hb).elim (hFF b) (fun e9 => Or.inr (by omega))
  have Bc := D.bc
  refine rs_v (v_assign rfl) rfl ?_
  refine rs_nil ?_
  refine q_thn ?_
  refine tr_ret ?_
  refine q_ret (res_tmp rfl rfl) ?_
  have hg : Grp W b3 b9 := ⟨hend3, hrun9, hend9⟩
  rw [ge_grp hO hg (by have := hrun3.1; omega) (grp_in hrun3 hrun9.1 hend9)]
  exact di_post hlF hF0 hFc hcm Bq D hret (.inr (.inr (.inr ⟨b3, b9, rfl, hg, .inl ⟨rfl, rfl⟩⟩))) KP hFF (ret_grp hg D.fc hps9)
theorem c_DiSeekLT (χ : Chi) {W : List SpanD} {I : ItI} {t : TypeId} {v0 : Value} {cmb c cb : Nat} {p : Pos} {F : Nat → Prop} {h : Heap} (hit : IterOK Try.prog χ W t v0 I) (hgood : GoodD W) (hI : DIt W I t v0 cmb c cb p F h) (hO : Tess.Ord W) {kv0 : Value} {key : ByteArray} (hkey : RBytes (fun b => ¬ F b) h kv0 key) :
    Cl Try.prog χ 148 #[.pointer (some ⟨c, 0, none⟩), kv0] h (ItPost (dfr W) (DIt W I t v0 cmb c cb) F h (pLT (dfr W) key)) := by
  obtain ⟨q, Fin, F0, sp, z, sv, ev, kv, a, ksv, kbv, nk, xk, nb, xb, s0, D, hret, hrel, hcm, hF0, hFc, hlF, Bq⟩ := hI
  have KP := KeepP.refl F0 h
  have hFF : ∀ b, F0 b → F0 b ∨ h.size ≤ b := fun b hb => .inl hb
  have hcF : ∀ x, x ∈ [c] → F0 x := fun x hx => by rw [List.mem_singleton] at hx; subst hx; exact D.fc
  have Bc := D.bc
  refine cl_intro Try.func148 rfl rfl rfl ?_
  have K : Keep [] h h := Keep.refl _ _
  refine tr_seq ?_
  refine tr_reg ?_
  refine rs_v (v_assign rfl) rfl ?_
  refine rs_nil ?_
  refine q_thn ?_
  refine tr_seq ?_
  refine tr_reg ?_
  refine rs_v (v_move rfl) rfl ?_
  refine rs_v (v_move rfl) rfl ?_
  refine rs_v (v_nilCheck_ptr rfl) rfl ?_
  refine rs_v (v_fieldAddr fa_keyspan_DefragmentingIter_3 rfl) rfl ?_
  refine rs_v (v_load one_keyspan_FragmentIterator rfl (by exact Bc.cell _ rfl)) rfl ?_
  refine rs_v (v_move rfl) rfl ?_
  refine rs_w (w_mcall (vs := [_]) (hit.lt D.it (hkey.mono (fun b hb hf => hb (hF0 b (D.ff b hf))))) rfl ⟨rfl, trivial⟩) rfl ?_
  rintro r1 h1 hp1
  skip
  have DFF := D.ff
  obtain ⟨Fin2, D, hF2, _, KF2, hret2⟩ := D.inner hit hp1
  obtain ⟨qv2, rfl, _⟩ := hret2.form
  have hKz := KP.1
  have hFF2 : ∀ b, _ → F0 b ∨ h.size ≤ b := fun b hb => Or.elim hb (hFF b) (fun e => (hF2 b e).elim (fun e9 => hFF b (DFF b e9)) (fun e9 => Or.inr (by omega)))
  have KP := KP.trans KF2 hFF
  have hFF := hFF2
  have Bc := D.bc
  refine rs_v (v_nilCheck_ptr rfl) rfl ?_
  refine rs_v (v_fieldAddr fa_keyspan_DefragmentingIter_4 rfl) rfl ?_
  refine rs_w0 (w_put siz_p_keyspan_Span rfl rfl rfl rfl Bc rfl) ?_
  rintro _ h2 ⟨B2, K2⟩
  have hret1 := Ret.stab hret2 (K2.stab (A := Fin2) fun b hb => ⟨D.lo b (D.ff b hb), fun hm => D.di.fc (by rw [List.mem_singleton] at hm; subst hm; exact hb)⟩)
  have D := D.putC hit (sp' := .pointer qv2) (z' := z) K2 B2
  have KP := KP.trans (K2.kp hcF) (fun _ h => .inl h)
  have Bc := D.bc
  refine rs_nil ?_
  refine q_thn ?_
  refine tr_seq ?_
  refine tr_seq ?_
  refine tr_reg ?_
  refine rs_v (v_move rfl) rfl ?_
  refine rs_v (v_nilCheck_ptr rfl) rfl ?_
  refine rs_v (v_fieldAddr fa_keyspan_DefragmentingIter_4 rfl) rfl ?_
  refine rs_v (v_load one_p_keyspan_Span rfl (by exact Bc.cell _ rfl)) rfl ?_
  refine rs_v (v_peq u_p_keyspan_Span rfl rfl) rfl ?_
  refine rs_nil ?_
  refine q_thn ?_
  refine tr_if rfl (fun hif => ?_) (fun hif => ?_)
  · -- yes
    have hq := ret_gen (q := pLT W key) (P := ¬ ltI W key = 0) (i := (ltI W key - 1)) (q0 := .ahead) (by simp only [pLT]; split <;> simp_all) (fun h => by have := ltI_le W key; omega) (by simp [cur]) hret1
    rcases hq with ⟨rfl, hW⟩ | ⟨hW, hq, x2, o2, rfl, _, _⟩
    rotate_left
    · simp at hif
    refine tr_seq ?_
    refine tr_reg ?_
    refine rs_v (v_move rfl) rfl ?_
    refine rs_v (v_nilCheck_ptr rfl) rfl ?_
    refine rs_v (v_fieldAddr fa_keyspan_DefragmentingIter_5 rfl) rfl ?_
    refine rs_w0 (w_put siz_keyspan_iterPos rfl rfl rfl rfl Bc rfl) ?_
    rintro _ h3 ⟨B3, K3⟩
    have hret1 := Ret.stab hret1 (K3.stab (A := _) fun b hb => ⟨D.lo b (D.ff b hb), fun hm => D.di.fc (by rw [List.mem_singleton] at hm; subst hm; exact hb)⟩)
    have D := D.putC hit (sp' := .pointer none) (z' := 0) K3 B3
    have KP := KP.trans (K3.kp hcF) (fun _ h => .inl h)
    refine rs_nil ?_
    refine q_thn ?_
    refine tr_seq ?_
    refine tr_reg ?_
    refine rs_v (v_assign rfl) rfl ?_
    refine rs_nil ?_
    refine q_thn ?_
    refine tr_ret ?_
    refine q_thn_ret ?_
    refine q_ret (res_tmp rfl rfl) ?_
    rw [lt_none (by omega)]
    exact di_post hlF hF0 hFc hcm Bq D hret1 (.inr (.inr (.inl ⟨rfl, (by simp only [pLT]; exact if_pos (by omega)), rfl⟩))) KP hFF (by unfold Ret; rw [show cur (dfr W) .ahead = none from rfl])
  -- no
  have hq := ret_gen (q := pLT W key) (P := ¬ ltI W key = 0) (i := (ltI W key - 1)) (q0 := .ahead) (by simp only [pLT]; split <;> simp_all) (fun h => by have := ltI_le W key; omega) (by simp [cur]) hret1
  rcases hq with ⟨rfl, hW⟩ | ⟨hW, hq, x2, o2, rfl, hFb2, hps2⟩
  · simp at hif
  have hil : (ltI W key - 1) < W.length := by have := ltI_le W key; omega
  rw [hq] at D hret1
  obtain ⟨ss, se, sk, _, hcs, r1, r2, r3⟩ := hps2
  obtain ⟨ka, kc, rfl⟩ := SlR.form2 r3
  have hne := (hgood (nth W (ltI W key - 1)) (nth_mem hil)).1
  have hne0 : decide (((nth W (ltI W key - 1)).ks.length : Int) = 0) = false := by simp; exact hne
  have Bq2 := KP.blk hcm Bq
  have hke := RBytes.by ((RBytes.lowen hkey).stab (fun b hb => KP.2 b hb.2 (fun h0 => hb.1 (hF0 b h0))))
  refine tr_seq ?_
  refine tr_reg ?_
  refine rs_v (v_move rfl) rfl ?_
  refine rs_v (v_nilCheck_ptr rfl) rfl ?_
  refine rs_v (v_fieldAddr fa_keyspan_DefragmentingIter_4 rfl) rfl ?_
  refine rs_v (v_load one_p_keyspan_Span rfl (by exact Bc.cell _ rfl)) rfl ?_
  refine rs_w (w_call (vs := [_]) ok_keyspan_Span_Empty rfl ⟨rfl, trivial⟩ (c_Empty χ _ _ _ ka _ kc (hcs.at 2 rfl))) rfl ?_
  rintro _ h4 ⟨rfl, hsame⟩; have hsame := hsame.symm; subst hsame
  refine rs_nil ?_
  refine q_thn ?_
  refine tr_if_f (lkb hne0) ?_
  refine tr_skip ?_
  refine q_thn ?_
  refine tr_seq ?_
  refine tr_seq ?_
  refine tr_quiet (by kernel_rfl) (by kernel_rfl) ?_
  refine rq_v (v_move rfl) ?_
  refine rq_v (v_nilCheck_ptr rfl) ?_
  refine rq_v (v_fieldAddr fa_keyspan_DefragmentingIter_1 rfl) ?_
  refine rq_v (v_load one_p_base_Comparer rfl (by exact Bc.cell _ rfl)) ?_
  refine rq_v (v_nilCheck_ptr rfl) ?_
  refine rq_v (v_fieldAddr fa_base_Comparer_0 rfl) ?_
  refine rq_v (v_load one_base_Compare rfl (by exact Bq2.cell _ rfl)) ?_
  refine rq_v (v_move rfl) ?_
  refine rq_v (v_nilCheck_ptr rfl) ?_
  refine rq_v (v_fieldAddr fa_keyspan_DefragmentingIter_4 rfl) ?_
  refine rq_v (v_load one_p_keyspan_Span rfl (by exact Bc.cell _ rfl)) ?_
  refine rq_v (v_nilCheck_ptr rfl) ?_
  refine rq_v (v_fieldAddr fa_keyspan_Span_1 rfl) ?_
  refine rq_v (v_load one_sl_uint8 rfl (by exact hcs.at 1 rfl)) ?_
  refine rq_v (v_move rfl) ?_
  refine rq_w (w_callv (first := []) (cap := []) (vs := [_, _]) ok_bytes_Compare rfl ⟨rfl, rfl, trivial⟩ (c_Compare χ _ _ _ (nth W (ltI W key - 1)).e key (RBytes.by r2) hke)) ?_
  refine rq_v (v_lt rfl rfl) ?_
  refine rm_end ?_; simp only [endM, hypF, ofE, argE]
  refine q_thn ?_
  refine tr_if rfl (fun hif => ?_) (fun hif => ?_)
  · -- yes
    simp only [decide_eq_true_eq, decide_eq_false_iff_not] at hif
    refine tr_seq ?_
    refine tr_reg ?_
    refine rs_v (v_move rfl) rfl ?_
    refine rs_w (w_call (vs := [_]) ok_keyspan_DefragmentingIter_defragmentBackward rfl ⟨rfl, trivial⟩ (c_defragmentBackward hit hgood D hil hret1)) rfl ?_
    rintro r5 h5 ⟨b3, Fin3, F3, sp3, sv3, ev3, kv3, a3, ksv3, kbv3, nk3, xk3, nb3, xb3, hrun3, hend3, D, hret, rfl, hps3, KP3, hF3⟩
    obtain ⟨qv3, rfl, _⟩ := hret.form
    have hKz := KP.1
    have KP := KP.trans KP3 hFF
    have hFF : ∀ b, F3 b → F0 b ∨ h.size ≤ b := fun b hb => (hF3 b hb).elim (hFF b) (fun e9 => Or.inr (by omega))
    have Bc := D.bc
    refine rs_v (v_assign rfl) rfl ?_
    refine rs_nil ?_
    refine q_thn ?_
    refine tr_ret ?_
    refine q_thn_ret ?_
    refine q_ret (res_tmp rfl rfl) ?_
    have hi1 : ltI W key - 1 + 1 = ltI W key := by omega
    rw [hi1] at hrun3 hps3
    have hg : Grp W b3 (ltI W key) := ⟨hend3, hrun3, lt_end (by omega) (slt_iff.2 hif)⟩
    rw [lt_grp hO hg hrun3.1 (Nat.le_refl _)]
    exact di_post hlF hF0 hFc hcm Bq D hret (.inr (.inr (.inr ⟨b3, _, rfl, hg, .inr ⟨rfl, rfl⟩⟩))) KP hFF (ret_grp hg D.fc hps3)
  -- no
  simp only [decide_eq_true_eq, decide_eq_false_iff_not] at hif
  refine tr_skip ?_
  refine q_thn ?_
  refine tr_seq ?_
  refine tr_reg ?_
  refine rs_v (v_move rfl) rfl ?_
  refine rs_w (w_call (vs := [_]) ok_keyspan_DefragmentingIter_defragmentForward rfl ⟨rfl, trivial⟩ (c_defragmentForward hit hgood D hil hret1)) rfl ?_
  rintro r6 h6 ⟨b3, Fin3, F3, sp3, sv3, ev3, kv3, a3, ksv3, kbv3, nk3, xk3, nb3, xb3, hrun3, hend3, D, hret, rfl, hps3, KP3, hF3⟩
  obtain ⟨qv3, rfl, _⟩ := hret.form
  have hKz := KP.1
  have KP := KP.trans KP3 hFF
  have hFF : ∀ b, F3 b → F0 b ∨ h.size ≤ b := fun b hb => (hF3 b hb).elim (hFF b) (fun e9 => Or.inr (by omega))
  have Bc := D.bc
  refine rs_nil ?_
  refine q_thn ?_
  refine tr_seq ?_
  refine tr_cut (fun E h' => h6 = h' ∧ E = [(0, .pointer (some ⟨c, 0, none⟩)), (67, .bool false)]) ?_ ?_
  ·
    have hqq := ret_nxt hret
    rcases hqq with ⟨rfl, _⟩ | ⟨_, x4, o4, rfl, _, _⟩
    · skip
      refine tr_reg ?_
      refine rs_v (v_move rfl) rfl ?_
      refine rs_v (v_nilCheck_ptr rfl) rfl ?_
      refine rs_v (v_fieldAddr fa_keyspan_DefragmentingIter_4 rfl) rfl ?_
      refine rs_v (v_load one_p_keyspan_Span rfl (by exact Bc.cell _ rfl)) rfl ?_
      refine rs_v (v_peq u_p_keyspan_Span rfl rfl) rfl ?_
      refine rs_v (v_move rfl) rfl ?_
      refine rs_gv rfl (rfl) (v_move rfl) rfl ?_
      refine rs_gv rfl (rfl) (v_nilCheck_ptr rfl) rfl ?_
      refine rs_gv rfl (rfl) (v_fieldAddr fa_keyspan_DefragmentingIter_3 rfl) rfl ?_
      refine rs_gv rfl (rfl) (v_load one_keyspan_FragmentIterator rfl (by exact Bc.cell _ rfl)) rfl ?_
      refine rs_gw rfl (rfl) (w_mcall (vs := []) (hit.err D.it) rfl trivial) rfl ?_
      rintro _ h7 ⟨rfl, hsame⟩; have hsame := hsame.symm; subst hsame
      refine rs_gv rfl (rfl) (v_ine_nil isi_error rfl rfl) rfl ?_
      refine rs_v (v_pick_t rfl rfl) rfl ?_
      refine rs_nil ?_
      exact q_cut [(0, _), (67, _)] ⟨rfl, rfl, trivial⟩ ⟨rfl, rfl⟩
    · skip
      refine tr_reg ?_
      refine rs_v (v_move rfl) rfl ?_
      refine rs_v (v_nilCheck_ptr rfl) rfl ?_
      refine rs_v (v_fieldAddr fa_keyspan_DefragmentingIter_4 rfl) rfl ?_
      refine rs_v (v_load one_p_keyspan_Span rfl (by exact Bc.cell _ rfl)) rfl ?_
      refine rs_v (v_peq u_p_keyspan_Span rfl rfl) rfl ?_
      refine rs_v (v_move rfl) rfl ?_
      refine rs_gs rfl (rfl) rfl rfl ?_
      refine rs_gs rfl (rfl) rfl rfl ?_
      refine rs_gs rfl (rfl) rfl rfl ?_
      refine rs_gs rfl (rfl) rfl rfl ?_
      refine rs_gs rfl (rfl) rfl rfl ?_
      refine rs_gs rfl (rfl) rfl rfl ?_
      refine rs_v (v_pick_f rfl rfl) rfl ?_
      refine rs_nil ?_
      exact q_cut [(0, _), (67, _)] ⟨rfl, rfl, trivial⟩ ⟨rfl, rfl⟩
  rintro E h99 ⟨hh, rfl⟩
  subst hh
  refine tr_if_f rfl ?_
  refine tr_skip ?_
  refine q_thn ?_
  refine tr_seq ?_
  refine tr_seq ?_
  refine tr_reg ?_
  refine rs_v (v_move rfl) rfl ?_
  refine rs_v (v_nilCheck_ptr rfl) rfl ?_
  refine rs_v (v_fieldAddr fa_keyspan_DefragmentingIter_5 rfl) rfl ?_
  refine rs_v (v_load one_keyspan_iterPos rfl (by exact Bc.cell _ rfl)) rfl ?_
  refine rs_v (v_eq rfl rfl) rfl ?_
  refine rs_nil ?_
  refine q_thn ?_
  refine tr_if_t rfl ?_
  refine tr_reg ?_
  refine rs_v (v_move rfl) rfl ?_
  refine rs_v (v_move rfl) rfl ?_
  refine rs_v (v_nilCheck_ptr rfl) rfl ?_
  refine rs_v (v_fieldAddr fa_keyspan_DefragmentingIter_3 rfl) rfl ?_
  refine rs_v (v_load one_keyspan_FragmentIterator rfl (by exact Bc.cell _ rfl)) rfl ?_
  refine rs_w (w_mcall (vs := []) (hit.prev D.it (by unfold nxtP; split <;> rfl)) rfl trivial) rfl ?_
  rintro r9 h9 hp9
  rw [prev_nxt (b := b3) (by have := hrun3.1; omega) hrun3.2.1] at hp9
  have DFF := D.ff
  obtain ⟨Fin2, D, hF2, _, KF2, hret2⟩ := D.inner hit hp9
  obtain ⟨qv2, rfl, _⟩ := hret2.form
  have hKz := KP.1
  have hFF2 : ∀ b, _ → F0 b ∨ h.size ≤ b := fun b hb => Or.elim hb (hFF b) (fun e => (hF2 b e).elim (fun e9 => hFF b (DFF b e9)) (fun e9 => Or.inr (by omega)))
  have KP := KP.trans KF2 hFF
  have hFF := hFF2
  have Bc := D.bc
  refine rs_v (v_nilCheck_ptr rfl) rfl ?_
  refine rs_v (v_fieldAddr fa_keyspan_DefragmentingIter_4 rfl) rfl ?_
  refine rs_w0 (w_put siz_p_keyspan_Span rfl rfl rfl rfl Bc rfl) ?_
  rintro _ h10 ⟨B10, K10⟩
  have hret1 := Ret.stab hret2 (K10.stab (A := Fin2) fun b hb => ⟨D.lo b (D.ff b hb), fun hm => D.di.fc (by rw [List.mem_singleton] at hm; subst hm; exact hb)⟩)
  have D := D.putC hit (sp' := .pointer qv2) (z' := 1) K10 B10
  have KP := KP.trans (K10.kp hcF) (fun _ h => .inl h)
  have Bc := D.bc
  refine rs_nil ?_
  refine q_thn ?_
  refine tr_seq ?_
  refine tr_reg ?_
  refine rs_v (v_move rfl) rfl ?_
  refine rs_w (w_call (vs := [_]) ok_keyspan_DefragmentingIter_defragmentBackward rfl ⟨rfl, trivial⟩ (c_defragmentBackward hit hgood D (i := (b3 - 1)) (by have := hrun3.1; have := hrun3.2.1; omega) hret1)) rfl ?_
  rintro r11 h11 ⟨b9, Fin3, F3, sp3, sv3, ev3, kv3, a3, ksv3, kbv3, nk3, xk3, nb9, xb9, hrun9, hend9, D, hret, rfl, hps9, KP3, hF3⟩
  obtain ⟨qv3, rfl, _⟩ := hret.form
  have hKz := KP.1
  have KP := KP.trans KP3 hFF
  have hFF : ∀ b, F3 b → F0 b ∨ h.size ≤ b := fun b hb => (hF3 b hb).elim (hFF b) (fun e9 => Or.inr (by omega))
  have Bc := D.bc
  refine rs_v (v_assign rfl) rfl ?_
  refine rs_nil ?_
  refine q_thn ?_
  refine tr_ret ?_
  refine q_ret (res_tmp rfl rfl) ?_
  have hb31 : b3 - 1 + 1 = b3 := by have := hrun3.1; omega
  rw [hb31] at hrun9 hps9
  have hg : Grp W b9 b3 := ⟨hend9, hrun9, hend3⟩
  have hb9 := grp_in2 hrun3 hrun9.1 hend9
  rw [lt_grp hO hg (by omega) (by have := hrun3.1; omega)]
  exact di_post hlF hF0 hFc hcm Bq D hret (.inr (.inr (.inr ⟨b9, b3, rfl, hg, .inr ⟨rfl, rfl⟩⟩))) KP hFF (ret_grp hg D.fc hps9)
theorem di_ok {χ : Chi} {W : List SpanD} {I : ItI} {t : TypeId} {v0 : Value} (cmb c cb : Nat) (hit : IterOK Try.prog χ W t v0 I) (hgood : GoodD W) (hO : Tess.Ord W) :
    IterOK Try.prog χ (dfr W) 165 (.pointer (some ⟨c, 0, none⟩)) (DIt W I t v0 cmb c cb) where
  low := fun hI => by obtain ⟨q, Fin, F0, sp, z, sv, ev, kv, a, ksv, kbv, nk, xk, nb, xb, s0, D, hret, hrel, hcm, hF0, hFc, hlF, Bq⟩ := hI; exact hlF
  stab := fun {p F h h'} hI hs hz => by
    obtain ⟨q, Fin, F0, sp, z, sv, ev, kv, a, ksv, kbv, nk, xk, nb, xb, s0, D, hret, hrel, hcm, hF0, hFc, hlF, Bq⟩ := hI
    have sF : Stab Fin h h' := fun b hb => hs b (hF0 b (D.ff b hb))
    have own : ∀ {e : TypeId} {size : Nat} {v : Value} {n : Nat} {xs : List Value}, Own h 0 e size v n xs → (∀ x, x ∈ v.ownBlock.toList → F0 x) → Own h' 0 e size v n xs := fun ho hx => by
      refine ⟨ho.1, ?_⟩
      rcases ho.2 with hn | ⟨g, cap, cur, rfl, hb, hgg, rest⟩
      · exact .inl hn
      · exact .inr ⟨g, cap, cur, rfl, hb, (hs g (hF0 g (hx g (by simp [Value.ownBlock])))).trans hgg, rest⟩
    have hA : Aren h' a := by
      rcases D.ar with e | ⟨g, n, c', cs, e, q1, q2, q3, B⟩
      · exact .inl e
      · exact .inr ⟨g, n, c', cs, e, q1, q2, q3, (hs g (hF0 g (D.fa g (by rw [e]; simp [Value.ownBlock])))).trans B⟩
    exact ⟨q, Fin, F0, sp, z, sv, ev, kv, a, ksv, kbv, nk, xk, nb, xb, s0, ⟨hit.stab D.it sF hz, (hs c (hF0 c D.fc)).trans D.bc, (hs cb (hF0 cb D.fb)).trans D.bb, hA, own D.ok D.fk, own D.ob D.fo, D.di, D.ff, D.fc, D.fb, D.fa, D.fk, D.fo, D.lo.mono hz⟩, Ret.stab hret sF, hrel, hcm, hF0, hFc, hlF.mono hz, (hs cmb hFc).trans Bq⟩
  first := fun hI => ⟨_, _, ok_keyspan_DefragmentingIter_First, m_DiFirst _, c_DiFirst χ hit hgood hI⟩
  last := fun hI => ⟨_, _, ok_keyspan_DefragmentingIter_Last, m_DiLast _, c_DiLast χ hit hgood hI⟩
  next := fun hI hc => ⟨_, _, ok_keyspan_DefragmentingIter_Next, m_DiNext _, c_DiNext χ hit hgood hI hc⟩
  prev := fun hI hc => ⟨_, _, ok_keyspan_DefragmentingIter_Prev, m_DiPrev _, c_DiPrev χ hit hgood hI hc⟩
  ge := fun hI hk => ⟨_, _, ok_keyspan_DefragmentingIter_SeekGE, m_DiSeekGE _, c_DiSeekGE χ hit hgood hI hO hk⟩
  lt := fun hI hk => ⟨_, _, ok_keyspan_DefragmentingIter_SeekLT, m_DiSeekLT _, c_DiSeekLT χ hit hgood hI hO hk⟩
  err := fun hI => ⟨_, _, ok_keyspan_DefragmentingIter_Error, m_DiError _, c_DiError χ hit hI⟩
end Go.Proofs.Ytgebfbnndgjkiaa
namespace Go.Proofs.Ytgebfbnndgjkiaa
open Go.Tess Go.RowKit
set_option maxRecDepth 100000
set_option maxHeartbeats 1000000
theorem v_makeIfaceF {P : Program} {χ : Chi} {ρ : Operand → Option Value} {h : Heap} {dst : Option Tmp} {ty : TypeId} {pos : String} {after : Array Edge} {guard : Option (Nat × Bool)} {x : Operand} {t : TypeId} {v : Value} (ht : Tess.IsFunc P t) (hx : ρ x = some v) : OpV P χ ⟨dst, .makeInterface t x, ty, pos, after, guard⟩ ρ h (.iface t v) := by
  intro r d hr
  have e1 := hr x (by simp [Op.operands]) _ hx
  unfold Tess.IsFunc at ht
  cases hu : P.underlying t with
  | none => rw [hu] at ht; simp at ht
  | some d' =>
    rw [hu] at ht
    cases d' <;> first | (simp at ht; done) | skip
    simp [execOp, e1, Instr.makeInterface, run_underlying hu]
/-- A block of slices holds no part of a span. -/
theorem SlR.nea {α : Type} {h : Heap} {A A' : Nat → Prop} {sz : Nat} {R R' : Heap → Nat → Nat → α → Prop} {v : Value} {xs : List α} (hr : SlR h A sz R v xs) (hR : ∀ b o x, A b → R h b o x → A' b ∧ R' h b o x) : SlR h A' sz R' v xs := by
  obtain ⟨hl, a, c, e, hx⟩ := hr
  exact ⟨hl, a, c, e, fun i x hi => by obtain ⟨b, o, e1, e2, e3⟩ := hx i x hi; exact ⟨b, o, e1, (hR b _ x e2 e3).1, (hR b _ x e2 e3).2⟩⟩
theorem cell_blk {h : Heap} {b o : Nat} {cs : List Value} {T : TypeId} (B : Blk h b cs T) {v : Value} (hc : cellH h b o = some v) : v ∈ cs := by
  unfold cellH at hc; unfold Blk at B
  rw [B] at hc
  have : cs[o]? = some v := by simpa using hc
  exact List.mem_of_getElem? this
section
variable {A : Nat → Prop} {h : Heap} {v : Value} {cb : Nat} {cs : List Value} {T : TypeId}
theorem RBytes.nes {s : ByteArray} (B : Blk h cb cs T) (hs : ∀ x, x ∈ cs → ∃ a n c, x = Value.slice a n c) (hr : RBytes A h v s) : RBytes (fun b => A b ∧ b ≠ cb) h v s :=
  SlR.nea hr fun b o x hb hc => ⟨⟨⟨hb.1, fun e => by
    subst e
    obtain ⟨a, n, c, e⟩ := hs _ (cell_blk B hc)
    cases e⟩, hb.2⟩, hc⟩
theorem PKeys.nes {ks : List KeyD} (B : Blk h cb cs T) (hs : ∀ x, x ∈ cs → ∃ a n c, x = Value.slice a n c) (hr : PKeys A h v ks) : PKeys (fun b => A b ∧ b ≠ cb) h v ks :=
  SlR.nea hr fun b o x hb hc => by
    obtain ⟨sv, vv, h1, h2, h3⟩ := hc
    refine ⟨⟨hb, fun e => ?_⟩, sv, vv, h1, RBytes.nes B hs h2, RBytes.nes B hs h3⟩
    subst e
    obtain ⟨a, n, c, e⟩ := hs _ (cell_blk B (h1.at 0 rfl))
    cases e
theorem PSpans.nes {W : List SpanD} (B : Blk h cb cs T) (hs : ∀ x, x ∈ cs → ∃ a n c, x = Value.slice a n c) (hr : PSpans A h v W) : PSpans (fun b => A b ∧ b ≠ cb) h v W :=
  SlR.nea hr fun b o x hb hc => by
    obtain ⟨sv, ev, kv, kk, h1, h2, h3, h4⟩ := hc
    refine ⟨⟨hb, fun e => ?_⟩, sv, ev, kv, kk, h1, RBytes.nes B hs h2, RBytes.nes B hs h3, PKeys.nes B hs h4⟩
    subst e
    obtain ⟨a, n, c, e⟩ := hs _ (cell_blk B (h1.at 3 rfl))
    cases e
end
theorem dfr_mem {W : List SpanD} {x : SpanD} (h : x ∈ dfr W) : (∃ t, t ∈ W ∧ x.s = t.s) ∧ (∃ t, t ∈ W ∧ x.e = t.e) ∧ ∃ t, t ∈ W ∧ x.ks = t.ks := by
  cases W with
  | nil => simp [dfr] at h
  | cons s r => exact joinF_mem r s x h
abbrev bufZ : List Value := [.slice none 0 0, .slice none 0 0, .slice none 0 0]
theorem bufZ_sl : ∀ x, x ∈ bufZ → ∃ a n c, x = Value.slice a n c := by
  intro x hx
  simp only [List.mem_cons, List.not_mem_nil, or_false] at hx
  rcases hx with rfl | rfl | rfl <;> exact ⟨_, _, _, rfl⟩

theorem c_DiInit (χ : Chi) (h : Heap) (c cmb cb : Nat) (t : TypeId) (v0 : Value) (s : ByteArray) (y0 y1 y2 y3 y4 y5 y6 y7 y8 y9 y10 y11 : Value) (Bq : Blk h cmb (cmpL s) 119) (Bc : Blk h c [y0, y1, y2, y3, y4, y5, y6, y7, y8, y9, y10, y11] dfT) :
    Cl Try.prog χ 66 #[.pointer (some ⟨c, 0, none⟩), .pointer (some ⟨cmb, 0, none⟩), .iface t v0, mthV, redF, .pointer (some ⟨cb, 0, none⟩)] h (fun r h' => r = .tuple #[] ∧ Blk h' c (dL cb (.pointer (some ⟨cmb, 0, none⟩)) eqF (.iface t v0) (.pointer none) 0 (.slice none 0 0) (.slice none 0 0) (.slice none 0 0) mthV redF) dfT ∧ Keep [c] h h') := by
  unfold eqF mthV redF defF
  refine cl_intro Try.func66 rfl rfl rfl ?_
  have K : Keep [c] h h := Keep.refl _ _
  refine tr_reg ?_
  refine rs_v (v_move rfl) rfl ?_
  refine rs_v (v_move rfl) rfl ?_
  refine rs_v (v_move rfl) rfl ?_
  refine rs_v (v_move rfl) rfl ?_
  refine rs_v (v_nilCheck_ptr rfl) rfl ?_
  refine rs_v (v_fieldAddr fa_base_Comparer_1 rfl) rfl ?_
  refine rs_v (v_load one_base_Equal rfl (by exact Bq.cell _ rfl)) rfl ?_
  refine rs_v (v_move rfl) rfl ?_
  refine rs_v (v_move rfl) rfl ?_
  refine rs_v (v_move rfl) rfl ?_
  refine rs_v (v_buildN (us := [_, _, _, _, _, _]) ⟨rfl, rfl, rfl, rfl, rfl, rfl, trivial⟩ (bld_keyspan_DefragmentingIter_0_1_2_3_7_8 _ _ _ _ _ _ _ _ _ _ _ _)) rfl ?_
  refine rs_v (v_nilCheck_ptr rfl) rfl ?_
  refine rs_w0 (w_put siz_keyspan_DefragmentingIter rfl rfl rfl rfl Bc rfl) ?_
  rintro _ h1 ⟨B1, K1⟩
  have Bc := B1; have K := K.new1 K1 (by first | (right; omega) | (left; simp; done)); have Z1 := K1.1
  refine rs_nil ?_
  refine q_end (res_none rfl) ?_
  exact ⟨rfl, Bc, K⟩
theorem c_implSpanDefragmented (χ : Chi) (h : Heap) (A : Nat → Prop) (hA : Low A h) (v sv : Value) (W : List SpanD) (steps : List StepD) (hW : RSpans A h v W) (hn : W.length ≤ 100000) (hm : ∀ s, s ∈ W → SpanD.small s) (hO : Tess.Ord W) (hgood : GoodD W)
    (hS : RSteps A h sv steps) (hsn : steps.length ≤ 1000) (hz : ∀ s, s ∈ steps → s.key.size ≤ 9223372036854775807) :
    Cl Try.prog χ 33 #[v, sv] h (fun r h' => RAnss (Up N0 h h') h' r (walkP (dfr W) .nowhere steps) ∧ Keep [] h h') := by
  refine cl_intro Try.func33 rfl rfl rfl ?_
  have K : Keep [] h h := Keep.refl _ _
  refine tr_seq ?_
  refine tr_reg ?_
  refine rs_v (v_assign rfl) rfl ?_
  refine rs_nil ?_
  refine q_thn ?_
  refine tr_seq ?_
  refine tr_reg ?_
  refine rs_w (w_call (vs := []) ok_base_DefaultComparer rfl trivial (c_DefaultComparer2 χ _)) rfl ?_
  rintro _ h1 ⟨rfl, ⟨s9, Bq⟩, K1⟩
  have hBql := Bq.lt
  have K := K.new0 K1; have Z1 := K1.1
  refine rs_v (v_assign rfl) rfl ?_
  refine rs_nil ?_
  refine q_thn ?_
  refine tr_seq ?_
  refine tr_reg ?_
  refine rs_w (w_new zero_keyspan_DefragmentingIter) rfl ?_
  rintro _ h2 ⟨rfl, B2, K2, Z2⟩
  try have Bq := (K2).blk (by first | (simp; done) | (simp; omega)) Bq
  have S2 := K.1; have K := K.new0 K2
  refine rs_nil ?_
  refine q_thn ?_
  refine tr_seq ?_
  refine tr_draw [(true, 11), (false, 1)] _ (by kernel_rfl) (by kernel_rfl) (by kernel_rfl) ?_
  refine rx_any (Keep []) (keep_pre _) ?_
  refine rm_v (keep_pre _) (fun h' hk => v_move rfl) ?_
  refine rm_v (keep_pre _) (fun h' hk => v_move rfl) ?_
  refine rm_v (keep_pre _) (fun h' hk => v_nilCheck_ptr rfl) ?_
  refine rm_v (keep_pre _) (fun h' hk => v_fieldAddr fa_base_Comparer_0 rfl) ?_
  refine rm_v (keep_pre _) (fun h' hk => v_load one_base_Compare rfl (Blk.cell (hk.blk (by simp) Bq) _ rfl)) ?_
  refine rm_v (keep_pre _) (fun h' hk => v_move rfl) ?_
  refine rm_w (fun v h' => PSpans (Up N0 h2 h') h' v W) (fun v _ _ k1 k2 hr => (hr.stab (k2.st ((n0low _).up k1.1))).mono (Up.grow k2.1)) (fun h' hk => OpW.mono (w_call (vs := [_]) ok_impl_spans rfl ⟨rfl, trivial⟩ (c_spans χ h' A (hA.mono (K.new0 hk).1) _ W (hW.stab ((K.new0 hk).st hA)) hn hm)) (fun v h'' hv => ⟨hv.2, hv.1.mono (Up.trans2 hk.1 (Nat.le_refl _))⟩)) ?_
  refine rm_o 14 (fun v h' => ∃ b a c, v = .pointer (some ⟨b, 0, none⟩) ∧ h2.size ≤ b ∧ Blk h' b (itL (.slice a W.length c) (-1)) 187 ∧ PSpans (fun x => h2.size ≤ x ∧ x < b) h' (.slice a W.length c) W) rfl (by kernel_rfl) (fun v _ _ k1 k2 hr => by obtain ⟨b, a, c, e, hb, B, hp⟩ := hr; exact ⟨b, a, c, e, hb, k2.blk (by simp) B, hp.stab (k2.stab fun x hx => ⟨by have := B.lt; have := hx.2; omega, by simp⟩)⟩) (fun u h' hk hu => by
    obtain ⟨a, c, rfl⟩ := SlR.form2 hu
    exact OpW.mono (w_call (vs := [_, _]) ok_keyspan_NewIter rfl ⟨rfl, rfl, trivial⟩ (c_NewIter χ h' a W.length c)) (fun v h'' hv => by
      obtain ⟨e, B, Kn⟩ := hv
      exact ⟨Kn, _, a, c, e, hk.1, B, (PSpans.stab hu (Kn.st ((n0low _).up hk.1))).mono (fun x hx => hx.elim (fun e => e.elim) id)⟩)) ?_
  refine rm_o 15 (fun v h' => ∃ b a c, v = .iface 136 (.pointer (some ⟨b, 0, none⟩)) ∧ h2.size ≤ b ∧ Blk h' b (itL (.slice a W.length c) (-1)) 187 ∧ PSpans (fun x => h2.size ≤ x ∧ x < b) h' (.slice a W.length c) W) rfl (by kernel_rfl) (fun v _ _ k1 k2 hr => by obtain ⟨b, a, c, e, hb, B, hp⟩ := hr; exact ⟨b, a, c, e, hb, k2.blk (by simp) B, hp.stab (k2.stab fun x hx => ⟨by have := B.lt; have := hx.2; omega, by simp⟩)⟩) (fun u h' hk hu => by
    obtain ⟨b, a, c, rfl, hb, B, hp⟩ := hu
    exact (v_makeIface u_p_keyspan_Iter rfl).w.mono (fun _ _ e => by obtain ⟨e1, e2⟩ := e; subst e1; subst e2; exact ⟨Keep.refl _ _, b, a, c, rfl, hb, B, hp⟩)) ?_
  refine rm_v (keep_pre _) (fun h' hk => v_makeIfaceF isf_keyspan_DefragmentMethodFunc rfl) ?_
  refine rm_w (fun v h' => ∃ b, v = .pointer (some ⟨b, 0, none⟩) ∧ h2.size ≤ b ∧ Blk h' b bufZ bufT) (fun v _ _ k1 k2 hr => by obtain ⟨b, e, hb, B⟩ := hr; exact ⟨b, e, hb, k2.blk (by simp) B⟩) (fun h' hk => OpW.mono (w_new zero_keyspan_DefragmentingBuffers) (fun v h'' hv => by
    obtain ⟨e, B, Kn, _⟩ := hv
    exact ⟨Kn, _, e, hk.1, B⟩)) ?_
  refine rm_end ?_; intro ha Ka; simp only [endM, hypF, ofE, argE, List.nil_append]
  intro v18 h18 v16 h16 v15 _ v14 _
  obtain ⟨bi, wa, wc, rfl, hbi, Bi, hPW⟩ := h16
  obtain ⟨cb, rfl, hcb, Bb⟩ := h18
  have hPW := PSpans.nes Bb bufZ_sl hPW
  have hib : bi ≠ cb := fun e => by subst e; have := blk_inj Bi Bb; simp [itL] at this
  have B2 := Ka.blk (by simp) B2
  have Bq := Ka.blk (by simp) Bq
  have K := K.new0 Ka; have Za := Ka.1
  have hbl := Bi.lt; have hcl := Bb.lt
  refine rx_seq ?_
  refine rs_w (w_call (vs := [_, _, _, _, _, _]) ok_keyspan_DefragmentingIter_Init rfl ⟨rfl, rfl, rfl, rfl, rfl, rfl, trivial⟩ (c_DiInit χ _ _ _ _ _ _ _ _ _ _ _ _ _ _ _ _ _ _ _ Bq B2)) rfl ?_
  rintro _ h3 ⟨rfl, Bc, K3⟩
  have Z3 := K3.1
  have hne3 : ∀ x, h2.size ≤ x → x ∉ [h1.size] := fun x hx hm => by rw [List.mem_singleton] at hm; omega
  have Bi := K3.blk (hne3 _ hbi) Bi
  have Bb := K3.blk (hne3 _ hcb) Bb
  have Bq := K3.blk (by simp; omega) Bq
  have hPW := hPW.stab (K3.stab fun x hx => ⟨by have := hx.1.2; omega, hne3 _ hx.1.1⟩)
  have K := K.new1 K3 (.inr (by omega))
  refine rs_nil ?_
  refine q_con ?_
  refine rx_nil ?_
  refine q_thn ?_
  refine tr_seq ?_
  refine tr_reg ?_
  refine rs_v (v_makeIface u_p_keyspan_DefragmentingIter rfl) rfl ?_
  refine rs_v (v_move rfl) rfl ?_
  refine rs_w (w_call (vs := [_, _]) ok_impl_walkSpans rfl ⟨rfl, rfl, trivial⟩ (c_walkSpans χ h3 A (hA.mono K.1) (dfr W) _ _ _
    (di_ok h.size h1.size cb (itB_ok χ bi wa wc W 187 hn hO) hgood hO)
    (fun b => h.size ≤ b ∧ b < h3.size)
    ⟨.nowhere, (fun x => h2.size ≤ x ∧ x < h3.size ∧ x ≠ cb), (fun x => h1.size ≤ x ∧ x < h3.size), .pointer none, 0, _, _, _, .slice none 0 0, .slice none 0 0, .slice none 0 0, 0, [], 0, [], s9,
      ⟨⟨_, (fun x => (h2.size ≤ x ∧ x < bi) ∧ x ≠ cb), Bi, trivial, hPW, (fun x hx => ⟨⟨hx.1.1, by have := hx.1.2; omega, hx.2⟩, by have := hx.1.2; omega⟩), ⟨hbi, by omega, hib⟩, (fun x hx => hx.2.1)⟩,
       Bc, Bb, .inl rfl, Own.nil _ _ _ _, Own.nil _ _ _ _, ⟨by omega, (fun hx => by have := hx.1; omega), (fun hx => hx.2.2 rfl), (by simp [Value.ownBlock]), (by simp [Value.ownBlock]), (by simp [Value.ownBlock])⟩,
       (fun x hx => ⟨by have := hx.1; omega, hx.2.1⟩), ⟨by omega, by omega⟩, ⟨by omega, by omega⟩, (by simp [Value.ownBlock]), (by simp [Value.ownBlock]), (by simp [Value.ownBlock]), (fun x hx => hx.2)⟩,
      rfl, .inl rfl, (fun hx => by have := hx.1; omega), (fun x hx => ⟨by have := hx.1; omega, hx.2⟩), ⟨by omega, by omega⟩, (fun x hx => hx.2), Bq⟩
    (fun b hb hf => by have := hA b hb; have := hf.1; omega) sv steps (hS.stab (K.st hA)) hsn hz (fun s hs => by obtain ⟨_, _, t, ht, e⟩ := dfr_mem hs; rw [e]; exact (hm t ht).2.2.1))) rfl ?_
  rintro r9 h4 ⟨hans, KP⟩
  refine rs_v (v_assign rfl) rfl ?_
  refine rs_nil ?_
  refine q_thn ?_
  refine tr_ret ?_
  refine q_ret (res_tmp rfl rfl) ?_
  have h60 := K.1
  exact ⟨hans.mono (n0up h60 (Nat.le_refl _)), keep_of_p K KP (fun b hb => hb.1)⟩
end Go.Proofs.Ytgebfbnndgjkiaa
namespace Go.Proofs.Ytgebfbnndgjkiaa
open Go.Tess Go.RowKit
set_option maxRecDepth 100000
set_option maxHeartbeats 1000000
theorem descB_map {l m : List KeyD} (h : l.map (·.tr) = m.map (·.tr)) (hd : descB l = true) : descB m = true := by
  have h1 := (desc_pair l).1 hd
  have h2 : (l.map (·.tr)).Pairwise (fun a b => b ≤ a) := List.pairwise_map.2 h1
  rw [h] at h2
  exact (desc_pair m).2 (List.pairwise_map.1 h2)
theorem swapAt_tr {l : List KeyD} {j : Nat} (h : lessAt l (j + 1) = true) (hd : descB l = true) : (swapAt l j).map (·.tr) = l.map (·.tr) := by
  simp only [lessAt] at h
  cases ha : l[j + 1]? with
  | none => rw [ha] at h; cases h
  | some a =>
    cases hb : l[j]? with
    | none => rw [ha, hb] at h; cases h
    | some b =>
      rw [ha, hb] at h
      simp only at h
      have h1 : b.tr ≤ a.tr := by
        unfold keyLess at h
        split at h
        · omega
        · simp at h; omega
      have h2 : a.tr ≤ b.tr := by
        have hp := (desc_pair l).1 hd
        have := List.pairwise_iff_getElem.1 hp j (j + 1) (List.getElem?_eq_some_iff.1 hb).1 (List.getElem?_eq_some_iff.1 ha).1 (by omega)
        rw [(List.getElem?_eq_some_iff.1 hb).2, (List.getElem?_eq_some_iff.1 ha).2] at this
        exact this
      have e : a.tr = b.tr := by omega
      have es : swapAt l j = (l.set (j + 1) b).set j a := by simp [swapAt, ha, hb]
      rw [es, List.map_set, List.map_set]
      refine List.ext_getElem? fun i => ?_
      rw [List.getElem?_set, List.getElem?_set]
      simp only [List.length_set, List.length_map, List.getElem?_map]
      have hl1 := (List.getElem?_eq_some_iff.1 hb).1
      have hl2 := (List.getElem?_eq_some_iff.1 ha).1
      by_cases e1 : j = i
      · subst e1; simp [hl1, hb, e]; rw [(List.getElem?_eq_some_iff.1 hb).2]
      · by_cases e2 : j + 1 = i
        · subst e2; simp [ha, hl2, e]; rw [(List.getElem?_eq_some_iff.1 ha).2, e]
        · simp [e1, e2]
theorem insW_tr : ∀ (j : Nat) (l : List KeyD), descB l = true → (insW l j).map (·.tr) = l.map (·.tr)
  | 0, l, _ => rfl
  | j + 1, l, hd => by
    simp only [insW]
    split
    · rename_i h
      have e := swapAt_tr h hd
      rw [insW_tr j _ (descB_map e.symm hd), e]
    · rfl
theorem descB_take {l : List KeyD} (h : descB l = true) (k : Nat) : descB (l.take k) = true :=
  (desc_pair _).2 (((desc_pair _).1 h).sublist (List.take_sublist k l))
theorem canonF_tr {ks : List KeyD} (hd : descB ks = true) : ∀ k, k ≤ ks.length → (canonF (ks.take k)).map (·.tr) = (ks.take k).map (·.tr)
  | 0, _ => rfl
  | k + 1, hk => by
    obtain ⟨x, hx⟩ := ex_get (L := ks) (k := k) (by omega)
    rw [take_snoc' hx, canonF_snoc]
    have e : (canonF (ks.take k) ++ [x]).map (·.tr) = (ks.take k ++ [x]).map (·.tr) := by rw [List.map_append, List.map_append, canonF_tr hd k (by omega)]
    rw [insW_tr _ _ (descB_map e.symm (by rw [← take_snoc' hx]; exact descB_take hd _)), e]
theorem canonF_desc {ks : List KeyD} (hd : descB ks = true) : descB (canonF ks) = true := by
  have := canonF_tr hd ks.length (Nat.le_refl _)
  rw [List.take_length] at this
  exact descB_map this.symm hd
theorem swapAt_mem {l : List KeyD} {j : Nat} {x : KeyD} (h : x ∈ swapAt l j) : x ∈ l := by
  unfold swapAt at h
  split at h
  · rename_i a b ha hb
    rcases List.mem_or_eq_of_mem_set h with h | rfl
    · rcases List.mem_or_eq_of_mem_set h with h | rfl
      · exact h
      · exact List.mem_of_getElem? hb
    · exact List.mem_of_getElem? ha
  · exact h
theorem insW_mem : ∀ (j : Nat) (l : List KeyD) (x : KeyD), x ∈ insW l j → x ∈ l
  | 0, l, x, h => h
  | j + 1, l, x, h => by
    simp only [insW] at h
    split at h
    · exact swapAt_mem (insW_mem j _ x h)
    · exact h
theorem canonF_mem {ks : List KeyD} {x : KeyD} : ∀ k, k ≤ ks.length → x ∈ canonF (ks.take k) → x ∈ ks
  | 0, _, h => by simp [canonF] at h
  | k + 1, hk, h => by
    obtain ⟨y, hy⟩ := ex_get (L := ks) (k := k) (by omega)
    rw [take_snoc' hy, canonF_snoc] at h
    rcases List.mem_append.1 (insW_mem _ _ x h) with h | h
    · exact canonF_mem k (by omega) h
    · simp at h; subst h; exact List.mem_of_getElem? hy
theorem canonF_sub {ks : List KeyD} {x : KeyD} (h : x ∈ canonF ks) : x ∈ ks := by
  have := canonF_mem (ks := ks) (x := x) ks.length (Nat.le_refl _)
  rw [List.take_length] at this
  exact this h
theorem canon_small {s : SpanD} (h : SpanD.small s) : SpanD.small (canonS s) :=
  ⟨h.1, h.2.1, by show (canonF s.ks).length ≤ _; rw [canonF_len]; exact h.2.2.1, fun k hk => h.2.2.2 k (canonF_sub hk)⟩
theorem canon_sm {s : SpanD} (h : SmS s) : SmS (canonS s) :=
  ⟨h.1, h.2.1, by show (canonF s.ks).length ≤ _; rw [canonF_len]; exact h.2.2.1, fun k hk => h.2.2.2 k (canonF_sub hk)⟩
theorem canon_good {W : List SpanD} (h : Good W) : Good (W.map canonS) where
  len := by rw [List.length_map]; exact h.len
  full := fun s hs => by
    obtain ⟨t, ht, rfl⟩ := List.mem_map.1 hs
    obtain ⟨h1, h2, h3, h4⟩ := h.full t ht
    refine ⟨h1, fun e => ?_, canonF_desc h3, by show (canonF t.ks).length ≤ _; rw [canonF_len]; exact h4⟩
    have : (canonF t.ks).length = 0 := by rw [show canonF t.ks = [] from e]; rfl
    rw [canonF_len] at this
    exact h2 (List.eq_nil_of_length_eq_zero this)
  small := fun s hs => by
    obtain ⟨t, ht, rfl⟩ := List.mem_map.1 hs
    exact canon_small (h.small t ht)
  ord := ⟨fun s hs => by
    obtain ⟨t, ht, rfl⟩ := List.mem_map.1 hs
    exact h.ord.1 t ht, fun i a b ha hb => by
    rw [List.getElem?_map] at ha hb
    cases hx : W[i]? with
    | none => rw [hx] at ha; cases ha
    | some x =>
      cases hy : W[i + 1]? with
      | none => rw [hy] at hb; cases hb
      | some y =>
        rw [hx] at ha; rw [hy] at hb
        cases ha; cases hb
        exact h.ord.2 i x y hx hy⟩
theorem sms_of {W : List SpanD} (hG : Good W) (h4 : fit4 W = true) : ∀ s, s ∈ W → SmS s := fun s hs => by
  simp only [fit4, Bool.and_eq_true, List.all_eq_true, decide_eq_true_eq] at h4
  have h5 := h4.2 s hs
  simp only [fit5, fit6, Bool.and_eq_true, List.all_eq_true, decide_eq_true_eq, MX] at h5
  refine ⟨h5.1.1, h5.1.2, by have := (hG.full s hs).2.2.2; omega, fun k hk => ?_⟩
  have h7 := h5.2.2 k hk
  simp only [fit7, Bool.and_eq_true, decide_eq_true_eq, MX] at h7
  exact h7
theorem canon_goodD {W : List SpanD} (hG : Good W) (h4 : fit4 W = true) : GoodD (W.map canonS) := fun s hs =>
  ⟨((canon_good hG).full s hs).2.1, by
    obtain ⟨t, ht, rfl⟩ := List.mem_map.1 hs
    exact canon_sm (sms_of hG h4 t ht)⟩
theorem dfr_desc {W : List SpanD} (h : ∀ s, s ∈ W → descB s.ks = true ∧ few s) : ∀ s, s ∈ dfr W → descB s.ks = true ∧ few s := fun s hs => by
  obtain ⟨_, _, t, ht, e⟩ := dfr_mem hs
  have := h t ht
  exact ⟨by rw [e]; exact this.1, by unfold few; rw [e]; exact this.2⟩
theorem good_df {W : List SpanD} (h : Good W) : ∀ s, s ∈ W → descB s.ks = true ∧ few s := fun s hs => ⟨(h.full s hs).2.2.1, h.few s hs⟩
end Go.Proofs.Ytgebfbnndgjkiaa
namespace Go.Proofs.Ytgebfbnndgjkiaa
open Go.Tess Go.RowKit
set_option maxRecDepth 100000
set_option maxHeartbeats 1000000
/-- A list of strings. -/
def RStr (h : Heap) (b o : Nat) (s : ByteArray) : Prop := cellH h b o = some (.string s)
def RStrs (A : Nat → Prop) (h : Heap) (v : Value) (l : List ByteArray) : Prop := SlR h A 1 RStr v l
theorem RStrs.stab {A : Nat → Prop} {h h' : Heap} {v : Value} {l : List ByteArray} (hr : RStrs A h v l) (k : Stab A h h') : RStrs A h' v l := SlR.stab hr fun b _ _ hb hc => by unfold RStr cellH at *; rw [k b hb]; exact hc
theorem RStrs.mono {A A' : Nat → Prop} {h : Heap} {v : Value} {l : List ByteArray} (hr : RStrs A h v l) (hA : ∀ b, A b → A' b) : RStrs A' h v l := SlR.mono hr hA fun _ _ _ _ hc => hc
theorem RStrs.kk {h h' : Heap} {v : Value} {l : List ByteArray} (hr : RStrs (All h) h v l) (K : Keep [] h h') : RStrs (All h') h' v l := (RStrs.stab hr (all_st K)).mono (all_up K)
def fit11 (l : List ByteArray) : Bool := decide (l.length ≤ MX) && l.all (fun s => decide (s.size ≤ MX))
/-- The first cut behind a place, ahead of an end. -/
def atF (a e : ByteArray) (keys : List ByteArray) : ByteArray := keys.foldl (fun t k => if slt a k && slt k t then k else t) e
theorem atF_cases (a : ByteArray) : ∀ (keys : List ByteArray) (e : ByteArray), atF a e keys = e ∨ (atF a e keys ∈ keys ∧ slt a (atF a e keys) = true ∧ slt (atF a e keys) e = true)
  | [], e => .inl rfl
  | k :: r, e => by
    unfold atF
    rw [List.foldl_cons]
    have ih := atF_cases a r (if slt a k && slt k e then k else e)
    unfold atF at ih
    cases hc : (slt a k && slt k e) with
    | true =>
      rw [hc] at ih
      simp only [if_true] at ih ⊢
      simp only [Bool.and_eq_true] at hc
      rcases ih with ih | ⟨h1, h2, h3⟩
      · rw [ih]; exact .inr ⟨by simp, hc.1, hc.2⟩
      · exact .inr ⟨List.mem_cons_of_mem _ h1, h2, slt_of_slt_sle h3 (slt_sle hc.2)⟩
    | false =>
      rw [hc] at ih
      simp only [Bool.false_eq_true, if_false] at ih ⊢
      rcases ih with ih | ⟨h1, h2, h3⟩
      · exact .inl ih
      · exact .inr ⟨List.mem_cons_of_mem _ h1, h2, h3⟩
theorem atF_snoc (a e : ByteArray) (l : List ByteArray) (k : ByteArray) : atF a e (l ++ [k]) = if slt a k && slt k (atF a e l) then k else atF a e l := by simp [atF, List.foldl_append]
def cntG (a : ByteArray) (keys : List ByteArray) : Nat := keys.countP (fun k => slt a k)
theorem slt_irr (a : ByteArray) : slt a a = false := by
  cases h : slt a a with
  | false => rfl
  | true => have := slt_iff.1 h; have h2 := sle_iff.1 (sle_refl a); have h3 := not_slt.2 (sle_refl a); rw [h] at h3; cases h3
theorem cntG_lt {a b : ByteArray} {keys : List ByteArray} (h : slt a b = true) (hm : b ∈ keys) : cntG b keys < cntG a keys := by
  have hle : ∀ (l : List ByteArray), cntG b l ≤ cntG a l := fun l => List.countP_mono_left fun k _ hk => slt_of_slt_sle h (slt_sle hk)
  obtain ⟨l1, l2, rfl⟩ := List.append_of_mem hm
  have e1 := hle l1; have e2 := hle l2
  have hb := slt_irr b
  simp only [cntG, List.countP_append, List.countP_cons, h, hb] at *
  simp only [if_true, Bool.false_eq_true, if_false]
  omega
def splitN (keys : List ByteArray) : Nat → SpanD → List SpanD
  | 0, s => [s]
  | n + 1, s => if seq' (atF s.s s.e keys) s.e then [s] else ⟨s.s, atF s.s s.e keys, s.ks⟩ :: splitN keys n ⟨atF s.s s.e keys, s.e, s.ks⟩
def splitL (keys : List ByteArray) (W : List SpanD) : List SpanD := W.flatMap (splitN keys keys.length)
theorem splitN_end {keys : List ByteArray} {s : SpanD} (h : seq' (atF s.s s.e keys) s.e = true) (n : Nat) : splitN keys n s = [s] := by
  cases n with
  | zero => rfl
  | succ n => simp [splitN, h]
theorem splitN_len (keys : List ByteArray) : ∀ (n : Nat) (s : SpanD), (splitN keys n s).length ≤ n + 1
  | 0, s => by simp [splitN]
  | n + 1, s => by
    simp only [splitN]; split
    · simp
    · simp only [List.length_cons]; have := splitN_len keys n ⟨atF s.s s.e keys, s.e, s.ks⟩; omega
theorem splitL_len (keys : List ByteArray) (W : List SpanD) : (splitL keys W).length ≤ W.length * (keys.length + 1) := by
  induction W with
  | nil => simp [splitL]
  | cons s r ih =>
    unfold splitL at *
    rw [List.flatMap_cons, List.length_append, List.length_cons, Nat.add_mul, Nat.one_mul]
    have := splitN_len keys keys.length s
    omega
theorem splitL_snoc (keys : List ByteArray) (W : List SpanD) (s : SpanD) : splitL keys (W ++ [s]) = splitL keys W ++ splitN keys keys.length s := by simp [splitL]
theorem at_ne {a e : ByteArray} {keys : List ByteArray} (h : seq' (atF a e keys) e = false) : atF a e keys ∈ keys ∧ slt a (atF a e keys) = true ∧ slt (atF a e keys) e = true := by
  rcases atF_cases a keys e with h1 | h1
  · rw [h1] at h; have := seq_iff.2 (rfl : e = e); rw [this] at h; cases h
  · exact h1
theorem splitN_mem (keys : List ByteArray) : ∀ (n : Nat) (s t : SpanD), t ∈ splitN keys n s → t.ks = s.ks ∧ (t.s = s.s ∨ t.s ∈ keys) ∧ (t.e = s.e ∨ t.e ∈ keys) ∧ (slt s.s s.e = true → slt t.s t.e = true)
  | 0, s, t, h => by simp only [splitN, List.mem_singleton] at h; subst h; exact ⟨rfl, .inl rfl, .inl rfl, id⟩
  | n + 1, s, t, h => by
    simp only [splitN] at h
    split at h
    · simp only [List.mem_singleton] at h; subst h; exact ⟨rfl, .inl rfl, .inl rfl, id⟩
    · rename_i hc
      obtain ⟨h1, h2, h3⟩ := at_ne (Bool.eq_false_iff.2 hc)
      rcases List.mem_cons.1 h with h | h
      · subst h; exact ⟨rfl, .inl rfl, .inr h1, fun _ => h2⟩
      · obtain ⟨k1, k2, k3, k4⟩ := splitN_mem keys n _ t h
        refine ⟨k1, ?_, k3, fun _ => k4 h3⟩
        rcases k2 with k2 | k2
        · rw [k2]; exact .inr h1
        · exact .inr k2
/-- Spans one behind the other, from a place on. -/
def OrdF : ByteArray → List SpanD → Prop
  | _, [] => True
  | lo, s :: r => sle lo s.s = true ∧ slt s.s s.e = true ∧ OrdF s.e r
theorem ord_ordF : ∀ (r : List SpanD) (s : SpanD), Tess.Ord (s :: r) ↔ slt s.s s.e = true ∧ OrdF s.e r
  | [], s => ⟨fun h => ⟨h.1 s (by simp), trivial⟩, fun h => ⟨by intro x hx; simp at hx; subst hx; exact h.1, by intro i a b _ hb; simp at hb⟩⟩
  | t :: r, s => by
    constructor
    · intro h
      refine ⟨h.1 s (by simp), h.2 0 s t rfl rfl, ?_⟩
      exact (ord_ordF r t).1 ⟨fun x hx => h.1 x (by simp [hx]), fun i a b ha hb => h.2 (i + 1) a b (by simpa using ha) (by simpa using hb)⟩
    · rintro ⟨h1, h2, h3⟩
      have ht := (ord_ordF r t).2 h3
      refine ⟨fun x hx => ?_, fun i a b ha hb => ?_⟩
      · rcases List.mem_cons.1 hx with e | e
        · rw [e]; exact h1
        · exact ht.1 x e
      · cases i with
        | zero => simp at ha hb; subst ha; subst hb; exact h2
        | succ i => exact ht.2 i a b (by simpa using ha) (by simpa using hb)
theorem OrdF.lo {a b : ByteArray} {L : List SpanD} (h : OrdF b L) (hab : sle a b = true) : OrdF a L := by
  cases L with
  | nil => trivial
  | cons s r => exact ⟨sle_trans hab h.1, h.2⟩
theorem ordF_split (keys : List ByteArray) (R : List SpanD) : ∀ (n : Nat) (s : SpanD) (lo : ByteArray), sle lo s.s = true → slt s.s s.e = true → OrdF s.e R → OrdF lo (splitN keys n s ++ R)
  | 0, s, lo, h1, h2, h3 => ⟨h1, h2, h3⟩
  | n + 1, s, lo, h1, h2, h3 => by
    simp only [splitN]; split
    · exact ⟨h1, h2, h3⟩
    · rename_i hc
      obtain ⟨k1, k2, k3⟩ := at_ne (Bool.eq_false_iff.2 hc)
      exact ⟨h1, k2, ordF_split keys R n _ _ (sle_refl _) k3 h3⟩
theorem ordF_splitL (keys : List ByteArray) : ∀ (W : List SpanD) (lo : ByteArray), OrdF lo W → OrdF lo (splitL keys W)
  | [], _, _ => trivial
  | s :: r, lo, h => by
    unfold splitL
    rw [List.flatMap_cons]
    exact ordF_split keys _ _ s lo h.1 h.2.1 (ordF_splitL keys r s.e h.2.2)
theorem ord_of_ordF {lo : ByteArray} {L : List SpanD} (h : OrdF lo L) : Tess.Ord L := by
  cases L with
  | nil => exact ⟨by simp, by intro i a b ha _; simp at ha⟩
  | cons s r => exact (ord_ordF r s).2 h.2
theorem ordF_of_ord {W : List SpanD} (h : Tess.Ord W) : ∃ lo, OrdF lo W := by
  cases W with
  | nil => exact ⟨ByteArray.empty, trivial⟩
  | cons s r => exact ⟨s.s, sle_refl _, (ord_ordF r s).1 h⟩
theorem ord_splitL (keys : List ByteArray) {W : List SpanD} (h : Tess.Ord W) : Tess.Ord (splitL keys W) := by
  obtain ⟨lo, h⟩ := ordF_of_ord h
  exact ord_of_ordF (ordF_splitL keys W lo h)
theorem jn_of {a b : SpanD} (h1 : a.e = b.s) (h2 : a.ks = b.ks) : jn a b = true := jn_iff.2 ⟨h1, h2⟩
theorem joinF_splitA (keys : List ByteArray) (R : List SpanD) : ∀ (n : Nat) (s c : SpanD), c.e = s.s → c.ks = s.ks → joinF c (splitN keys n s ++ R) = joinF ⟨c.s, s.e, c.ks⟩ R
  | 0, s, c, h1, h2 => by simp only [splitN, List.cons_append, List.nil_append, joinF, jn_of h1 h2, if_true]
  | n + 1, s, c, h1, h2 => by
    simp only [splitN]; split
    · simp only [List.cons_append, List.nil_append, joinF, jn_of h1 h2, if_true]
    · have hj : jn c ⟨s.s, atF s.s s.e keys, s.ks⟩ = true := jn_of h1 h2
      simp only [List.cons_append, joinF, hj, if_true]
      exact joinF_splitA keys R n ⟨atF s.s s.e keys, s.e, s.ks⟩ ⟨c.s, atF s.s s.e keys, c.ks⟩ rfl h2
theorem joinF_splitB (keys : List ByteArray) (R : List SpanD) (n : Nat) (s c : SpanD) (h : jn c s = false) : joinF c (splitN keys n s ++ R) = c :: joinF s R := by
  cases n with
  | zero => simp only [splitN, List.cons_append, List.nil_append, joinF, h]; rfl
  | succ n =>
    simp only [splitN]; split
    · simp only [List.cons_append, List.nil_append, joinF, h]; rfl
    · have hj : jn c ⟨s.s, atF s.s s.e keys, s.ks⟩ = false := h
      simp only [List.cons_append, joinF, hj]
      rw [if_neg (by decide), joinF_splitA keys R n ⟨atF s.s s.e keys, s.e, s.ks⟩ ⟨s.s, atF s.s s.e keys, s.ks⟩ rfl rfl]
theorem joinF_splitL (keys : List ByteArray) : ∀ (W : List SpanD) (c : SpanD), joinF c (splitL keys W) = joinF c W
  | [], _ => rfl
  | s :: r, c => by
    unfold splitL
    rw [List.flatMap_cons]
    cases h : jn c s with
    | true =>
      rw [joinF_splitA keys _ _ s c (jn_iff.1 h).1 (jn_iff.1 h).2]
      simp only [joinF, h, if_true]
      exact joinF_splitL keys r _
    | false =>
      rw [joinF_splitB keys _ _ s c h]
      simp only [joinF, h]
      rw [if_neg (by decide)]
      exact congrArg (c :: ·) (joinF_splitL keys r s)
/-- Cut spans that are joined again. -/
theorem dfr_splitL (keys : List ByteArray) (W : List SpanD) : dfr (splitL keys W) = dfr W := by
  cases W with
  | nil => rfl
  | cons s r =>
    unfold splitL
    rw [List.flatMap_cons]
    have key : ∀ (n : Nat), dfr (splitN keys n s ++ r.flatMap (splitN keys keys.length)) = joinF s (r.flatMap (splitN keys keys.length)) := by
      intro n
      cases n with
      | zero => rfl
      | succ n =>
        simp only [splitN]; split
        · rfl
        · simp only [List.cons_append, dfr]
          exact joinF_splitA keys _ n ⟨atF s.s s.e keys, s.e, s.ks⟩ ⟨s.s, atF s.s s.e keys, s.ks⟩ rfl rfl
    rw [key]
    exact joinF_splitL keys r s

theorem c_zzFits11 (χ : Chi) (h : Heap) (A : Nat → Prop) (v : Value) (L : List ByteArray) (hL : RStrs A h v L) :
    Cl Try.prog χ 34 #[v] h (fun r h' => r = .bool (fit11 L) ∧ Keep [] h h') := by
  obtain ⟨hlen, a, c, rfl, hx⟩ := SlR.form hL
  refine cl_intro Try.func34 rfl rfl rfl ?_
  have K : Keep [] h h := Keep.refl _ _
  refine tr_seq ?_
  refine tr_reg ?_
  refine rs_v (v_assign rfl) rfl ?_
  refine rs_nil ?_
  refine q_thn ?_
  refine tr_seq ?_
  refine tr_seq ?_
  refine tr_reg ?_
  refine rs_v (v_move rfl) rfl ?_
  refine rs_v (v_len u_sl_string rfl) rfl ?_
  refine rs_v (v_gt rfl rfl) rfl ?_
  refine rs_nil ?_
  refine q_thn ?_
  refine tr_if rfl (fun hif => ?_) (fun hif => ?_)
  · -- yes
    simp only [decide_eq_true_eq, decide_eq_false_iff_not] at hif
    refine tr_seq ?_
    refine tr_reg ?_
    refine rs_v (v_assign rfl) rfl ?_
    refine rs_nil ?_
    refine q_thn ?_
    refine tr_ret ?_
    refine q_thn_ret ?_
    refine q_ret (res_tmp rfl rfl) ?_
    refine ⟨?_, K⟩
    simp only [fit11, ofNat_gt hif, Bool.false_and]
  -- no
  simp only [decide_eq_true_eq, decide_eq_false_iff_not] at hif
  have hmx := ofNat_le hif
  clear hif
  refine tr_skip ?_
  refine q_thn ?_
  refine tr_seq ?_
  refine tr_seq ?_
  refine tr_reg ?_
  refine rs_v (v_move rfl) rfl ?_
  refine rs_v (v_len u_sl_string rfl) rfl ?_
  refine rs_v (v_move rfl) rfl ?_
  refine rs_nil ?_
  refine q_thn ?_
  refine tr_block ?_
  refine tr_loop (fun m E h' => ∃ k, k ≤ L.length ∧ m = L.length - k ∧ E = [(0, .slice a L.length c), (8, .slice a L.length c), (9, .int .i64 (L.length : Int)), (10, .int .i64 (k : Int))] ∧ Keep [] h h' ∧ (L.take k).all (fun s => decide (s.size ≤ MX)) = true) L.length [(0, _), (8, _), (9, _), (10, _)] ⟨rfl, rfl, rfl, rfl, trivial⟩ ⟨0, Nat.zero_le _, rfl, rfl, K, rfl⟩ ?_
  rintro m E hL1 ⟨k, hk, rfl, rfl, K, hall⟩
  refine tr_seq ?_
  refine tr_reg ?_
  refine rs_v (v_lt rfl rfl) rfl ?_
  refine rs_nil ?_
  refine q_thn ?_
  refine tr_seq ?_
  refine tr_ifn rfl (fun hif => ?_) (fun hif => ?_)
  · -- no
    simp only [decide_eq_true_eq, decide_eq_false_iff_not] at hif
    have hkk : k = L.length := by omega
    subst hkk
    refine tr_exit ?_
    refine q_thn_exit ?_
    refine q_lp_exit ?_
    refine q_blk_hit ?_
    refine q_thn ?_
    refine tr_seq ?_
    refine tr_reg ?_
    refine rs_v (v_assign rfl) rfl ?_
    refine rs_nil ?_
    refine q_thn ?_
    refine tr_ret ?_
    refine q_ret (res_tmp rfl rfl) ?_
    refine ⟨?_, K⟩
    rw [List.take_length] at hall
    simp only [fit11, hall, hmx, Bool.true_and]
  -- yes
  simp only [decide_eq_true_eq, decide_eq_false_iff_not] at hif
  rcases hx with rfl | ⟨b, o, rfl, hAb, hR⟩
  · simp at hif; omega
  obtain ⟨x, hxk⟩ := ex_get (L := L) (k := k) (by omega)
  have hcells := K.cells (by simp) (CellsAt.one (hR k x hxk))
  refine tr_skip ?_
  refine q_thn ?_
  refine tr_seq ?_
  refine tr_block ?_
  refine tr_seq ?_
  refine tr_reg ?_
  refine rs_v (v_indexAddrN u_sl_string siz_string rfl rfl (by omega)) rfl ?_
  refine rs_v (v_load one_string rfl (by exact hcells.at 0 rfl)) rfl ?_
  refine rs_v (v_assign rfl) rfl ?_
  refine rs_nil ?_
  refine q_thn ?_
  refine tr_seq ?_
  refine tr_reg ?_
  refine rs_v (v_move rfl) rfl ?_
  refine rs_v (v_lenStr u_string rfl) rfl ?_
  refine rs_v (v_gt rfl rfl) rfl ?_
  refine rs_nil ?_
  refine q_thn ?_
  refine tr_if rfl (fun hif => ?_) (fun hif => ?_)
  · -- yes
    simp only [decide_eq_true_eq, decide_eq_false_iff_not] at hif
    refine tr_seq ?_
    refine tr_reg ?_
    refine rs_v (v_assign rfl) rfl ?_
    refine rs_nil ?_
    refine q_thn ?_
    refine tr_ret ?_
    refine q_blk_ret ?_
    refine q_thn_ret ?_
    refine q_lp_ret ?_
    refine q_blk_ret ?_
    refine q_thn_ret ?_
    refine q_ret (res_tmp rfl rfl) ?_
    refine ⟨?_, K⟩
    simp only [fit11, all_hit (p := fun s : ByteArray => decide (s.size ≤ MX)) hxk (ofNat_gt hif), Bool.and_false]
  -- no
  simp only [decide_eq_true_eq, decide_eq_false_iff_not] at hif
  refine tr_skip ?_
  refine q_blk_n ?_
  refine q_thn ?_
  refine tr_reg ?_
  refine rs_v (v_add rfl rfl (by omega) (by omega)) rfl ?_
  refine rs_v (v_move rfl) rfl ?_
  refine rs_nil ?_
  refine q_lp (L.length - (k + 1)) [(0, _), (8, _), (9, _), (10, _)] (by omega) ⟨rfl, rfl, rfl, rfl, trivial⟩ ⟨k + 1, by omega, rfl, rfl, K, ?_⟩
  rw [take_all hxk, hall, ofNat_le hif]
  rfl
theorem c_spanSplit (χ : Chi) (h : Heap) (A : Nat → Prop) (hA : Low A h) (v u : Value) (W : List SpanD) (keys : List ByteArray) (hW : RSpans A h v W) (hks : RStrs A h u keys) (hn0 : W.length ≤ 1000) (hk0 : keys.length ≤ 1000) :
    Cl Try.prog χ 35 #[v, u] h (fun r h' => RSpans (Up A h h') h' r (splitL keys W) ∧ Keep [] h h') := by
  obtain ⟨hlen, a, c, rfl, hx⟩ := hW.form
  obtain ⟨hleny, ay, cy, rfl, hy⟩ := SlR.form hks
  refine cl_intro Try.func35 rfl rfl rfl ?_
  have K : Keep [] h h := Keep.refl _ _
  refine tr_seq ?_
  refine tr_reg ?_
  refine rs_v (v_assign rfl) rfl ?_
  refine rs_nil ?_
  refine q_thn ?_
  refine tr_seq ?_
  refine tr_reg ?_
  refine rs_v (v_assign rfl) rfl ?_
  refine rs_nil ?_
  refine q_thn ?_
  refine tr_seq ?_
  refine tr_seq ?_
  refine tr_reg ?_
  refine rs_v (v_move rfl) rfl ?_
  refine rs_v (v_len u_sl_spec_Span rfl) rfl ?_
  refine rs_v (v_move rfl) rfl ?_
  refine rs_nil ?_
  refine q_thn ?_
  refine tr_block ?_
  refine tr_loop (fun m E h' => ∃ k v n xs, k ≤ W.length ∧ m = W.length - k ∧ E = [(1, .slice ay keys.length cy), (5, v), (11, .slice a W.length c), (12, .int .i64 (W.length : Int)), (13, .int .i64 (k : Int))] ∧ Keep [] h h' ∧ n = (splitL keys (W.take k)).length ∧ Own h' h.size 55 3 v n xs ∧ RowsR 3 (cSpan A h) xs (splitL keys (W.take k))) W.length [(1, _), (5, _), (11, _), (12, _), (13, _)] ⟨rfl, rfl, rfl, rfl, rfl, trivial⟩ ⟨0, _, 0, [], Nat.zero_le _, rfl, rfl, K, rfl, Own.nil _ _ _ _, RowsR.nil _ _⟩ ?_
  rintro m E hL1 ⟨k, v, n, xs, hk, rfl, rfl, K, hn, O, hrow⟩
  have O0 := O
  have hob := own_ne O; have KL := Keep.refl [] hL1
  refine tr_seq ?_
  refine tr_reg ?_
  refine rs_v (v_lt rfl rfl) rfl ?_
  refine rs_nil ?_
  refine q_thn ?_
  refine tr_seq ?_
  refine tr_ifn rfl (fun hif => ?_) (fun hif => ?_)
  · -- no
    simp only [decide_eq_true_eq, decide_eq_false_iff_not] at hif
    have hkk : k = W.length := by omega
    subst hkk
    refine tr_exit ?_
    refine q_thn_exit ?_
    refine q_lp_exit ?_
    refine q_blk_hit ?_
    refine q_thn ?_
    refine tr_seq ?_
    refine tr_reg ?_
    refine rs_v (v_move rfl) rfl ?_
    refine rs_v (v_assign rfl) rfl ?_
    refine rs_nil ?_
    refine q_thn ?_
    refine tr_ret ?_
    refine q_ret (res_tmp rfl rfl) ?_
    rw [List.take_length] at hrow hn
    exact ⟨SlR.of_rows2 O hn hrow (fun b hb => .inr ⟨by have := (hob b hb).1; omega, (hob b hb).2⟩) (fun b o c a hc hr => cSpan_r _ _ _ _ _ _ hc (cSpan_st.mono _ _ _ _ _ (fun b hb => .inl hb) (cSpan_st.stab _ _ _ _ _ (K.st hA) hr))), K⟩
  -- yes
  simp only [decide_eq_true_eq, decide_eq_false_iff_not] at hif
  rcases hx with rfl | ⟨b, o, rfl, hAb, hR⟩
  · simp at hif; omega
  obtain ⟨x, hsk⟩ := ex_get (L := W) (k := k) (by omega)
  have hkl : k < W.length := (List.getElem?_eq_some_iff.1 hsk).1
  have KL0 := K.1
  obtain ⟨kv, hcc, hkx⟩ := hR k x hsk
  obtain ⟨kax, kcx, rfl⟩ := hkx.form2
  have hcells := K.cells (by simp) hcc
  refine tr_skip ?_
  refine q_thn ?_
  refine tr_seq ?_
  refine tr_block ?_
  refine tr_seq ?_
  refine tr_reg ?_
  refine rs_v (v_indexAddrN u_sl_spec_Span siz_spec_Span rfl rfl (by omega)) rfl ?_
  refine rs_v (v_loadAgg (vs := [_, _, _]) many_spec_Span rfl (by exact hcells)) rfl ?_
  refine rs_w (w_new zero_spec_Span) rfl ?_
  rintro _ h2 ⟨rfl, B2, K2, Z2⟩
  have O := O.keep2 K2 (fun x hm => by have := hob x hm; simp; try omega)
  have S2 := K.1; have K := K.new0 K2; have KL := KL.new0 K2
  refine rs_w0 (w_put siz_spec_Span rfl rfl rfl rfl B2 rfl) ?_
  rintro _ h3 ⟨B3, K3⟩
  have O := O.keep2 K3 (fun x hm => by have := hob x hm; simp; try omega)
  have B2 := B3; have K := K.new1 K3 (by first | (right; omega) | (left; simp; done)); have Z3 := K3.1; have KL := KL.new1 K3 (.inr (by omega))
  refine rs_nil ?_
  refine q_thn ?_
  refine tr_seq ?_
  refine tr_block ?_
  refine tr_loop (fun m E h' => ∃ cur P v n xs, E = [(1, .slice ay keys.length cy), (5, v), (7, .pointer (some ⟨hL1.size, 0, none⟩)), (11, .slice (some ⟨b, o, none⟩) W.length c), (12, .int .i64 (W.length : Int)), (13, .int .i64 (k : Int))] ∧ Keep [] h h' ∧ Blk h' hL1.size [.string cur, .string x.e, .slice kax x.ks.length kcx] 55 ∧ n = (splitL keys (W.take k) ++ P).length ∧ Own h' h.size 55 3 v n xs ∧ RowsR 3 (cSpan A h) xs (splitL keys (W.take k) ++ P) ∧ P ++ splitN keys m ⟨cur, x.e, x.ks⟩ = splitN keys keys.length x ∧ cntG cur keys ≤ m ∧ ∀ y, y ∈ v.ownBlock.toList → y ≠ hL1.size) keys.length [(1, _), (5, _), (7, _), (11, _), (12, _), (13, _)] ⟨rfl, rfl, rfl, rfl, rfl, rfl, trivial⟩ ⟨x.s, [], _, n, _, rfl, K, B2, by rw [List.append_nil]; exact hn, O, by rw [List.append_nil]; exact hrow, rfl, List.countP_le_length, fun y hy => by have := hob y hy; omega⟩ ?_
  rintro m E hL4 ⟨cur, P, v, n, xs, rfl, K, Bs, hn, O, hrow, hP, hcnt, hnb⟩
  have hPl : P.length ≤ keys.length + 1 := by
    have e := congrArg List.length hP
    rw [List.length_append] at e
    have := splitN_len keys keys.length x
    omega
  have hkl9 : (splitL keys (W.take k)).length ≤ 1000 * 1001 := Nat.le_trans (splitL_len _ _) (Nat.mul_le_mul (by rw [List.length_take]; omega) (by omega))
  have KLz := Bs.lt
  have hn9 : n ≤ 2000000 := by rw [hn, List.length_append]; omega
  have hob := own_ne O; have KL := Keep.refl [] hL4
  refine tr_block ?_
  refine tr_seq ?_
  refine tr_reg ?_
  refine rs_v (v_fieldAddr fa_spec_Span_1 rfl) rfl ?_
  refine rs_v (v_load one_string rfl (by exact Bs.cell _ rfl)) rfl ?_
  refine rs_v (v_assign rfl) rfl ?_
  refine rs_nil ?_
  refine q_thn ?_
  refine tr_seq ?_
  refine tr_seq ?_
  refine tr_reg ?_
  refine rs_v (v_move rfl) rfl ?_
  refine rs_v (v_len u_sl_string rfl) rfl ?_
  refine rs_v (v_move rfl) rfl ?_
  refine rs_nil ?_
  refine q_thn ?_
  refine tr_block ?_
  refine tr_loop (fun m E h' => ∃ j, j ≤ keys.length ∧ m = keys.length - j ∧ E = [(1, .slice ay keys.length cy), (5, v), (7, .pointer (some ⟨hL1.size, 0, none⟩)), (11, .slice (some ⟨b, o, none⟩) W.length c), (12, .int .i64 (W.length : Int)), (13, .int .i64 (k : Int)), (8, .string (atF cur x.e (keys.take j))), (19, .slice ay keys.length cy), (20, .int .i64 (keys.length : Int)), (21, .int .i64 (j : Int))] ∧ h' = hL4) keys.length [(1, _), (5, _), (7, _), (11, _), (12, _), (13, _), (8, _), (19, _), (20, _), (21, _)] ⟨rfl, rfl, rfl, rfl, rfl, rfl, rfl, rfl, rfl, rfl, trivial⟩ ⟨0, Nat.zero_le _, rfl, rfl, rfl⟩ ?_
  rintro m E hL5 ⟨j, hj, rfl, rfl, rfl⟩
  have hob := own_ne O; have KL := Keep.refl [] hL5
  refine tr_seq ?_
  refine tr_reg ?_
  refine rs_v (v_lt rfl rfl) rfl ?_
  refine rs_nil ?_
  refine q_thn ?_
  refine tr_seq ?_
  refine tr_ifn rfl (fun hif => ?_) (fun hif => ?_)
  · -- no
    simp only [decide_eq_true_eq, decide_eq_false_iff_not] at hif
    have hjj : j = keys.length := by omega
    subst hjj
    rw [List.take_length]
    refine tr_exit ?_
    refine q_thn_exit ?_
    refine q_lp_exit ?_
    refine q_blk_hit ?_
    refine q_thn ?_
    refine tr_seq ?_
    refine tr_seq ?_
    refine tr_reg ?_
    refine rs_v (v_move rfl) rfl ?_
    refine rs_v (v_fieldAddr fa_spec_Span_1 rfl) rfl ?_
    refine rs_v (v_load one_string rfl (by exact Bs.cell _ rfl)) rfl ?_
    refine rs_v (v_seq rfl rfl) rfl ?_
    refine rs_nil ?_
    refine q_thn ?_
    refine tr_if rfl (fun hif => ?_) (fun hif => ?_)
    · -- yes
      skip
      refine tr_exit ?_
      refine q_thn_exit ?_
      refine q_blk_miss rfl ?_
      refine q_lp_exit ?_
      refine q_blk_hit ?_
      refine q_thn ?_
      refine tr_reg ?_
      refine rs_v (v_move rfl) rfl ?_
      refine rs_v (v_loadAgg (vs := [_, _, _]) many_spec_Span rfl (by exact Bs.sub _ 3 rfl)) rfl ?_
      refine rs_w (w_new1 u_sl_spec_Span siz_spec_Span zero_spec_Span rfl rfl rfl rfl rfl) rfl ?_
      rintro _ h6 ⟨rfl, B6, K6, Z6⟩
      have Bs := K6.blk (by simp) Bs
      have O := O.keep2 K6 (fun x hm => by have := hob x hm; simp; try omega)
      have S6 := K.1; have K := K.new0 K6
      refine rs_w (w_app1 u_sl_spec_Span info_spec_Span rfl rfl rfl O rfl rfl B6 rfl (by omega) (by omega) (by omega)) rfl ?_
      rintro v7 h7 ⟨O7, K7, N7, F7⟩
      have K := K.newX K7 (fun x hm => .inr (by have := hob x hm; omega)); have Z7 := K7.1
      have Bs := K7.blk (fun hm => by first | (have := hob _ hm; omega) | exact absurd rfl (hnb _ hm)) Bs
      have B6 := K7.blk (fun hm => by first | (have := hob _ hm; omega) | exact absurd rfl (hnb _ hm)) B6
      refine rs_v (v_assign rfl) rfl ?_
      refine rs_nil ?_
      refine q_blk_n ?_
      refine q_thn ?_
      refine tr_reg ?_
      refine rs_v (v_add rfl rfl (by omega) (by omega)) rfl ?_
      refine rs_v (v_move rfl) rfl ?_
      refine rs_nil ?_
      have hfin : splitL keys (W.take (k + 1)) = (splitL keys (W.take k) ++ P) ++ [⟨cur, x.e, x.ks⟩] := by
        rw [take_snoc' hsk, splitL_snoc, ← hP, splitN_end (s := ⟨cur, x.e, x.ks⟩) hif, List.append_assoc]
      refine q_lp (W.length - (k + 1)) [(1, _), (5, _), (11, _), (12, _), (13, _)] (by omega) ⟨rfl, rfl, rfl, rfl, rfl, trivial⟩ ⟨k + 1, _, n + 1, _, by omega, rfl, rfl, K, ?_, O7, ?_⟩
      · rw [hfin, List.length_append, ← hn]; rfl
      · rw [hfin]; exact hrow.snoc rfl ⟨_, rfl, hkx⟩
    -- no
    skip
    refine tr_skip ?_
    refine q_thn ?_
    refine tr_seq ?_
    refine tr_reg ?_
    refine rs_v (v_move rfl) rfl ?_
    refine rs_v (v_fieldAddr fa_spec_Span_0 rfl) rfl ?_
    refine rs_v (v_load one_string rfl (by exact Bs.cell _ rfl)) rfl ?_
    refine rs_v (v_move rfl) rfl ?_
    refine rs_v (v_fieldAddr fa_spec_Span_2 rfl) rfl ?_
    refine rs_v (v_load one_sl_spec_SpanKey rfl (by exact Bs.cell _ rfl)) rfl ?_
    refine rs_v (v_build3 rfl rfl rfl (bld_spec_Span_0_1_2 _ _ _ _ _)) rfl ?_
    refine rs_w (w_new1 u_sl_spec_Span siz_spec_Span zero_spec_Span rfl rfl rfl rfl rfl) rfl ?_
    rintro _ h8 ⟨rfl, B8, K8, Z8⟩
    have Bs := K8.blk (by simp) Bs
    have O := O.keep2 K8 (fun x hm => by have := hob x hm; simp; try omega)
    have S8 := K.1; have K := K.new0 K8
    refine rs_w (w_app1 u_sl_spec_Span info_spec_Span rfl rfl rfl O rfl rfl B8 rfl (by omega) (by omega) (by omega)) rfl ?_
    rintro v9 h9 ⟨O9, K9, N9, F9⟩
    have K := K.newX K9 (fun x hm => .inr (by have := hob x hm; omega)); have Z9 := K9.1
    have Bs := K9.blk (fun hm => by first | (have := hob _ hm; omega) | exact absurd rfl (hnb _ hm)) Bs
    have B8 := K9.blk (fun hm => by first | (have := hob _ hm; omega) | exact absurd rfl (hnb _ hm)) B8
    refine rs_v (v_assign rfl) rfl ?_
    refine rs_nil ?_
    refine q_thn ?_
    refine tr_reg ?_
    refine rs_v (v_move rfl) rfl ?_
    refine rs_v (v_fieldAddr fa_spec_Span_0 rfl) rfl ?_
    refine rs_w0 (w_put siz_string rfl rfl rfl rfl Bs rfl) ?_
    rintro _ h10 ⟨B10, K10⟩
    have B8 := K10.blk (by simp; omega) B8
    have Bs := B10; have K := K.new1 K10 (by first | (right; omega) | (left; simp; done)); have Z10 := K10.1
    refine rs_nil ?_
    refine q_blk_n ?_
    obtain ⟨q1, q2, q3⟩ := at_ne hif
    have hc9 := cntG_lt q2 q1
    obtain ⟨m, rfl⟩ : ∃ m', m = m' + 1 := ⟨m - 1, by omega⟩
    have hnb9 : ∀ y, y ∈ v9.ownBlock.toList → y ≠ hL1.size := fun y hy => by
      rcases F9 with e | e
      · rw [e] at hy; exact hnb y hy
      · rw [e] at hy; simp at hy; have := KLz; omega
    refine q_lp m [(1, _), (5, _), (7, _), (11, _), (12, _), (13, _)] (by omega) ⟨rfl, rfl, rfl, rfl, rfl, rfl, trivial⟩ ⟨atF cur x.e keys, P ++ [⟨cur, atF cur x.e keys, x.ks⟩], _, n + 1, _, rfl, K, Bs, ?_, O9.keep2 K10 (fun y hy => by simp; exact hnb9 y hy), ?_, ?_, by omega, hnb9⟩
    · rw [← List.append_assoc, List.length_append, ← hn]; rfl
    · rw [← List.append_assoc]; exact hrow.snoc rfl ⟨_, rfl, hkx⟩
    · simp only [splitN, hif] at hP
      rw [if_neg (by decide)] at hP
      rw [List.append_assoc]; exact hP
  -- yes
  simp only [decide_eq_true_eq, decide_eq_false_iff_not] at hif
  rcases hy with rfl | ⟨by0, oy, rfl, hAy, hRy⟩
  · simp at hif; omega
  obtain ⟨y, hyk⟩ := ex_get (L := keys) (k := j) (by omega)
  have hcy := K.cells (by simp) (CellsAt.one (hRy j y hyk))
  refine tr_skip ?_
  refine q_thn ?_
  refine tr_seq ?_
  refine tr_block ?_
  refine tr_seq ?_
  refine tr_reg ?_
  refine rs_v (v_indexAddrN u_sl_string siz_string rfl rfl (by omega)) rfl ?_
  refine rs_v (v_load one_string rfl (by exact hcy.at 0 rfl)) rfl ?_
  refine rs_v (v_assign rfl) rfl ?_
  refine rs_nil ?_
  refine q_thn ?_
  refine tr_cut (fun E h' => hL5 = h' ∧ E = [(1, .slice (some ⟨by0, oy, none⟩) keys.length cy), (5, v), (7, .pointer (some ⟨hL1.size, 0, none⟩)), (11, .slice (some ⟨b, o, none⟩) W.length c), (12, .int .i64 (W.length : Int)), (13, .int .i64 (k : Int)), (8, .string (atF cur x.e (keys.take j))), (19, .slice (some ⟨by0, oy, none⟩) keys.length cy), (20, .int .i64 (keys.length : Int)), (21, .int .i64 (j : Int)), (10, .string y), (33, .bool (slt cur y && slt y (atF cur x.e (keys.take j))))]) ?_ ?_
  ·
    rcases Bool.eq_false_or_eq_true (slt cur y) with g0 | g0
    · skip
      refine tr_reg ?_
      refine rs_v (v_fieldAddr fa_spec_Span_0 rfl) rfl ?_
      refine rs_v (v_load one_string rfl (by exact Bs.cell _ rfl)) rfl ?_
      refine rs_v (v_move rfl) rfl ?_
      refine rs_v (v_slt rfl rfl) rfl ?_
      refine rs_v (v_move rfl) rfl ?_
      refine rs_gv rfl (lkb g0) (v_move rfl) rfl ?_
      refine rs_gv rfl (lkb g0) (v_move rfl) rfl ?_
      refine rs_gv rfl (lkb g0) (v_slt rfl rfl) rfl ?_
      refine rs_v (v_pick_t (lkb g0) rfl) rfl ?_
      refine rs_nil ?_
      exact q_cut [(1, _), (5, _), (7, _), (11, _), (12, _), (13, _), (8, _), (19, _), (20, _), (21, _), (10, _), (33, _)] ⟨rfl, rfl, rfl, rfl, rfl, rfl, rfl, rfl, rfl, rfl, rfl, rfl, trivial⟩ ⟨rfl, by rw [show (slt cur y && slt y (atF cur x.e (keys.take j))) = slt y (atF cur x.e (keys.take j)) from by simp only [g0, Bool.true_and, Bool.false_and]]⟩
    · skip
      refine tr_reg ?_
      refine rs_v (v_fieldAddr fa_spec_Span_0 rfl) rfl ?_
      refine rs_v (v_load one_string rfl (by exact Bs.cell _ rfl)) rfl ?_
      refine rs_v (v_move rfl) rfl ?_
      refine rs_v (v_slt rfl rfl) rfl ?_
      refine rs_v (v_move rfl) rfl ?_
      refine rs_gs rfl (lkb g0) rfl rfl ?_
      refine rs_gs rfl (lkb g0) rfl rfl ?_
      refine rs_gs rfl (lkb g0) rfl rfl ?_
      refine rs_v (v_pick_f (lkb g0) rfl) rfl ?_
      refine rs_nil ?_
      exact q_cut [(1, _), (5, _), (7, _), (11, _), (12, _), (13, _), (8, _), (19, _), (20, _), (21, _), (10, _), (33, _)] ⟨rfl, rfl, rfl, rfl, rfl, rfl, rfl, rfl, rfl, rfl, rfl, rfl, trivial⟩ ⟨rfl, by rw [show (slt cur y && slt y (atF cur x.e (keys.take j))) = false from by simp only [g0, Bool.true_and, Bool.false_and]]⟩
  rintro E h99 ⟨hh, rfl⟩
  subst hh
  refine tr_if rfl (fun hif => ?_) (fun hif => ?_)
  · -- yes
    skip
    refine tr_reg ?_
    refine rs_v (v_move rfl) rfl ?_
    refine rs_v (v_assign rfl) rfl ?_
    refine rs_nil ?_
    refine q_blk_n ?_
    refine q_thn ?_
    refine tr_reg ?_
    refine rs_v (v_add rfl rfl (by omega) (by omega)) rfl ?_
    refine rs_v (v_move rfl) rfl ?_
    refine rs_nil ?_
    refine q_lp (keys.length - (j + 1)) [(1, _), (5, _), (7, _), (11, _), (12, _), (13, _), (8, _), (19, _), (20, _), (21, _)] (by omega) ⟨rfl, rfl, rfl, rfl, rfl, rfl, rfl, rfl, rfl, rfl, trivial⟩ ⟨j + 1, by omega, rfl, ?_, rfl⟩
    rw [take_snoc' hyk, atF_snoc, if_pos hif]
    rfl
  -- no
  skip
  refine tr_skip ?_
  refine q_blk_n ?_
  refine q_thn ?_
  refine tr_reg ?_
  refine rs_v (v_add rfl rfl (by omega) (by omega)) rfl ?_
  refine rs_v (v_move rfl) rfl ?_
  refine rs_nil ?_
  refine q_lp (keys.length - (j + 1)) [(1, _), (5, _), (7, _), (11, _), (12, _), (13, _), (8, _), (19, _), (20, _), (21, _)] (by omega) ⟨rfl, rfl, rfl, rfl, rfl, rfl, rfl, rfl, rfl, rfl, trivial⟩ ⟨j + 1, by omega, rfl, ?_, rfl⟩
  rw [take_snoc' hyk, atF_snoc, if_neg (by rw [hif]; decide)]
  rfl
end Go.Proofs.Ytgebfbnndgjkiaa
namespace Go.Proofs.Ytgebfbnndgjkiaa
open Go.Tess Go.RowKit
set_option maxRecDepth 100000
set_option maxHeartbeats 2000000
theorem found_pos {L : List SpanD} (h : 0 < L.length) : (ansOf L (stepP L .nowhere ⟨0, ByteArray.empty⟩)).ok = true := by
  simp only [stepP, if_true]
  unfold pFirst
  rw [if_neg (by omega)]
  simp only [ansOf, cur]
  rw [List.getElem?_eq_getElem h]; rfl
theorem walk_few {W : List SpanD} (h : ∀ s, s ∈ W → few s) : ∀ (l : List StepD) (p : Pos) a, a ∈ walkP W p l → a.sp.ks.length ≤ 100000
  | [], p, a, ha => by simp [walkP] at ha
  | s :: l, p, a, ha => by
    simp only [walkP, List.mem_cons] at ha
    rcases ha with rfl | ha
    · unfold ansOf
      cases hq : stepP W p s with
      | none => simp [zeroSpan]
      | some q =>
        simp only
        cases hc : cur W q with
        | none => simp [zeroSpan]
        | some s =>
          simp only [Option.getD_some]
          cases q with
          | pt j => exact h s (List.mem_of_getElem? hc)
          | behind => simp [cur] at hc
          | ahead => simp [cur] at hc
          | nowhere => simp [cur] at hc
    · exact walk_few h l _ a ha
theorem sm_small {s : SpanD} (h : SmS s) : SpanD.small s := ⟨by have := h.1; omega, by have := h.2.1; omega, h.2.2.1, fun k hk => ⟨by have := (h.2.2.2 k hk).1; omega, by have := (h.2.2.2 k hk).2; omega⟩⟩
theorem split_good {keys : List ByteArray} {W : List SpanD} (hW : GoodD W) (hk : ∀ k, k ∈ keys → k.size ≤ 2147483647) : GoodD (splitL keys W) := by
  intro t ht
  unfold splitL at ht
  obtain ⟨s, hs, hm⟩ := List.mem_flatMap.1 ht
  obtain ⟨e1, e2, e3, _⟩ := splitN_mem keys _ s t hm
  obtain ⟨g1, g2, g3, g4, g5⟩ := hW s hs
  refine ⟨by rw [e1]; exact g1, ?_, ?_, by rw [e1]; exact g4, by rw [e1]; exact g5⟩
  · rcases e2 with e | e
    · rw [e]; exact g2
    · exact hk _ e
  · rcases e3 with e | e
    · rw [e]; exact g3
    · exact hk _ e
theorem fit11_small {l : List ByteArray} (h : fit11 l = true) : ∀ k, k ∈ l → k.size ≤ 2147483647 := fun k hk => by
  simp only [fit11, Bool.and_eq_true, List.all_eq_true, decide_eq_true_eq, MX] at h
  exact h.2 k hk
theorem bld_sa (x0 x1 : Bool) (s e : ByteArray) (a : Option Addr) (n c : Nat) : ∀ w, (Instr.build 75 #[(0, .bool x0), (1, .bool x1), (2, .agg #[.string s, .string e, .slice a n c])]).run Try.prog w = .ok (.agg #[.bool x0, .bool x1, .string s, .string e, .slice a n c]) w := fun _ => by kernel_rfl

theorem c_FnSpanRejoined (χ : Chi) (h : Heap) (A : Nat → Prop) (hA : Low A h) (v yv sv : Value) (W : List SpanD) (keys : List ByteArray) (steps : List StepD) (hW : RSpans A h v W) (hY : RStrs A h yv keys) (hS : RSteps A h sv steps) :
    Cl Try.prog χ 7 #[v, yv, sv] h (fun r h' => r = .bool true ∧ Keep [] h h') := by
  have hW := RSpans.mono hW hA
  have hY := RStrs.mono hY hA
  have hS := RSteps.mono hS hA
  obtain ⟨a, c, rfl⟩ := SlR.form2 hW
  obtain ⟨a2, c2, rfl⟩ := SlR.form2 hY
  obtain ⟨a3, c3, rfl⟩ := SlR.form2 hS
  refine cl_intro Try.func7 rfl rfl rfl ?_
  have K : Keep [] h h := Keep.refl _ _
  refine tr_seq ?_
  refine tr_reg ?_
  refine rs_v (v_assign rfl) rfl ?_
  refine rs_nil ?_
  refine q_thn ?_
  refine tr_seq ?_
  refine tr_cut (fun E h' => Keep [] h h' ∧ E = [(0, .slice a W.length c), (1, .slice a2 keys.length c2), (2, .slice a3 steps.length c3), (6, .bool false), (24, .bool ((!fit4 W) || (!fit11 keys) || (!fit8 steps)))]) ?_ ?_
  ·
    rcases bsplit3 (!fit4 W) (!fit11 keys) with g1 | ⟨g1, g2⟩ | ⟨g1, g2⟩
    · skip
      refine tr_reg ?_
      refine rs_v (v_move rfl) rfl ?_
      refine rs_w (w_call (vs := [_]) ok_laws_zzFits4 rfl ⟨rfl, trivial⟩ (c_zzFits4 χ h (All h) (all_low h) _ W hW)) rfl ?_
      rintro _ h1 ⟨rfl, K1⟩
      have K := K.new0 K1; have Z1 := K1.1
      refine rs_v (v_not rfl) rfl ?_
      refine rs_v (v_move rfl) rfl ?_
      refine rs_gs rfl (lkb g1) rfl rfl ?_
      refine rs_gs rfl (lkb g1) rfl rfl ?_
      refine rs_gs rfl (lkb g1) rfl rfl ?_
      refine rs_v (v_pick_t (lkb g1) rfl) rfl ?_
      refine rs_v (v_move rfl) rfl ?_
      refine rs_gs rfl (rfl) rfl rfl ?_
      refine rs_gs rfl (rfl) rfl rfl ?_
      refine rs_gs rfl (rfl) rfl rfl ?_
      refine rs_v (v_pick_t rfl rfl) rfl ?_
      refine rs_nil ?_
      exact q_cut [(0, _), (1, _), (2, _), (6, _), (24, _)] ⟨rfl, rfl, rfl, rfl, rfl, trivial⟩ ⟨K, by rw [show ((!fit4 W) || (!fit11 keys) || (!fit8 steps)) = (true) from by simp only [g1, Bool.true_or, Bool.false_or]]⟩
    · skip
      refine tr_reg ?_
      refine rs_v (v_move rfl) rfl ?_
      refine rs_w (w_call (vs := [_]) ok_laws_zzFits4 rfl ⟨rfl, trivial⟩ (c_zzFits4 χ h (All h) (all_low h) _ W hW)) rfl ?_
      rintro _ h2 ⟨rfl, K2⟩
      have K := K.new0 K2; have Z2 := K2.1
      refine rs_v (v_not rfl) rfl ?_
      refine rs_v (v_move rfl) rfl ?_
      refine rs_gv rfl (lkb g1) (v_move rfl) rfl ?_
      refine rs_gw rfl (lkb g1) (w_call (vs := [_]) ok_laws_zzFits11 rfl ⟨rfl, trivial⟩ (c_zzFits11 χ _ _ _ keys (RStrs.kk hY K))) rfl ?_
      rintro _ h3 ⟨rfl, K3⟩
      have K := K.new0 K3; have Z3 := K3.1
      refine rs_gv rfl (lkb g1) (v_not rfl) rfl ?_
      refine rs_v (v_pick_f (lkb g1) rfl) rfl ?_
      refine rs_v (v_move rfl) rfl ?_
      refine rs_gs rfl (lkb g2) rfl rfl ?_
      refine rs_gs rfl (lkb g2) rfl rfl ?_
      refine rs_gs rfl (lkb g2) rfl rfl ?_
      refine rs_v (v_pick_t (lkb g2) rfl) rfl ?_
      refine rs_nil ?_
      exact q_cut [(0, _), (1, _), (2, _), (6, _), (24, _)] ⟨rfl, rfl, rfl, rfl, rfl, trivial⟩ ⟨K, by rw [show ((!fit4 W) || (!fit11 keys) || (!fit8 steps)) = (true) from by simp only [g1, g2, Bool.true_or, Bool.false_or]]⟩
    · skip
      refine tr_reg ?_
      refine rs_v (v_move rfl) rfl ?_
      refine rs_w (w_call (vs := [_]) ok_laws_zzFits4 rfl ⟨rfl, trivial⟩ (c_zzFits4 χ h (All h) (all_low h) _ W hW)) rfl ?_
      rintro _ h4 ⟨rfl, K4⟩
      have K := K.new0 K4; have Z4 := K4.1
      refine rs_v (v_not rfl) rfl ?_
      refine rs_v (v_move rfl) rfl ?_
      refine rs_gv rfl (lkb g1) (v_move rfl) rfl ?_
      refine rs_gw rfl (lkb g1) (w_call (vs := [_]) ok_laws_zzFits11 rfl ⟨rfl, trivial⟩ (c_zzFits11 χ _ _ _ keys (RStrs.kk hY K))) rfl ?_
      rintro _ h5 ⟨rfl, K5⟩
      have K := K.new0 K5; have Z5 := K5.1
      refine rs_gv rfl (lkb g1) (v_not rfl) rfl ?_
      refine rs_v (v_pick_f (lkb g1) rfl) rfl ?_
      refine rs_v (v_move rfl) rfl ?_
      refine rs_gv rfl (lkb g2) (v_move rfl) rfl ?_
      refine rs_gw rfl (lkb g2) (w_call (vs := [_]) ok_laws_zzFits8 rfl ⟨rfl, trivial⟩ (c_zzFits8 χ _ _ _ steps (RSteps.kk hS K))) rfl ?_
      rintro _ h6 ⟨rfl, K6⟩
      have K := K.new0 K6; have Z6 := K6.1
      refine rs_gv rfl (lkb g2) (v_not rfl) rfl ?_
      refine rs_v (v_pick_f (lkb g2) rfl) rfl ?_
      refine rs_nil ?_
      exact q_cut [(0, _), (1, _), (2, _), (6, _), (24, _)] ⟨rfl, rfl, rfl, rfl, rfl, trivial⟩ ⟨K, by rw [show ((!fit4 W) || (!fit11 keys) || (!fit8 steps)) = (!fit8 steps) from by simp only [g1, g2, Bool.true_or, Bool.false_or]]⟩
  rintro E h99 ⟨K, rfl⟩
  refine tr_if rfl (fun hif => ?_) (fun hif => ?_)
  · -- yes
    skip
    refine tr_seq ?_
    refine tr_reg ?_
    refine rs_v (v_assign rfl) rfl ?_
    refine rs_nil ?_
    refine q_thn ?_
    refine tr_ret ?_
    refine q_thn_ret ?_
    refine q_ret (res_tmp rfl rfl) ?_
    exact ⟨rfl, K⟩
  -- no
  simp only [Bool.or_eq_false_iff, Bool.not_eq_false'] at hif
  obtain ⟨⟨hf4, hf11⟩, hf8⟩ := hif
  refine tr_skip ?_
  refine q_thn ?_
  refine tr_seq ?_
  refine tr_cut (fun E h' => Keep [] h h' ∧ E = [(0, .slice a W.length c), (1, .slice a2 keys.length c2), (2, .slice a3 steps.length c3), (6, .bool false), (42, .bool ((!(mostB W 12 && wellB W)) || (decide ((20 : Int) < (keys.length : Int))) || (decide ((60 : Int) < (steps.length : Int))) || (decide ((W.length : Int) = 0))))]) ?_ ?_
  ·
    rcases bsplit4 (!(mostB W 12 && wellB W)) (decide ((20 : Int) < (keys.length : Int))) (decide ((60 : Int) < (steps.length : Int))) with g1 | ⟨g1, g2⟩ | ⟨g1, g2, g3⟩ | ⟨g1, g2, g3⟩
    · skip
      refine tr_reg ?_
      refine rs_v (v_move rfl) rfl ?_
      refine rs_w (w_call (vs := [_, _]) ok_laws_spanWell rfl ⟨rfl, rfl, trivial⟩ (c_spanWell χ _ _ (all_low _) _ W 12 (RSpans.kk hW K))) rfl ?_
      rintro _ h8 ⟨rfl, K8⟩
      have K := K.new0 K8; have Z8 := K8.1
      refine rs_v (v_not rfl) rfl ?_
      refine rs_v (v_move rfl) rfl ?_
      refine rs_gs rfl (lkb g1) rfl rfl ?_
      refine rs_gs rfl (lkb g1) rfl rfl ?_
      refine rs_gs rfl (lkb g1) rfl rfl ?_
      refine rs_v (v_pick_t (lkb g1) rfl) rfl ?_
      refine rs_v (v_move rfl) rfl ?_
      refine rs_gs rfl (rfl) rfl rfl ?_
      refine rs_gs rfl (rfl) rfl rfl ?_
      refine rs_gs rfl (rfl) rfl rfl ?_
      refine rs_v (v_pick_t rfl rfl) rfl ?_
      refine rs_v (v_move rfl) rfl ?_
      refine rs_gs rfl (rfl) rfl rfl ?_
      refine rs_gs rfl (rfl) rfl rfl ?_
      refine rs_gs rfl (rfl) rfl rfl ?_
      refine rs_v (v_pick_t rfl rfl) rfl ?_
      refine rs_nil ?_
      exact q_cut [(0, _), (1, _), (2, _), (6, _), (42, _)] ⟨rfl, rfl, rfl, rfl, rfl, trivial⟩ ⟨K, by rw [show ((!(mostB W 12 && wellB W)) || (decide ((20 : Int) < (keys.length : Int))) || (decide ((60 : Int) < (steps.length : Int))) || (decide ((W.length : Int) = 0))) = (true) from by simp only [g1, Bool.true_or, Bool.false_or]]⟩
    · skip
      refine tr_reg ?_
      refine rs_v (v_move rfl) rfl ?_
      refine rs_w (w_call (vs := [_, _]) ok_laws_spanWell rfl ⟨rfl, rfl, trivial⟩ (c_spanWell χ _ _ (all_low _) _ W 12 (RSpans.kk hW K))) rfl ?_
      rintro _ h9 ⟨rfl, K9⟩
      have K := K.new0 K9; have Z9 := K9.1
      refine rs_v (v_not rfl) rfl ?_
      refine rs_v (v_move rfl) rfl ?_
      refine rs_gv rfl (lkb g1) (v_move rfl) rfl ?_
      refine rs_gv rfl (lkb g1) (v_len u_sl_string rfl) rfl ?_
      refine rs_gv rfl (lkb g1) (v_gt rfl rfl) rfl ?_
      refine rs_v (v_pick_f (lkb g1) rfl) rfl ?_
      refine rs_v (v_move rfl) rfl ?_
      refine rs_gs rfl (lkb g2) rfl rfl ?_
      refine rs_gs rfl (lkb g2) rfl rfl ?_
      refine rs_gs rfl (lkb g2) rfl rfl ?_
      refine rs_v (v_pick_t (lkb g2) rfl) rfl ?_
      refine rs_v (v_move rfl) rfl ?_
      refine rs_gs rfl (rfl) rfl rfl ?_
      refine rs_gs rfl (rfl) rfl rfl ?_
      refine rs_gs rfl (rfl) rfl rfl ?_
      refine rs_v (v_pick_t rfl rfl) rfl ?_
      refine rs_nil ?_
      exact q_cut [(0, _), (1, _), (2, _), (6, _), (42, _)] ⟨rfl, rfl, rfl, rfl, rfl, trivial⟩ ⟨K, by rw [show ((!(mostB W 12 && wellB W)) || (decide ((20 : Int) < (keys.length : Int))) || (decide ((60 : Int) < (steps.length : Int))) || (decide ((W.length : Int) = 0))) = (true) from by simp only [g1, g2, Bool.true_or, Bool.false_or]]⟩
    · skip
      refine tr_reg ?_
      refine rs_v (v_move rfl) rfl ?_
      refine rs_w (w_call (vs := [_, _]) ok_laws_spanWell rfl ⟨rfl, rfl, trivial⟩ (c_spanWell χ _ _ (all_low _) _ W 12 (RSpans.kk hW K))) rfl ?_
      rintro _ h10 ⟨rfl, K10⟩
      have K := K.new0 K10; have Z10 := K10.1
      refine rs_v (v_not rfl) rfl ?_
      refine rs_v (v_move rfl) rfl ?_
      refine rs_gv rfl (lkb g1) (v_move rfl) rfl ?_
      refine rs_gv rfl (lkb g1) (v_len u_sl_string rfl) rfl ?_
      refine rs_gv rfl (lkb g1) (v_gt rfl rfl) rfl ?_
      refine rs_v (v_pick_f (lkb g1) rfl) rfl ?_
      refine rs_v (v_move rfl) rfl ?_
      refine rs_gv rfl (lkb g2) (v_move rfl) rfl ?_
      refine rs_gv rfl (lkb g2) (v_len u_sl_spec_Step rfl) rfl ?_
      refine rs_gv rfl (lkb g2) (v_gt rfl rfl) rfl ?_
      refine rs_v (v_pick_f (lkb g2) rfl) rfl ?_
      refine rs_v (v_move rfl) rfl ?_
      refine rs_gs rfl (lkb g3) rfl rfl ?_
      refine rs_gs rfl (lkb g3) rfl rfl ?_
      refine rs_gs rfl (lkb g3) rfl rfl ?_
      refine rs_v (v_pick_t (lkb g3) rfl) rfl ?_
      refine rs_nil ?_
      exact q_cut [(0, _), (1, _), (2, _), (6, _), (42, _)] ⟨rfl, rfl, rfl, rfl, rfl, trivial⟩ ⟨K, by rw [show ((!(mostB W 12 && wellB W)) || (decide ((20 : Int) < (keys.length : Int))) || (decide ((60 : Int) < (steps.length : Int))) || (decide ((W.length : Int) = 0))) = (true) from by simp only [g1, g2, g3, Bool.true_or, Bool.false_or]]⟩
    · skip
      refine tr_reg ?_
      refine rs_v (v_move rfl) rfl ?_
      refine rs_w (w_call (vs := [_, _]) ok_laws_spanWell rfl ⟨rfl, rfl, trivial⟩ (c_spanWell χ _ _ (all_low _) _ W 12 (RSpans.kk hW K))) rfl ?_
      rintro _ h11 ⟨rfl, K11⟩
      have K := K.new0 K11; have Z11 := K11.1
      refine rs_v (v_not rfl) rfl ?_
      refine rs_v (v_move rfl) rfl ?_
      refine rs_gv rfl (lkb g1) (v_move rfl) rfl ?_
      refine rs_gv rfl (lkb g1) (v_len u_sl_string rfl) rfl ?_
      refine rs_gv rfl (lkb g1) (v_gt rfl rfl) rfl ?_
      refine rs_v (v_pick_f (lkb g1) rfl) rfl ?_
      refine rs_v (v_move rfl) rfl ?_
      refine rs_gv rfl (lkb g2) (v_move rfl) rfl ?_
      refine rs_gv rfl (lkb g2) (v_len u_sl_spec_Step rfl) rfl ?_
      refine rs_gv rfl (lkb g2) (v_gt rfl rfl) rfl ?_
      refine rs_v (v_pick_f (lkb g2) rfl) rfl ?_
      refine rs_v (v_move rfl) rfl ?_
      refine rs_gv rfl (lkb g3) (v_move rfl) rfl ?_
      refine rs_gv rfl (lkb g3) (v_len u_sl_spec_Span rfl) rfl ?_
      refine rs_gv rfl (lkb g3) (v_eq rfl rfl) rfl ?_
      refine rs_v (v_pick_f (lkb g3) rfl) rfl ?_
      refine rs_nil ?_
      exact q_cut [(0, _), (1, _), (2, _), (6, _), (42, _)] ⟨rfl, rfl, rfl, rfl, rfl, trivial⟩ ⟨K, by rw [show ((!(mostB W 12 && wellB W)) || (decide ((20 : Int) < (keys.length : Int))) || (decide ((60 : Int) < (steps.length : Int))) || (decide ((W.length : Int) = 0))) = (decide ((W.length : Int) = 0)) from by simp only [g1, g2, g3, Bool.true_or, Bool.false_or]]⟩
  rintro E h99 ⟨K, rfl⟩
  refine tr_if rfl (fun hif => ?_) (fun hif => ?_)
  · -- yes
    skip
    refine tr_seq ?_
    refine tr_reg ?_
    refine rs_v (v_assign rfl) rfl ?_
    refine rs_nil ?_
    refine q_thn ?_
    refine tr_ret ?_
    refine q_thn_ret ?_
    refine q_ret (res_tmp rfl rfl) ?_
    exact ⟨rfl, K⟩
  -- no
  simp only [Bool.or_eq_false_iff, Bool.not_eq_false', decide_eq_false_iff_not] at hif
  obtain ⟨⟨⟨hw, hk20⟩, hl6⟩, hW0⟩ := hif
  obtain ⟨hG, hW12⟩ := good_of (by decide) hf4 hw
  have hk8 := fit8_small hf8
  have hGC := canon_good hG
  have hGD := canon_goodD hG hf4
  have hkY := fit11_small hf11
  have hSG := split_good hGD hkY
  have hCl : (W.map canonS).length = W.length := List.length_map _
  have hSl : (splitL keys (W.map canonS)).length ≤ 100000 := by
    refine Nat.le_trans (splitL_len _ _) ?_
    rw [hCl]
    exact Nat.le_trans (Nat.mul_le_mul (show W.length ≤ 12 by omega) (show keys.length + 1 ≤ 21 by omega)) (by decide)
  refine tr_skip ?_
  refine q_thn ?_
  refine tr_seq ?_
  refine tr_reg ?_
  refine rs_v (v_move rfl) rfl ?_
  refine rs_w (w_call (vs := [_]) ok_laws_spanCanons rfl ⟨rfl, trivial⟩ (c_spanCanons χ _ _ (all_low _) _ W (RSpans.kk hW K) hG.n hG.few)) rfl ?_
  rintro hCv h13 ⟨hC, K13⟩
  have hC := RSpans.mono hC (upN K13)
  obtain ⟨hCa, hCc, rfl⟩ := SlR.form2 hC
  have K := K.new0 K13; have Z13 := K13.1
  refine rs_v (v_assign rfl) rfl ?_
  refine rs_nil ?_
  refine q_thn ?_
  refine tr_seq ?_
  refine tr_reg ?_
  refine rs_v (v_move rfl) rfl ?_
  refine rs_w (w_call (vs := [_]) ok_laws_toSpans rfl ⟨rfl, trivial⟩ (c_toSpans χ _ _ (all_low _) _ (W.map canonS) hC hGC.n hGC.few)) rfl ?_
  rintro hPv h14 ⟨hP, K14⟩
  have hP := RSpans.mono hP (upA K14)
  obtain ⟨hPa, hPc, rfl⟩ := SlR.form2 hP
  have hC := RSpans.kk hC K14
  have K := K.new0 K14; have Z14 := K14.1
  refine rs_v (v_move rfl) rfl ?_
  refine rs_w (w_call (vs := [_]) ok_laws_toSteps rfl ⟨rfl, trivial⟩ (c_toSteps χ _ _ (all_low _) _ steps (RSteps.kk hS K) (by omega))) rfl ?_
  rintro hQv h15 ⟨hQ, K15⟩
  have hQ := RSteps.mono hQ (upA K15)
  obtain ⟨hQa, hQc, rfl⟩ := SlR.form2 hQ
  have hC := RSpans.kk hC K15
  have hP := RSpans.kk hP K15
  have K := K.new0 K15; have Z15 := K15.1
  refine rs_w (w_call (vs := [_, _]) ok_impl_SpanDefragmented rfl ⟨rfl, rfl, trivial⟩ (c_implSpanDefragmented χ _ _ (all_low _) _ _ (W.map canonS) steps hP hGC.n hGC.small hGC.ord hGD hQ (by omega) hk8)) rfl ?_
  rintro hgotv h16 ⟨hgot, K16⟩
  have hgot := RAnss.mono hgot (upN K16)
  obtain ⟨hgota, hgotc, rfl⟩ := SlR.form2 hgot
  have hC := RSpans.kk hC K16
  have hP := RSpans.kk hP K16
  have hQ := RSteps.kk hQ K16
  have K := K.new0 K16; have Z16 := K16.1
  refine rs_v (v_assign rfl) rfl ?_
  refine rs_nil ?_
  refine q_thn ?_
  refine tr_seq ?_
  refine tr_reg ?_
  refine rs_v (v_move rfl) rfl ?_
  refine rs_v (v_move rfl) rfl ?_
  refine rs_w (w_call (vs := [_, _]) ok_laws_spanSplit rfl ⟨rfl, rfl, trivial⟩ (c_spanSplit χ _ _ (all_low _) _ _ (W.map canonS) keys hC (RStrs.kk hY K) (by omega) (by omega))) rfl ?_
  rintro hSpv h17 ⟨hSp, K17⟩
  have hSp := RSpans.mono hSp (upA K17)
  obtain ⟨hSpa, hSpc, rfl⟩ := SlR.form2 hSp
  have hC := RSpans.kk hC K17
  have hP := RSpans.kk hP K17
  have hQ := RSteps.kk hQ K17
  have hgot := RAnss.kk hgot K17
  have K := K.new0 K17; have Z17 := K17.1
  refine rs_w (w_call (vs := [_]) ok_laws_toSpans rfl ⟨rfl, trivial⟩ (c_toSpans χ _ _ (all_low _) _ (splitL keys (W.map canonS)) hSp hSl (fun s hs => (hSG s hs).2.2.2.1))) rfl ?_
  rintro hP2v h18 ⟨hP2, K18⟩
  have hP2 := RSpans.mono hP2 (upA K18)
  obtain ⟨hP2a, hP2c, rfl⟩ := SlR.form2 hP2
  have hC := RSpans.kk hC K18
  have hP := RSpans.kk hP K18
  have hQ := RSteps.kk hQ K18
  have hgot := RAnss.kk hgot K18
  have hSp := RSpans.kk hSp K18
  have K := K.new0 K18; have Z18 := K18.1
  refine rs_v (v_move rfl) rfl ?_
  refine rs_w (w_call (vs := [_]) ok_laws_toSteps rfl ⟨rfl, trivial⟩ (c_toSteps χ _ _ (all_low _) _ steps (RSteps.kk hS K) (by omega))) rfl ?_
  rintro hQ2v h19 ⟨hQ2, K19⟩
  have hQ2 := RSteps.mono hQ2 (upA K19)
  obtain ⟨hQ2a, hQ2c, rfl⟩ := SlR.form2 hQ2
  have hC := RSpans.kk hC K19
  have hP := RSpans.kk hP K19
  have hQ := RSteps.kk hQ K19
  have hgot := RAnss.kk hgot K19
  have hSp := RSpans.kk hSp K19
  have hP2 := RSpans.kk hP2 K19
  have K := K.new0 K19; have Z19 := K19.1
  refine rs_w (w_call (vs := [_, _]) ok_impl_SpanDefragmented rfl ⟨rfl, rfl, trivial⟩ (c_implSpanDefragmented χ _ _ (all_low _) _ _ (splitL keys (W.map canonS)) steps hP2 hSl (fun s hs => sm_small (hSG s hs).2) (ord_splitL keys hGC.ord) hSG hQ2 (by omega) hk8)) rfl ?_
  rintro hcutv h20 ⟨hcut, K20⟩
  have hcut := RAnss.mono hcut (upN K20)
  rw [dfr_splitL] at hcut
  generalize hGdef : (walkP (dfr (W.map canonS)) .nowhere steps) = G at hcut hgot ⊢
  have hGf := walk_few (fun s hs => (dfr_desc (good_df hGC) s hs).2) steps .nowhere
  rw [hGdef] at hGf
  have hEz := Nat.le_trans K.1 K20.1
  have hGl : G.length = steps.length := by rw [← hGdef]; exact walkP_len _ _ _
  obtain ⟨hgl9, a9, c9, e9, hx⟩ := SlR.form (RAnss.kk hgot K20)
  cases e9
  obtain ⟨hcuta, hcutc, rfl⟩ := SlR.form2 hcut
  have hC := RSpans.kk hC K20
  have hP := RSpans.kk hP K20
  have hQ := RSteps.kk hQ K20
  have hgot := RAnss.kk hgot K20
  have hSp := RSpans.kk hSp K20
  have hP2 := RSpans.kk hP2 K20
  have hQ2 := RSteps.kk hQ2 K20
  have K := K.new0 K20; have Z20 := K20.1
  refine rs_v (v_assign rfl) rfl ?_
  refine rs_nil ?_
  refine q_thn ?_
  refine tr_seq ?_
  refine tr_reg ?_
  refine rs_v (v_assign rfl) rfl ?_
  refine rs_nil ?_
  refine q_thn ?_
  refine tr_seq ?_
  refine tr_seq ?_
  refine tr_reg ?_
  refine rs_v (v_move rfl) rfl ?_
  refine rs_v (v_len u_sl_impl_SpanAnswer rfl) rfl ?_
  refine rs_v (v_move rfl) rfl ?_
  refine rs_nil ?_
  refine q_thn ?_
  refine tr_block ?_
  refine tr_loop (fun m E h' => ∃ k v n, k ≤ G.length ∧ m = G.length - k ∧ E = [(0, .slice hCa (W.map canonS).length hCc), (8, .slice hcuta G.length hcutc), (9, v), (57, .slice hgota G.length hgotc), (58, .int .i64 (G.length : Int)), (59, .int .i64 (k : Int))] ∧ Keep [] h h' ∧ Keep [] h20 h' ∧ n = (G.take k).length ∧ OutR (All h20) h20 h' h20.size 75 5 cAns v n (G.take k)) G.length [(0, _), (8, _), (9, _), (57, _), (58, _), (59, _)] ⟨rfl, rfl, rfl, rfl, rfl, rfl, trivial⟩ ⟨0, _, 0, Nat.zero_le _, rfl, rfl, K, Keep.refl _ _, rfl, OutR.nil _ _ _ _ _ _ _⟩ ?_
  rintro m E hL21 ⟨k, v, n, hk, rfl, rfl, K, KE, hn, hout⟩
  have hout0 := hout
  obtain ⟨xs, F, O, hrow, hF⟩ := hout
  have hob := own_ne O; have KL := Keep.refl [] hL21
  refine tr_seq ?_
  refine tr_reg ?_
  refine rs_v (v_lt rfl rfl) rfl ?_
  refine rs_nil ?_
  refine q_thn ?_
  refine tr_seq ?_
  refine tr_ifn rfl (fun hif => ?_) (fun hif => ?_)
  · -- no
    simp only [decide_eq_true_eq, decide_eq_false_iff_not] at hif
    have hkk : k = G.length := by omega
    subst hkk
    rw [List.take_length] at hout0 hn
    have hwant := RAnss.mono (hout0.fin cAns_st hn (Nat.le_refl _) cAns_r) ((all_low _).up KE.1)
    obtain ⟨hwa, hwc, rfl⟩ := SlR.form2 hwant
    have hcut := RAnss.kk hcut KE
    have hC := RSpans.kk hC KE
    have hdp : 0 < (dfr (W.map canonS)).length := dfr_ne (by rw [hCl]; omega)
    refine tr_exit ?_
    refine q_thn_exit ?_
    refine q_lp_exit ?_
    refine q_blk_hit ?_
    refine q_thn ?_
    refine tr_seq ?_
    refine tr_reg ?_
    refine rs_v (v_move rfl) rfl ?_
    refine rs_v (v_move rfl) rfl ?_
    refine rs_w (w_call (vs := [_, _]) ok_laws_spanAnswers rfl ⟨rfl, rfl, trivial⟩ (c_spanAnswers χ _ _ _ (all_low _) (all_low _) _ _ _ _ hcut hwant (by rw [← hGdef]; exact ansLike_walk (dfr_desc (good_df hGC)) _ _))) rfl ?_
    rintro _ h22 ⟨rfl, K22⟩
    try have KE := KE.newX K22 (fun x hx => .inr (by first | (simp at hx; done) | (simp at hx; omega)))
    have O := O.keep2 K22 (fun x hm => by have := hob x hm; simp; try omega)
    have K := K.new0 K22; have Z22 := K22.1; have KL := KL.new0 K22
    refine rs_v (v_move rfl) rfl ?_
    refine rs_gv rfl (rfl) (v_move rfl) rfl ?_
    refine rs_gw rfl (rfl) (w_call (vs := [_]) ok_laws_toSpans rfl ⟨rfl, trivial⟩ (c_toSpans χ _ _ (all_low _) _ (W.map canonS) (RSpans.kk hC K22) hGC.n hGC.few)) rfl ?_
    rintro hP3v h23 ⟨hP3, K23⟩
    have hP3 := RSpans.mono hP3 (upA K23)
    obtain ⟨hP3a, hP3c, rfl⟩ := SlR.form2 hP3
    try have KE := KE.newX K23 (fun x hx => .inr (by first | (simp at hx; done) | (simp at hx; omega)))
    have O := O.keep2 K23 (fun x hm => by have := hob x hm; simp; try omega)
    have K := K.new0 K23; have Z23 := K23.1; have KL := KL.new0 K23
    refine rs_gw rfl (rfl) (w_call (vs := []) ok_laws_spanStart rfl trivial (c_spanStart χ _)) rfl ?_
    rintro hQ3v h24 ⟨hQ3, K24⟩
    have hQ3 := RSteps.mono hQ3 (upN K24)
    obtain ⟨hQ3a, hQ3c, rfl⟩ := SlR.form2 hQ3
    try have KE := KE.newX K24 (fun x hx => .inr (by first | (simp at hx; done) | (simp at hx; omega)))
    have hP3 := RSpans.kk hP3 K24
    have O := O.keep2 K24 (fun x hm => by have := hob x hm; simp; try omega)
    have K := K.new0 K24; have Z24 := K24.1; have KL := KL.new0 K24
    refine rs_gw rfl (rfl) (w_call (vs := [_, _]) ok_impl_SpanDefragmented rfl ⟨rfl, rfl, trivial⟩ (c_implSpanDefragmented χ _ _ (all_low _) _ _ (W.map canonS) startS hP3 hGC.n hGC.small hGC.ord hGD hQ3 (by decide) start_small)) rfl ?_
    rintro hg2v h25 ⟨hg2, K25⟩
    have hg2 := RAnss.mono hg2 (upN K25)
    obtain ⟨hg2a, hg2c, rfl⟩ := SlR.form2 hg2
    try have KE := KE.newX K25 (fun x hx => .inr (by first | (simp at hx; done) | (simp at hx; omega)))
    have hP3 := RSpans.kk hP3 K25
    have hQ3 := RSteps.kk hQ3 K25
    have O := O.keep2 K25 (fun x hm => by have := hob x hm; simp; try omega)
    have K := K.new0 K25; have Z25 := K25.1; have KL := KL.new0 K25
    refine rs_gw rfl (rfl) (w_call (vs := [_]) ok_laws_spanFound rfl ⟨rfl, trivial⟩ (c_spanFound χ _ _ _ _ hg2)) rfl ?_
    rintro _ h26 ⟨rfl, K26⟩
    try have KE := KE.newX K26 (fun x hx => .inr (by first | (simp at hx; done) | (simp at hx; omega)))
    have hP3 := RSpans.kk hP3 K26
    have hQ3 := RSteps.kk hQ3 K26
    have hg2 := RAnss.kk hg2 K26
    have O := O.keep2 K26 (fun x hm => by have := hob x hm; simp; try omega)
    have K := K.new0 K26; have Z26 := K26.1; have KL := KL.new0 K26
    refine rs_v (v_pick_t rfl rfl) rfl ?_
    refine rs_v (v_assign rfl) rfl ?_
    refine rs_nil ?_
    refine q_thn ?_
    refine tr_ret ?_
    refine q_ret (res_tmp rfl rfl) ?_
    exact ⟨by rw [found_pos hdp], K⟩
  -- yes
  simp only [decide_eq_true_eq, decide_eq_false_iff_not] at hif
  rcases hx with e | ⟨b, o, rfl, hAb, hR⟩
  · rw [e] at hif; simp at hif; omega
  obtain ⟨x, hxk⟩ := ex_get (L := G) (k := k) (by omega)
  have KL0 := KE.1
  have hxf := hGf x (List.mem_of_getElem? hxk)
  obtain ⟨kv, hcc, hkx⟩ := hR k x hxk
  obtain ⟨ka, kc, rfl⟩ := hkx.form2
  have hcells := KE.cells (by simp) hcc
  have hnk : n = k := by rw [hn, List.length_take]; omega
  refine tr_skip ?_
  refine q_thn ?_
  refine tr_seq ?_
  refine tr_block ?_
  refine tr_seq ?_
  refine tr_reg ?_
  refine rs_v (v_indexAddrN u_sl_impl_SpanAnswer siz_impl_SpanAnswer rfl rfl (by omega)) rfl ?_
  refine rs_v (v_loadAgg (vs := [_, _, _, _, _]) many_impl_SpanAnswer rfl (by exact hcells)) rfl ?_
  refine rs_w (w_new zero_impl_SpanAnswer) rfl ?_
  rintro _ h27 ⟨rfl, B27, K27, Z27⟩
  try have KE := KE.newX K27 (fun x hx => .inr (by first | (simp at hx; done) | (simp at hx; omega)))
  have O := O.keep2 K27 (fun x hm => by have := hob x hm; simp; try omega)
  have S27 := K.1; have K := K.new0 K27; have KL := KL.new0 K27
  refine rs_w0 (w_put siz_impl_SpanAnswer rfl rfl rfl rfl B27 rfl) ?_
  rintro _ h28 ⟨B28, K28⟩
  try have KE := KE.newX K28 (fun x hx => .inr (by first | (simp at hx; done) | (simp at hx; omega)))
  have O := O.keep2 K28 (fun x hm => by have := hob x hm; simp; try omega)
  have B27 := B28; have K := K.new1 K28 (by first | (right; omega) | (left; simp; done)); have Z28 := K28.1; have KL := KL.new1 K28 (.inr (by omega))
  refine rs_nil ?_
  refine q_thn ?_
  have hAX : Low (All h20) h28 := (all_low _).mono KE.1
  refine tr_draw [(true, 10), (false, 2)] _ (by kernel_rfl) (by kernel_rfl) (by kernel_rfl) ?_
  refine rx_any (Keep []) (keep_pre _) ?_
  refine rm_v (keep_pre _) (fun h' hk => v_move rfl) ?_
  refine rm_v (keep_pre _) (fun h' hk => v_fieldAddr fa_impl_SpanAnswer_0 rfl) ?_
  refine rm_v (keep_pre _) (fun h' hk => v_load one_bool rfl (Blk.cell (hk.blk (by simp) B27) _ rfl)) ?_
  refine rm_v (keep_pre _) (fun h' hk => v_fieldAddr fa_impl_SpanAnswer_1 rfl) ?_
  refine rm_v (keep_pre _) (fun h' hk => v_load one_bool rfl (Blk.cell (hk.blk (by simp) B27) _ rfl)) ?_
  refine rm_v (keep_pre _) (fun h' hk => v_fieldAddr fa_impl_SpanAnswer_2 rfl) ?_
  refine rm_v (keep_pre _) (fun h' hk => v_loadAgg (vs := [_, _, _]) many_impl_Span rfl (Blk.sub (hk.blk (by simp) B27) 2 3 rfl)) ?_
  refine rm_w (fun v h' => ∃ kv', v = .agg #[.string x.sp.s, .string x.sp.e, kv'] ∧ RKeys (Up (All h20) h28 h') h' kv' x.sp.ks) (fun v _ _ k1 k2 hr => by obtain ⟨kv', e, hr⟩ := hr; exact ⟨kv', e, upk hAX k1.1 hr k2⟩) (fun h' hk => OpW.mono (w_call (vs := [_]) ok_laws_ofSpan rfl ⟨rfl, trivial⟩ (c_ofSpan χ h' (All h20) ((all_low _).mono (KE.new0 hk).1) x.sp _ (hkx.stab ((KE.new0 hk).st (all_low _))) hxf)) (fun v h'' hv => ⟨hv.2, by obtain ⟨kv', e, hr⟩ := hv.1; exact ⟨kv', e, hr.mono (Up.trans2 hk.1 (Nat.le_refl _))⟩⟩)) ?_
  refine rm_o 70 (fun v h' => ∃ kv', v = .agg #[.bool x.done, .bool x.ok, .string x.sp.s, .string x.sp.e, kv'] ∧ RKeys (Up (All h20) h28 h') h' kv' x.sp.ks) rfl (by kernel_rfl) (fun v _ _ k1 k2 hr => by obtain ⟨kv', e, hr⟩ := hr; exact ⟨kv', e, upk hAX k1.1 hr k2⟩) (fun u h' hk hu => by
    obtain ⟨kv', rfl, hu⟩ := hu
    obtain ⟨a, c, rfl⟩ := hu.form2
    exact (v_build3 rfl rfl rfl (bld_sa _ _ _ _ _ _ _)).w.mono (fun _ _ e => by obtain ⟨e1, e2⟩ := e; subst e1; subst e2; exact ⟨Keep.refl _ _, _, rfl, hu⟩)) ?_
  refine rm_o 71 (fun v h' => ∃ b kv', v = .slice (some ⟨b, 0, none⟩) 1 1 ∧ h28.size ≤ b ∧ Blk h' b [.bool x.done, .bool x.ok, .string x.sp.s, .string x.sp.e, kv'] 75 ∧ RKeys (Up (All h20) h28 h') h' kv' x.sp.ks) rfl (by kernel_rfl) (fun v _ _ k1 k2 hr => by obtain ⟨b, kv', e, hb, B, hr⟩ := hr; exact ⟨b, kv', e, hb, k2.blk (by simp) B, upk hAX k1.1 hr k2⟩) (fun u h' hk hu => by
    obtain ⟨kv', rfl, hu⟩ := hu
    obtain ⟨a, c, rfl⟩ := hu.form2
    exact (w_new1 u_sl_spec_SpanAnswer siz_spec_SpanAnswer zero_spec_SpanAnswer rfl rfl rfl rfl rfl).mono (fun v h'' e => by
      obtain ⟨rfl, B, Kn, _⟩ := e
      exact ⟨Kn, _, _, rfl, hk.1, B, upk hAX hk.1 hu Kn⟩)) ?_
  refine rm_end ?_; intro ha Ka; simp only [endM, hypF, ofE, argE, List.nil_append]
  intro v72 h72 v71 _ v70 _
  obtain ⟨b9, kv9, rfl, hb9, B9, hkv9⟩ := h72
  obtain ⟨ka9, kc9, rfl⟩ := hkv9.form2
  have O := O.keep2 Ka (fun x hm => by simp)
  have K := K.new0 Ka; have Za := Ka.1; have KE := KE.new0 Ka; have KL := KL.new0 Ka
  refine rx_seq ?_
  refine rs_w (w_app1 u_sl_spec_SpanAnswer info_spec_SpanAnswer rfl rfl rfl O rfl rfl B9 rfl (by omega) (by omega) (by omega)) rfl ?_
  rintro v13 h29 ⟨O13, K13, N13, F13⟩
  have K := K.newX K13 (fun x hm => .inr (by have := hob x hm; omega)); have KE := KE.newX K13 (fun x hm => .inr (by have := hob x hm; omega)); have Z13 := K13.1
  refine rs_v (v_assign rfl) rfl ?_
  refine rs_nil ?_
  refine q_con ?_
  refine rx_nil ?_
  refine q_blk_n ?_
  refine q_thn ?_
  refine tr_reg ?_
  refine rs_v (v_add rfl rfl (by omega) (by omega)) rfl ?_
  refine rs_v (v_move rfl) rfl ?_
  refine rs_nil ?_
  refine q_lp (G.length - (k + 1)) [(0, _), (8, _), (9, _), (57, _), (58, _), (59, _)] (by omega) ⟨rfl, rfl, rfl, rfl, rfl, rfl, trivial⟩ ⟨k + 1, v13, n + 1, by omega, rfl, rfl, K, KE, ?_, ?_⟩
  · rw [take_snoc' hxk, List.length_append, ← hn]; rfl
  · rw [take_snoc' hxk]
    exact OutR.snoc cAns_st (all_low _) (Nat.le_refl _) hob hrow hF KL0 KL O13 K13 F13 rfl ⟨_, rfl, hkv9.mono (Up.trans2 (by omega) (Nat.le_refl _))⟩
end Go.Proofs.Ytgebfbnndgjkiaa
