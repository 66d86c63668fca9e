/- Twentieth part: how the filtering iterator moves. Conditions: those that each theorem names. -/
import Derived.Test.YtgebfbnndgjkiaaW19
set_option linter.unusedVariables false
set_option linter.unusedSimpArgs false
namespace Go.Proofs.Ytgebfbnndgjkiaa
open Go.Tess Go.RowKit
set_option maxRecDepth 100000
set_option maxHeartbeats 1000000
theorem itpost_trans {W : List SpanD} {I : ItI} {F F' : Nat → Prop} {h h1 h' : Heap} {p : Pos} {r : Value} (K : KeepP F h h1) (hF : ∀ b, F' b → F b ∨ h.size ≤ b) (hp : ItPost W I F' h1 p r h') : ItPost W I F h p r h' := by
  obtain ⟨F2, h2, h3, h4, h5⟩ := hp
  refine ⟨F2, h2, fun b hb => ?_, K.trans h4 hF, h5⟩
  rcases h3 b hb with h9 | h9
  · exact hF b h9
  · exact .inr (by have := K.1; omega)
theorem itpost_weak {ff : SpanD → Option SpanD} {W : List SpanD} {I : ItI} {t : TypeId} {v0 fv : Value} {c : Nat} {G0 : Nat → Prop} {Env : Heap → Prop} {F : Nat → Prop} {h h' : Heap} {p p' : Pos} {r : Value}
    (hp : ItPost (W.filterMap ff) (FIt ff W I t v0 fv c G0 Env) F h p r h') (he : p = p' ∨ (p' = .nowhere ∧ cur (W.filterMap ff) p = none)) : ItPost (W.filterMap ff) (FIt ff W I t v0 fv c G0 Env) F h p' r h' := by
  rcases he with rfl | ⟨rfl, hc⟩
  · exact hp
  · obtain ⟨F', ⟨q, Fin, sv, ev, kv, kk, n, xs, hs, _⟩, h3, h4, h5⟩ := hp
    refine ⟨F', ⟨q, Fin, sv, ev, kv, kk, n, xs, hs, trivial⟩, h3, h4, ?_⟩
    unfold Ret at h5 ⊢
    rw [hc] at h5
    exact h5
theorem in_first {W : List SpanD} : ∀ j, pFirst W = .pt j → j < W.length := by
  intro j h; simp only [pFirst] at h; split at h
  · cases h
  · cases h; omega
theorem in_last {W : List SpanD} : ∀ j, pLast W = .pt j → j < W.length := by
  intro j h; simp only [pLast] at h; split at h
  · cases h
  · cases h; omega
theorem in_nextq {W : List SpanD} {q : Pos} (hc : canNext q = true) : ∀ j, pNext W q = .pt j → j < W.length := by
  cases q with
  | pt i => exact in_next
  | ahead => intro j h; simp only [pNext] at h; split at h; · cases h; assumption
             · cases h
  | _ => simp [canNext] at hc
theorem in_prevq {W : List SpanD} {q : Pos} (hq : ∀ i, q = .pt i → i < W.length) (hc : canPrev q = true) : ∀ j, pPrev W q = .pt j → j < W.length := by
  cases q with
  | pt i => exact in_prev (hq i rfl)
  | behind => intro j h; simp only [pPrev] at h; split at h
              · cases h
              · cases h; omega
  | _ => simp [canPrev] at hc
theorem in_ge {W : List SpanD} {k : ByteArray} : ∀ j, pGE W k = .pt j → j < W.length := by
  intro j h; simp only [pGE] at h; split at h
  · cases h; assumption
  · cases h
theorem in_lt {W : List SpanD} {k : ByteArray} : ∀ j, pLT W k = .pt j → j < W.length := by
  intro j h; simp only [pLT] at h; have := ltI_le W k; split at h
  · cases h
  · cases h; omega
theorem rel_in {ff : SpanD → Option SpanD} {W : List SpanD} {p q : Pos} (hr : relP ff W p q) (hp : p ≠ .nowhere) : ∀ i, q = .pt i → i < W.length := by
  rintro i rfl
  cases p with
  | pt j => obtain ⟨s, s', h, _⟩ := hr; exact (List.getElem?_eq_some_iff.1 h).1
  | nowhere => exact absurd rfl hp
  | _ => exact hr.elim

theorem c_FiFirst {χ : Chi} {ff : SpanD → Option SpanD} {fv : Value} {G0 : Nat → Prop} {Env : Heap → Prop} {W : List SpanD} {t : TypeId} {v0 : Value} {I : ItI} {c : Nat} {F : Nat → Prop} {h : Heap} {p : Pos}
    (hit : IterOK Try.prog χ W t v0 I) (hfn : FnOK χ W ff fv G0 Env) (hWn : ∀ s, s ∈ W → s.ks.length ≤ 100000) (hI : FIt ff W I t v0 fv c G0 Env p F h)  :
    Cl Try.prog χ 162 #[.pointer (some ⟨c, 0, none⟩)] h (ItPost (W.filterMap ff) (FIt ff W I t v0 fv c G0 Env) F h (pFirst (W.filterMap ff))) := by
  obtain ⟨q, Fin, sv, ev, kv, kk, n, xs, hs, hrel⟩ := hI
  have Bc := hs.2.1
  refine cl_intro Try.func162 rfl rfl rfl ?_
  have K : Keep [] h h := Keep.refl _ _
  refine tr_seq ?_
  refine tr_reg ?_
  refine rs_v (v_assign rfl) rfl ?_
  refine rs_nil ?_
  refine q_thn ?_
  refine tr_seq ?_
  refine tr_reg ?_
  refine rs_v (v_move rfl) rfl ?_
  refine rs_v (v_move rfl) rfl ?_
  refine rs_v (v_nilCheck_ptr rfl) rfl ?_
  refine rs_v (v_fieldAddr fa_keyspan_filteringIter_0 rfl) rfl ?_
  refine rs_v (v_load one_keyspan_FragmentIterator rfl (by exact Bc.cell _ rfl)) rfl ?_
  refine rs_w (w_mcall (vs := []) (hit.first hs.1) rfl trivial) rfl ?_
  rintro r1 h1 hp1
  obtain ⟨Fin', hs', hF', KP', hret'⟩ := fst_inner hit hfn hs hp1
  refine rs_w (w_call (vs := [_, _, _]) ok_keyspan_filteringIter_filter rfl ⟨rfl, rfl, rfl, trivial⟩ (c_filterF hit hfn hWn in_first hs' hret')) rfl ?_
  rintro r2 h2 hp2
  refine rs_v (v_assign rfl) rfl ?_
  refine rs_nil ?_
  refine q_thn ?_
  refine tr_ret ?_
  refine q_ret (res_tmp rfl rfl) ?_
  have hFF : ∀ b, (F b ∨ Fin' b) → F b ∨ h.size ≤ b := fun b hb => hb.elim .inl (fun e => (hF' b e).imp (hs.2.2.2.2.2.2.2.2.1 b) id)
  exact itpost_weak (itpost_trans KP' hFF hp2) fwd_first
theorem c_FiLast {χ : Chi} {ff : SpanD → Option SpanD} {fv : Value} {G0 : Nat → Prop} {Env : Heap → Prop} {W : List SpanD} {t : TypeId} {v0 : Value} {I : ItI} {c : Nat} {F : Nat → Prop} {h : Heap} {p : Pos}
    (hit : IterOK Try.prog χ W t v0 I) (hfn : FnOK χ W ff fv G0 Env) (hWn : ∀ s, s ∈ W → s.ks.length ≤ 100000) (hI : FIt ff W I t v0 fv c G0 Env p F h)  :
    Cl Try.prog χ 163 #[.pointer (some ⟨c, 0, none⟩)] h (ItPost (W.filterMap ff) (FIt ff W I t v0 fv c G0 Env) F h (pLast (W.filterMap ff))) := by
  obtain ⟨q, Fin, sv, ev, kv, kk, n, xs, hs, hrel⟩ := hI
  have Bc := hs.2.1
  refine cl_intro Try.func163 rfl rfl rfl ?_
  have K : Keep [] h h := Keep.refl _ _
  refine tr_seq ?_
  refine tr_reg ?_
  refine rs_v (v_assign rfl) rfl ?_
  refine rs_nil ?_
  refine q_thn ?_
  refine tr_seq ?_
  refine tr_reg ?_
  refine rs_v (v_move rfl) rfl ?_
  refine rs_v (v_move rfl) rfl ?_
  refine rs_v (v_nilCheck_ptr rfl) rfl ?_
  refine rs_v (v_fieldAddr fa_keyspan_filteringIter_0 rfl) rfl ?_
  refine rs_v (v_load one_keyspan_FragmentIterator rfl (by exact Bc.cell _ rfl)) rfl ?_
  refine rs_w (w_mcall (vs := []) (hit.last hs.1) rfl trivial) rfl ?_
  rintro r1 h1 hp1
  obtain ⟨Fin', hs', hF', KP', hret'⟩ := fst_inner hit hfn hs hp1
  refine rs_w (w_call (vs := [_, _, _]) ok_keyspan_filteringIter_filter rfl ⟨rfl, rfl, rfl, trivial⟩ (c_filterB hit hfn hWn in_last hs' hret')) rfl ?_
  rintro r2 h2 hp2
  refine rs_v (v_assign rfl) rfl ?_
  refine rs_nil ?_
  refine q_thn ?_
  refine tr_ret ?_
  refine q_ret (res_tmp rfl rfl) ?_
  have hFF : ∀ b, (F b ∨ Fin' b) → F b ∨ h.size ≤ b := fun b hb => hb.elim .inl (fun e => (hF' b e).imp (hs.2.2.2.2.2.2.2.2.1 b) id)
  exact itpost_weak (itpost_trans KP' hFF hp2) bwd_last
theorem c_FiNext {χ : Chi} {ff : SpanD → Option SpanD} {fv : Value} {G0 : Nat → Prop} {Env : Heap → Prop} {W : List SpanD} {t : TypeId} {v0 : Value} {I : ItI} {c : Nat} {F : Nat → Prop} {h : Heap} {p : Pos}
    (hit : IterOK Try.prog χ W t v0 I) (hfn : FnOK χ W ff fv G0 Env) (hWn : ∀ s, s ∈ W → s.ks.length ≤ 100000) (hI : FIt ff W I t v0 fv c G0 Env p F h) (hc : canNext p = true) :
    Cl Try.prog χ 164 #[.pointer (some ⟨c, 0, none⟩)] h (ItPost (W.filterMap ff) (FIt ff W I t v0 fv c G0 Env) F h (pNext (W.filterMap ff) p)) := by
  obtain ⟨q, Fin, sv, ev, kv, kk, n, xs, hs, hrel⟩ := hI
  have Bc := hs.2.1
  have hn := fwd_next hrel hc
  refine cl_intro Try.func164 rfl rfl rfl ?_
  have K : Keep [] h h := Keep.refl _ _
  refine tr_seq ?_
  refine tr_reg ?_
  refine rs_v (v_assign rfl) rfl ?_
  refine rs_nil ?_
  refine q_thn ?_
  refine tr_seq ?_
  refine tr_reg ?_
  refine rs_v (v_move rfl) rfl ?_
  refine rs_v (v_move rfl) rfl ?_
  refine rs_v (v_nilCheck_ptr rfl) rfl ?_
  refine rs_v (v_fieldAddr fa_keyspan_filteringIter_0 rfl) rfl ?_
  refine rs_v (v_load one_keyspan_FragmentIterator rfl (by exact Bc.cell _ rfl)) rfl ?_
  refine rs_w (w_mcall (vs := []) (hit.next hs.1 hn.1) rfl trivial) rfl ?_
  rintro r1 h1 hp1
  obtain ⟨Fin', hs', hF', KP', hret'⟩ := fst_inner hit hfn hs hp1
  refine rs_w (w_call (vs := [_, _, _]) ok_keyspan_filteringIter_filter rfl ⟨rfl, rfl, rfl, trivial⟩ (c_filterF hit hfn hWn (in_nextq hn.1) hs' hret')) rfl ?_
  rintro r2 h2 hp2
  refine rs_v (v_assign rfl) rfl ?_
  refine rs_nil ?_
  refine q_thn ?_
  refine tr_ret ?_
  refine q_ret (res_tmp rfl rfl) ?_
  have hFF : ∀ b, (F b ∨ Fin' b) → F b ∨ h.size ≤ b := fun b hb => hb.elim .inl (fun e => (hF' b e).imp (hs.2.2.2.2.2.2.2.2.1 b) id)
  rw [← hn.2]
  exact itpost_trans KP' hFF hp2
theorem c_FiPrev {χ : Chi} {ff : SpanD → Option SpanD} {fv : Value} {G0 : Nat → Prop} {Env : Heap → Prop} {W : List SpanD} {t : TypeId} {v0 : Value} {I : ItI} {c : Nat} {F : Nat → Prop} {h : Heap} {p : Pos}
    (hit : IterOK Try.prog χ W t v0 I) (hfn : FnOK χ W ff fv G0 Env) (hWn : ∀ s, s ∈ W → s.ks.length ≤ 100000) (hI : FIt ff W I t v0 fv c G0 Env p F h) (hc : canPrev p = true) :
    Cl Try.prog χ 165 #[.pointer (some ⟨c, 0, none⟩)] h (ItPost (W.filterMap ff) (FIt ff W I t v0 fv c G0 Env) F h (pPrev (W.filterMap ff) p)) := by
  obtain ⟨q, Fin, sv, ev, kv, kk, n, xs, hs, hrel⟩ := hI
  have Bc := hs.2.1
  have hn := bwd_prev hrel hc
  refine cl_intro Try.func165 rfl rfl rfl ?_
  have K : Keep [] h h := Keep.refl _ _
  refine tr_seq ?_
  refine tr_reg ?_
  refine rs_v (v_assign rfl) rfl ?_
  refine rs_nil ?_
  refine q_thn ?_
  refine tr_seq ?_
  refine tr_reg ?_
  refine rs_v (v_move rfl) rfl ?_
  refine rs_v (v_move rfl) rfl ?_
  refine rs_v (v_nilCheck_ptr rfl) rfl ?_
  refine rs_v (v_fieldAddr fa_keyspan_filteringIter_0 rfl) rfl ?_
  refine rs_v (v_load one_keyspan_FragmentIterator rfl (by exact Bc.cell _ rfl)) rfl ?_
  refine rs_w (w_mcall (vs := []) (hit.prev hs.1 hn.1) rfl trivial) rfl ?_
  rintro r1 h1 hp1
  obtain ⟨Fin', hs', hF', KP', hret'⟩ := fst_inner hit hfn hs hp1
  refine rs_w (w_call (vs := [_, _, _]) ok_keyspan_filteringIter_filter rfl ⟨rfl, rfl, rfl, trivial⟩ (c_filterB hit hfn hWn (in_prevq (rel_in hrel (fun e => by subst e; simp [canPrev] at hc)) hn.1) hs' hret')) rfl ?_
  rintro r2 h2 hp2
  refine rs_v (v_assign rfl) rfl ?_
  refine rs_nil ?_
  refine q_thn ?_
  refine tr_ret ?_
  refine q_ret (res_tmp rfl rfl) ?_
  have hFF : ∀ b, (F b ∨ Fin' b) → F b ∨ h.size ≤ b := fun b hb => hb.elim .inl (fun e => (hF' b e).imp (hs.2.2.2.2.2.2.2.2.1 b) id)
  rw [← hn.2]
  exact itpost_trans KP' hFF hp2
end Go.Proofs.Ytgebfbnndgjkiaa
