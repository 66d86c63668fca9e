/- Twenty-ninth part: what the laws ask of their input; answers of one script. Conditions: those that each theorem names. -/
import Derived.Test.YtgebfbnndgjkiaaW28
set_option linter.unusedVariables false
set_option linter.unusedSimpArgs false
namespace Go.Proofs.Ytgebfbnndgjkiaa
open Go.Tess Go.RowKit
set_option maxRecDepth 100000
set_option maxHeartbeats 1000000
theorem bsplit2 (a : Bool) : a = true ∨ a = false := Bool.eq_false_or_eq_true a
theorem bsplit3 (a b : Bool) : a = true ∨ (a = false ∧ b = true) ∨ (a = false ∧ b = false) := by cases a <;> cases b <;> simp
theorem bsplit4 (a b c : Bool) : a = true ∨ (a = false ∧ b = true) ∨ (a = false ∧ b = false ∧ c = true) ∨ (a = false ∧ b = false ∧ c = false) := by cases a <;> cases b <;> cases c <;> simp
theorem bsplit5 (a b c d : Bool) : a = true ∨ (a = false ∧ b = true) ∨ (a = false ∧ b = false ∧ c = true) ∨ (a = false ∧ b = false ∧ c = false ∧ d = true) ∨ (a = false ∧ b = false ∧ c = false ∧ d = false) := by cases a <;> cases b <;> cases c <;> cases d <;> simp
theorem bsplit6 (a b c d e : Bool) : a = true ∨ (a = false ∧ b = true) ∨ (a = false ∧ b = false ∧ c = true) ∨ (a = false ∧ b = false ∧ c = false ∧ d = true) ∨ (a = false ∧ b = false ∧ c = false ∧ d = false ∧ e = true) ∨ (a = false ∧ b = false ∧ c = false ∧ d = false ∧ e = false) := by cases a <;> cases b <;> cases c <;> cases d <;> cases e <;> simp
theorem desc_pair : ∀ (ks : List KeyD), descB ks = true ↔ ks.Pairwise (fun a b => b.tr ≤ a.tr)
  | [] => by simp [descB, chainB]
  | [a] => by simp [descB, chainB]
  | a :: b :: l => by
    have ih := desc_pair (b :: l)
    simp only [descB, chainB, Bool.and_eq_true, decide_eq_true_eq] at ih ⊢
    rw [ih, List.pairwise_cons (a := a)]
    constructor
    · rintro ⟨h1, h2⟩
      refine ⟨fun x hx => ?_, h2⟩
      rcases List.mem_cons.1 hx with rfl | hx
      · exact h1
      · exact Int.le_trans ((List.pairwise_cons.1 h2).1 x hx) h1
    · rintro ⟨h1, h2⟩
      exact ⟨h1 b (by simp), h2⟩
structure Good (W : List SpanD) : Prop where
  len : W.length ≤ 40
  full : ∀ s, s ∈ W → slt s.s s.e = true ∧ s.ks ≠ [] ∧ descB s.ks = true ∧ s.ks.length ≤ 40
  small : ∀ s, s ∈ W → SpanD.small s
  ord : Tess.Ord W
theorem Good.few {W : List SpanD} (h : Good W) : ∀ s, s ∈ W → few s := fun s hs => by have := (h.full s hs).2.2.2; unfold Go.Proofs.Ytgebfbnndgjkiaa.few; omega
theorem Good.n {W : List SpanD} (h : Good W) : W.length ≤ 100000 := by have := h.len; omega
theorem good_of {W : List SpanD} {n : Int} (hn : n ≤ 40) (h4 : fit4 W = true) (hm : (mostB W n && wellB W) = true) : Good W ∧ (W.length : Int) ≤ n := by
  simp only [fit4, mostB, wellB, Bool.and_eq_true, List.all_eq_true, decide_eq_true_eq] at h4 hm
  obtain ⟨⟨hm1, hm2⟩, hw1, hw2⟩ := hm
  have hfull : ∀ s, s ∈ W → slt s.s s.e = true ∧ s.ks ≠ [] ∧ descB s.ks = true ∧ s.ks.length ≤ 40 := fun s hs => by
    have := hw1 s hs
    simp only [fullB, Bool.and_eq_true, decide_eq_true_eq] at this
    exact ⟨this.1, fun e => by rw [e] at this; simp at this, this.2.2, hm1 s hs⟩
  refine ⟨⟨by omega, hfull, fun s hs => ?_, ⟨fun s hs => (hfull s hs).1, fun i a b ha hb => (chainB_iff _ W).1 hw2 i a b ha hb⟩⟩, hm2⟩
  have h5 := h4.2 s hs
  simp only [fit5, fit6, Bool.and_eq_true, List.all_eq_true, decide_eq_true_eq, MX] at h5
  refine ⟨by omega, by omega, by have := hm1 s hs; omega, fun k hk => ?_⟩
  have h7 := h5.2.2 k hk
  simp only [fit7, Bool.and_eq_true, decide_eq_true_eq, MX] at h7
  exact ⟨by omega, by omega⟩
theorem fit8_small {l : List StepD} (h : fit8 l = true) : ∀ s, s ∈ l → s.key.size ≤ 9223372036854775807 := fun s hs => by
  simp only [fit8, Bool.and_eq_true, List.all_eq_true] at h
  have := h.2 s hs
  simp only [fit9, decide_eq_true_eq, MX] at this
  omega
theorem ansOf_mem {W : List SpanD} {q : Option Pos} (h : (ansOf W q).ok = true) : (ansOf W q).sp ∈ W := by
  obtain ⟨j, sp, rfl, hj, ha⟩ := ans_ok h
  rw [ha]; exact List.mem_of_getElem? hj
theorem walkP_mem {W : List SpanD} : ∀ (l : List StepD) (p : Pos) a, a ∈ walkP W p l → a.ok = true → a.sp ∈ W
  | [], p, a, h, _ => by simp [walkP] at h
  | s :: l, p, a, h, ho => by
    simp only [walkP, List.mem_cons] at h
    rcases h with rfl | h
    · exact ansOf_mem ho
    · exact walkP_mem l _ a h ho
theorem ansLike_walk {W : List SpanD} (h : ∀ s, s ∈ W → descB s.ks = true ∧ few s) (p : Pos) (l : List StepD) : AnsLike (walkP W p l) (walkP W p l) :=
  ⟨rfl, fun i a b ha hb => by
    rw [ha] at hb; cases hb
    exact ⟨rfl, rfl, fun ho => by
      have hm := h _ (walkP_mem l p a (List.mem_of_getElem? ha) ho)
      exact ⟨Like.refl (by simpa using hm.1), hm.2, hm.2⟩⟩⟩

theorem c_spanWell_t (χ : Chi) (h : Heap) (A : Nat → Prop) (hA : Low A h) (v : Value) (W : List SpanD) (n : Int) (hW : RSpans A h v W) (hq : mostB W n = true) :
    Cl Try.prog χ 14 #[v, .int .i64 n] h (fun r h' => r = .bool (mostB W n && wellB W) ∧ Keep [] h h') := by
  refine cl_intro Try.func14 rfl rfl rfl ?_
  have K : Keep [] h h := Keep.refl _ _
  refine tr_seq ?_
  refine tr_reg ?_
  refine rs_v (v_assign rfl) rfl ?_
  refine rs_nil ?_
  refine q_thn ?_
  refine tr_seq ?_
  refine tr_reg ?_
  refine rs_v (v_move rfl) rfl ?_
  refine rs_v (v_move rfl) rfl ?_
  refine rs_w (w_call (vs := [_, _]) ok_laws_spanMost rfl ⟨rfl, rfl, trivial⟩ (c_spanMost χ h A _ W n hW)) rfl ?_
  rintro _ h1 ⟨rfl, K1⟩
  have K := K.new0 K1; have Z1 := K1.1
  refine rs_v (v_move rfl) rfl ?_
  refine rs_gv rfl (lkb hq) (v_move rfl) rfl ?_
  refine rs_gw rfl (lkb hq) (w_call (vs := [_]) ok_spec_SpanWell rfl ⟨rfl, trivial⟩ (c_SpanWell χ _ A (hA.mono K.1) _ W (hW.stab (K.st hA)))) rfl ?_
  rintro _ h2 ⟨rfl, K2⟩
  have K := K.new0 K2; have Z2 := K2.1
  refine rs_v (v_pick_t (lkb hq) rfl) rfl ?_
  refine rs_v (v_assign rfl) rfl ?_
  refine rs_nil ?_
  refine q_thn ?_
  refine tr_ret ?_
  refine q_ret (res_tmp rfl rfl) ?_
  exact ⟨by rw [hq]; rfl, K⟩
theorem c_spanWell_f (χ : Chi) (h : Heap) (A : Nat → Prop) (hA : Low A h) (v : Value) (W : List SpanD) (n : Int) (hW : RSpans A h v W) (hq : mostB W n = false) :
    Cl Try.prog χ 14 #[v, .int .i64 n] h (fun r h' => r = .bool (mostB W n && wellB W) ∧ Keep [] h h') := by
  refine cl_intro Try.func14 rfl rfl rfl ?_
  have K : Keep [] h h := Keep.refl _ _
  refine tr_seq ?_
  refine tr_reg ?_
  refine rs_v (v_assign rfl) rfl ?_
  refine rs_nil ?_
  refine q_thn ?_
  refine tr_seq ?_
  refine tr_reg ?_
  refine rs_v (v_move rfl) rfl ?_
  refine rs_v (v_move rfl) rfl ?_
  refine rs_w (w_call (vs := [_, _]) ok_laws_spanMost rfl ⟨rfl, rfl, trivial⟩ (c_spanMost χ h A _ W n hW)) rfl ?_
  rintro _ h1 ⟨rfl, K1⟩
  have K := K.new0 K1; have Z1 := K1.1
  refine rs_v (v_move rfl) rfl ?_
  refine rs_gs rfl (lkb hq) rfl rfl ?_
  refine rs_gs rfl (lkb hq) rfl rfl ?_
  refine rs_v (v_pick_f (lkb hq) rfl) rfl ?_
  refine rs_v (v_assign rfl) rfl ?_
  refine rs_nil ?_
  refine q_thn ?_
  refine tr_ret ?_
  refine q_ret (res_tmp rfl rfl) ?_
  exact ⟨by rw [hq]; rfl, K⟩
theorem c_spanWell (χ : Chi) (h : Heap) (A : Nat → Prop) (hA : Low A h) (v : Value) (W : List SpanD) (n : Int) (hW : RSpans A h v W) :
    Cl Try.prog χ 14 #[v, .int .i64 n] h (fun r h' => r = .bool (mostB W n && wellB W) ∧ Keep [] h h') := by
  rcases bsplit2 (mostB W n) with hq | hq
  · exact c_spanWell_t χ h A hA v W n hW hq
  · exact c_spanWell_f χ h A hA v W n hW hq
end Go.Proofs.Ytgebfbnndgjkiaa
