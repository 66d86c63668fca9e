/- Sixteenth part: a script over whatever stands for a list of spans. Conditions: those that each theorem names. -/
import Derived.Test.YtgebfbnndgjkiaaW15
set_option linter.unusedVariables false
set_option linter.unusedSimpArgs false
namespace Go.Proofs.Ytgebfbnndgjkiaa
open Go.Tess Go.RowKit
set_option maxRecDepth 100000
set_option maxHeartbeats 1000000
theorem rk_skip {h1 h2 h3 : Heap} {v : Value} {ks : List KeyD} {c : Nat} (hr : RKeys (Up N0 h1 h2) h2 v ks) (k0 : h1.size ≤ h2.size) (K : Keep [c] h2 h3) (hc : c < h1.size) : RKeys (Up N0 h1 h3) h3 v ks :=
  (hr.stab (K.stab fun b hb => ⟨(n0low h1).up k0 b hb, by
    rcases hb with hb | hb
    · exact hb.elim
    · simp; omega⟩)).mono (Up.grow K.1)

theorem c_walkSpans (χ : Chi) (h : Heap) (A : Nat → Prop) (hA : Low A h) (W : List SpanD) (t : TypeId) (v0 : Value) (I : ItI) (hit : IterOK Try.prog χ W t v0 I) (F0 : Nat → Prop) (hI0 : I .nowhere F0 h)
    (hAF : ∀ b, A b → ¬ F0 b) (sv : Value) (steps : List StepD) (hS : RSteps A h sv steps) (hsn : steps.length ≤ 1000) (hz : ∀ s, s ∈ steps → s.key.size ≤ 9223372036854775807) (hWn : ∀ s, s ∈ W → s.ks.length ≤ 100000) :
    Cl Try.prog χ 56 #[.iface t v0, sv] h (fun r h' => RAnss (Up N0 h h') h' r (walkP W .nowhere steps) ∧ KeepP F0 h h') := by
  obtain ⟨hlen, a, c, rfl, hx⟩ := hS.form
  refine cl_intro Try.func56 rfl rfl rfl ?_
  have K : Keep [] h h := Keep.refl _ _
  refine tr_seq ?_
  refine tr_reg ?_
  refine rs_v (v_assign rfl) rfl ?_
  refine rs_nil ?_
  refine q_thn ?_
  refine tr_seq ?_
  refine tr_reg ?_
  refine rs_v (v_assign rfl) rfl ?_
  refine rs_nil ?_
  refine q_thn ?_
  refine tr_seq ?_
  refine tr_reg ?_
  refine rs_v (v_assign rfl) rfl ?_
  refine rs_v (v_assign rfl) rfl ?_
  refine rs_nil ?_
  refine q_thn ?_
  refine tr_seq ?_
  refine tr_seq ?_
  refine tr_reg ?_
  refine rs_v (v_move rfl) rfl ?_
  refine rs_v (v_len u_sl_impl_Step rfl) rfl ?_
  refine rs_v (v_move rfl) rfl ?_
  refine rs_nil ?_
  refine q_thn ?_
  refine tr_block ?_
  refine tr_loop (fun m E h' => ∃ k v n ok last F, k ≤ steps.length ∧ m = steps.length - k ∧ E = [(0, .iface t v0), (5, v), (6, .bool ok), (7, .int .u8 last), (12, .slice a steps.length c), (13, .int .i64 (steps.length : Int)), (14, .int .i64 (k : Int))] ∧ I (endP W .nowhere (steps.take k)) F h' ∧ (∀ b, F b → F0 b ∨ h.size ≤ b) ∧ KeepP F0 h h' ∧ n = (walkP W .nowhere (steps.take k)).length ∧ OutD F h h' h.size 72 5 cAns v n (walkP W .nowhere (steps.take k)) ∧ okl W (endP W .nowhere (steps.take k)) ok last) steps.length [(0, _), (5, _), (6, _), (7, _), (12, _), (13, _), (14, _)] ⟨rfl, rfl, rfl, rfl, rfl, rfl, rfl, trivial⟩ ⟨0, _, 0, false, 0, F0, Nat.zero_le _, rfl, rfl, hI0, fun b hb => .inl hb, KeepP.refl _ _, rfl, OutD.nil _ _ _ _ _ _ _, .inr ⟨rfl, .inr (.inr ⟨rfl, .inl rfl⟩)⟩⟩ ?_
  rintro m E hL1 ⟨k, v, n, ok, last, F, hk, rfl, rfl, hI, hFF, KP, hn, hout, hok⟩
  have K := Keep.refl [] hL1
  have hout0 := hout
  have hlow := hit.low hI
  have hz0 := KP.1
  obtain ⟨xs, G, O, hOD, hrow, hG⟩ := hout
  have hob := own_ne O; have KL := Keep.refl [] hL1
  refine tr_seq ?_
  refine tr_reg ?_
  refine rs_v (v_lt rfl rfl) rfl ?_
  refine rs_nil ?_
  refine q_thn ?_
  refine tr_seq ?_
  refine tr_ifn rfl (fun hif => ?_) (fun hif => ?_)
  · -- no
    simp only [decide_eq_true_eq, decide_eq_false_iff_not] at hif
    have hkk : k = steps.length := by omega
    subst hkk
    refine tr_exit ?_
    refine q_thn_exit ?_
    refine q_lp_exit ?_
    refine q_blk_hit ?_
    refine q_thn ?_
    refine tr_seq ?_
    refine tr_reg ?_
    refine rs_v (v_move rfl) rfl ?_
    refine rs_v (v_assign rfl) rfl ?_
    refine rs_nil ?_
    refine q_thn ?_
    refine tr_ret ?_
    refine q_ret (res_tmp rfl rfl) ?_
    rw [List.take_length] at hout0 hn
    exact ⟨hout0.fin cAns_st hn (Nat.le_refl _) cAns_r, KP⟩
  -- yes
  simp only [decide_eq_true_eq, decide_eq_false_iff_not] at hif
  rcases hx with rfl | ⟨b, o, rfl, hAb, hR⟩
  · simp at hif; omega
  obtain ⟨s, hsk⟩ := ex_get (L := steps) (k := k) (by omega)
  have hkl : k < steps.length := (List.getElem?_eq_some_iff.1 hsk).1
  have hcells : CellsAt hL1 b (o + k * 2) s.cells := (KP.stab hA hAF).cells hAb (hR k s hsk)
  have hkz := hz s (List.mem_of_getElem? hsk)
  have hnk : n = k := by rw [hn, walkP_len, List.length_take]; omega
  generalize hp : endP W .nowhere (steps.take k) = p at *
  refine tr_skip ?_
  refine q_thn ?_
  refine tr_seq ?_
  refine tr_block ?_
  refine tr_seq ?_
  refine tr_reg ?_
  refine rs_v (v_indexAddrN u_sl_impl_Step siz_impl_Step rfl rfl (by omega)) rfl ?_
  refine rs_v (v_loadAgg (vs := [_, _]) many_impl_Step rfl (by exact hcells)) rfl ?_
  refine rs_w (w_new zero_impl_Step) rfl ?_
  rintro _ h2 ⟨rfl, B2, K2, Z2⟩
  have O := O.keep2 K2 (fun x hm => by have := hob x hm; simp; try omega)
  have S2 := K.1; have K := K.new0 K2; have KL := KL.new0 K2
  refine rs_w0 (w_put siz_impl_Step rfl rfl rfl rfl B2 rfl) ?_
  rintro _ h3 ⟨B3, K3⟩
  have O := O.keep2 K3 (fun x hm => by have := hob x hm; simp; try omega)
  have B2 := B3; have K := K.new1 K3 (by first | (right; omega) | (left; simp; done)); have Z3 := K3.1; have KL := KL.new1 K3 (.inr (by omega))
  refine rs_nil ?_
  refine q_thn ?_
  refine tr_seq ?_
  refine tr_seq ?_
  refine tr_reg ?_
  refine rs_v (v_fieldAddr fa_impl_Step_0 rfl) rfl ?_
  refine rs_v (v_load one_uint8 rfl (by exact B2.cell _ rfl)) rfl ?_
  refine rs_v (v_move rfl) rfl ?_
  refine rs_v (v_move rfl) rfl ?_
  refine rs_w (w_call (vs := [_, _, _]) ok_impl_taken rfl ⟨rfl, rfl, rfl, trivial⟩ (c_taken χ _ W p s ok last hok)) rfl ?_
  rintro _ h4 ⟨rfl, hsame⟩; have hsame := hsame.symm; subst hsame
  refine rs_v (v_not rfl) rfl ?_
  refine rs_nil ?_
  refine q_thn ?_
  refine tr_if rfl (fun hif => ?_) (fun hif => ?_)
  · -- yes
    have hst : stepP W p s = none := by simpa using hif
    refine tr_seq ?_
    refine tr_reg ?_
    refine rs_v (v_move rfl) rfl ?_
    refine rs_v (v_build0 (bld_impl_SpanAnswer_)) rfl ?_
    refine rs_w (w_new1 u_sl_impl_SpanAnswer siz_impl_SpanAnswer zero_impl_SpanAnswer rfl rfl rfl rfl rfl) rfl ?_
    rintro _ h5 ⟨rfl, B5, K5, Z5⟩
    have B2 := K5.blk (by simp) B2
    have O := O.keep2 K5 (fun x hm => by have := hob x hm; simp; try omega)
    have S5 := K.1; have K := K.new0 K5; have KL := KL.new0 K5
    refine rs_w (w_app1 u_sl_impl_SpanAnswer info_impl_SpanAnswer rfl rfl rfl O rfl rfl B5 rfl (by omega) (by omega) (by omega)) rfl ?_
    rintro v6 h6 ⟨O6, K6, N6, F6⟩
    have Ka := K6; have Oa := O6; have Fa := F6; have Z6 := K6.1
    have B2 := K6.blk (fun hm => by have := hob _ hm; omega) B2
    have B5 := K6.blk (fun hm => by have := hob _ hm; omega) B5
    refine rs_v (v_assign rfl) rfl ?_
    refine rs_nil ?_
    refine q_thn ?_
    refine tr_exit ?_
    refine q_thn_exit ?_
    refine q_blk_hit ?_
    refine q_thn ?_
    refine tr_reg ?_
    refine rs_v (v_add rfl rfl (by omega) (by omega)) rfl ?_
    refine rs_v (v_move rfl) rfl ?_
    refine rs_nil ?_
    refine q_lp (steps.length - (k + 1)) [(0, _), (5, _), (6, _), (7, _), (12, _), (13, _), (14, _)] (by omega) ⟨rfl, rfl, rfl, rfl, rfl, rfl, rfl, trivial⟩ ⟨k + 1, _, n + 1, _, _, F, by omega, rfl, rfl, ?_, hFF, ?_, ?_, ?_, ?_⟩
    · rw [take_snoc' hsk, endP_snoc, hp, hst]; exact hit.after hI KL Ka hOD
    · exact (KP.trans (KL.kp0 (F := fun _ => False)) (by simp)).trans (Ka.kp (F := fun x => h.size ≤ x) (fun x hx => (hob x hx).1)) (fun x hx => .inr hx)
    · rw [take_snoc' hsk, walkP_snoc, List.length_append, ← hn]; rfl
    · rw [take_snoc' hsk, walkP_snoc, hp, hst]
      exact OutD.snoc cAns_st (fun x hx => ⟨(hob x hx).1, by have := (hob x hx).2; omega⟩) hOD hrow hG hlow (by omega) KL Oa Ka Fa rfl (⟨_, rfl, SlR.nil _ _ _ _⟩)
    · rw [take_snoc' hsk, endP_snoc, hp, hst]; exact hok
  -- no
  have hst : ∃ pn, stepP W p s = some pn := by
    cases hs : stepP W p s with
    | none => rw [hs] at hif; simp at hif
    | some pn => exact ⟨pn, rfl⟩
  obtain ⟨pn, hst⟩ := hst
  refine tr_skip ?_
  refine q_thn ?_
  refine tr_seq ?_
  refine tr_reg ?_
  refine rs_v (v_assign rfl) rfl ?_
  refine rs_nil ?_
  refine q_thn ?_
  refine tr_cut (fun E h' => ∃ r F', E = [(0, .iface t v0), (5, v), (9, .pointer (some ⟨hL1.size, 0, none⟩)), (12, .slice (some ⟨b, o, none⟩) steps.length c), (13, .int .i64 (steps.length : Int)), (14, .int .i64 (k : Int)), (10, r)] ∧ I pn F' h' ∧ (∀ b, F' b → F b ∨ h3.size ≤ b) ∧ KeepP F h3 h' ∧ Ret W pn F' h' r) ?_ ?_
  ·
    refine tr_seq ?_
    refine tr_reg ?_
    refine rs_v (v_fieldAddr fa_impl_Step_0 rfl) rfl ?_
    refine rs_v (v_load one_uint8 rfl (by exact B2.cell _ rfl)) rfl ?_
    refine rs_nil ?_
    refine q_thn ?_
    refine tr_block ?_
    refine tr_seq ?_
    refine tr_reg ?_
    refine rs_v (v_eq rfl rfl) rfl ?_
    refine rs_v (v_assign rfl) rfl ?_
    refine rs_nil ?_
    refine q_thn ?_
    refine tr_if rfl (fun hif => ?_) (fun hif => ?_)
    · -- yes
      simp only [decide_eq_true_eq, decide_eq_false_iff_not] at hif
      have hpn : pFirst W = pn := by simpa [stepP, hif] using hst
      refine tr_reg ?_
      refine rs_v (v_move rfl) rfl ?_
      refine rs_w (w_mcall (vs := []) (hit.first (hit.stab hI (KL.st hlow) KL.1)) rfl trivial) rfl ?_
      rintro r7 h7 ⟨F', hI', hF', KPm, hret⟩
      refine rs_v (v_assign rfl) rfl ?_
      refine rs_nil ?_
      refine q_blk_n ?_
      refine q_cut [(0, _), (5, _), (9, _), (12, _), (13, _), (14, _), (10, _)] ⟨rfl, rfl, rfl, rfl, rfl, rfl, rfl, trivial⟩ ⟨_, F', rfl, (by rw [← hpn]; exact hI'), hF', KPm, (by rw [← hpn]; exact hret)⟩
    -- no
    simp only [decide_eq_true_eq, decide_eq_false_iff_not] at hif
    have hno0 := hif
    refine tr_seq ?_
    refine tr_reg ?_
    refine rs_v (v_eq rfl rfl) rfl ?_
    refine rs_v (v_assign rfl) rfl ?_
    refine rs_nil ?_
    refine q_thn ?_
    refine tr_if rfl (fun hif => ?_) (fun hif => ?_)
    · -- yes
      simp only [decide_eq_true_eq, decide_eq_false_iff_not] at hif
      have hpn : pLast W = pn := by simpa [stepP, hif] using hst
      refine tr_reg ?_
      refine rs_v (v_move rfl) rfl ?_
      refine rs_w (w_mcall (vs := []) (hit.last (hit.stab hI (KL.st hlow) KL.1)) rfl trivial) rfl ?_
      rintro r8 h8 ⟨F', hI', hF', KPm, hret⟩
      refine rs_v (v_assign rfl) rfl ?_
      refine rs_nil ?_
      refine q_blk_n ?_
      refine q_cut [(0, _), (5, _), (9, _), (12, _), (13, _), (14, _), (10, _)] ⟨rfl, rfl, rfl, rfl, rfl, rfl, rfl, trivial⟩ ⟨_, F', rfl, (by rw [← hpn]; exact hI'), hF', KPm, (by rw [← hpn]; exact hret)⟩
    -- no
    simp only [decide_eq_true_eq, decide_eq_false_iff_not] at hif
    have hno1 := hif
    refine tr_seq ?_
    refine tr_reg ?_
    refine rs_v (v_eq rfl rfl) rfl ?_
    refine rs_v (v_assign rfl) rfl ?_
    refine rs_nil ?_
    refine q_thn ?_
    refine tr_if rfl (fun hif => ?_) (fun hif => ?_)
    · -- yes
      simp only [decide_eq_true_eq, decide_eq_false_iff_not] at hif
      have hcan : canNext p = true ∧ pNext W p = pn := by simpa [stepP, hif] using hst
      have hpn := hcan.2
      refine tr_reg ?_
      refine rs_v (v_move rfl) rfl ?_
      refine rs_w (w_mcall (vs := []) (hit.next (hit.stab hI (KL.st hlow) KL.1) hcan.1) rfl trivial) rfl ?_
      rintro r9 h9 ⟨F', hI', hF', KPm, hret⟩
      refine rs_v (v_assign rfl) rfl ?_
      refine rs_nil ?_
      refine q_blk_n ?_
      refine q_cut [(0, _), (5, _), (9, _), (12, _), (13, _), (14, _), (10, _)] ⟨rfl, rfl, rfl, rfl, rfl, rfl, rfl, trivial⟩ ⟨_, F', rfl, (by rw [← hpn]; exact hI'), hF', KPm, (by rw [← hpn]; exact hret)⟩
    -- no
    simp only [decide_eq_true_eq, decide_eq_false_iff_not] at hif
    have hno2 := hif
    refine tr_seq ?_
    refine tr_reg ?_
    refine rs_v (v_eq rfl rfl) rfl ?_
    refine rs_v (v_assign rfl) rfl ?_
    refine rs_nil ?_
    refine q_thn ?_
    refine tr_if rfl (fun hif => ?_) (fun hif => ?_)
    · -- yes
      simp only [decide_eq_true_eq, decide_eq_false_iff_not] at hif
      have hcan : canPrev p = true ∧ pPrev W p = pn := by simpa [stepP, hif] using hst
      have hpn := hcan.2
      refine tr_reg ?_
      refine rs_v (v_move rfl) rfl ?_
      refine rs_w (w_mcall (vs := []) (hit.prev (hit.stab hI (KL.st hlow) KL.1) hcan.1) rfl trivial) rfl ?_
      rintro r10 h10 ⟨F', hI', hF', KPm, hret⟩
      refine rs_v (v_assign rfl) rfl ?_
      refine rs_nil ?_
      refine q_blk_n ?_
      refine q_cut [(0, _), (5, _), (9, _), (12, _), (13, _), (14, _), (10, _)] ⟨rfl, rfl, rfl, rfl, rfl, rfl, rfl, trivial⟩ ⟨_, F', rfl, (by rw [← hpn]; exact hI'), hF', KPm, (by rw [← hpn]; exact hret)⟩
    -- no
    simp only [decide_eq_true_eq, decide_eq_false_iff_not] at hif
    have hno3 := hif
    refine tr_seq ?_
    refine tr_reg ?_
    refine rs_v (v_eq rfl rfl) rfl ?_
    refine rs_v (v_assign rfl) rfl ?_
    refine rs_nil ?_
    refine q_thn ?_
    refine tr_if rfl (fun hif => ?_) (fun hif => ?_)
    · -- yes
      simp only [decide_eq_true_eq, decide_eq_false_iff_not] at hif
      have hpn : pGE W s.key = pn := by simpa [stepP, hif] using hst
      refine tr_reg ?_
      refine rs_v (v_move rfl) rfl ?_
      refine rs_v (v_fieldAddr fa_impl_Step_1 rfl) rfl ?_
      refine rs_v (v_load one_string rfl (by exact B2.cell _ rfl)) rfl ?_
      refine rs_w (w_bytes u_string u_sl_uint8 u_uint8 rfl (by omega)) rfl ?_
      rintro _ h11 ⟨c11, rfl, K11, hbk⟩
      have Kv := K11
      have B2 := K11.blk (by simp) B2
      have O := O.keep2 K11 (fun x hm => by have := hob x hm; simp; try omega)
      have K := K.new0 K11; have Z11 := K11.1; have KL := KL.new0 K11
      refine rs_w (w_mcall (vs := [_]) (hit.ge (key := s.key) (hit.stab hI (KL.st hlow) KL.1) (hbk.mono (fun b hb hf => by have := hlow b hf; omega))) rfl ⟨rfl, trivial⟩) rfl ?_
      rintro r12 h12 ⟨F', hI', hF', KPm, hret⟩
      refine rs_v (v_assign rfl) rfl ?_
      refine rs_nil ?_
      refine q_blk_n ?_
      refine q_cut [(0, _), (5, _), (9, _), (12, _), (13, _), (14, _), (10, _)] ⟨rfl, rfl, rfl, rfl, rfl, rfl, rfl, trivial⟩ ⟨_, F', rfl, (by rw [← hpn]; exact hI'), (fun b hb => (hF' b hb).imp id (fun h9 => by have := Kv.1; omega)), ((Kv.kp0).trans KPm (fun b hb => .inl hb)), (by rw [← hpn]; exact hret)⟩
    -- no
    simp only [decide_eq_true_eq, decide_eq_false_iff_not] at hif
    have hno4 := hif
    refine tr_seq ?_
    refine tr_reg ?_
    refine rs_v (v_eq rfl rfl) rfl ?_
    refine rs_v (v_assign rfl) rfl ?_
    refine rs_nil ?_
    refine q_thn ?_
    refine tr_if rfl (fun hif => ?_) (fun hif => ?_)
    · -- yes
      simp only [decide_eq_true_eq, decide_eq_false_iff_not] at hif
      have hpn : pLT W s.key = pn := by simpa [stepP, hif] using hst
      refine tr_reg ?_
      refine rs_v (v_move rfl) rfl ?_
      refine rs_v (v_fieldAddr fa_impl_Step_1 rfl) rfl ?_
      refine rs_v (v_load one_string rfl (by exact B2.cell _ rfl)) rfl ?_
      refine rs_w (w_bytes u_string u_sl_uint8 u_uint8 rfl (by omega)) rfl ?_
      rintro _ h13 ⟨c13, rfl, K13, hbk⟩
      have Kv := K13
      have B2 := K13.blk (by simp) B2
      have O := O.keep2 K13 (fun x hm => by have := hob x hm; simp; try omega)
      have K := K.new0 K13; have Z13 := K13.1; have KL := KL.new0 K13
      refine rs_w (w_mcall (vs := [_]) (hit.lt (key := s.key) (hit.stab hI (KL.st hlow) KL.1) (hbk.mono (fun b hb hf => by have := hlow b hf; omega))) rfl ⟨rfl, trivial⟩) rfl ?_
      rintro r14 h14 ⟨F', hI', hF', KPm, hret⟩
      refine rs_v (v_assign rfl) rfl ?_
      refine rs_nil ?_
      refine q_blk_n ?_
      refine q_cut [(0, _), (5, _), (9, _), (12, _), (13, _), (14, _), (10, _)] ⟨rfl, rfl, rfl, rfl, rfl, rfl, rfl, trivial⟩ ⟨_, F', rfl, (by rw [← hpn]; exact hI'), (fun b hb => (hF' b hb).imp id (fun h9 => by have := Kv.1; omega)), ((Kv.kp0).trans KPm (fun b hb => .inl hb)), (by rw [← hpn]; exact hret)⟩
    -- no
    simp only [decide_eq_true_eq, decide_eq_false_iff_not] at hif
    have hno5 := hif
    refine tr_skip ?_
    refine q_blk_n ?_
    exact absurd hst (by simp [stepP, hno0, hno1, hno2, hno3, hno4, hno5])
  rintro E hc ⟨r, F', rfl, hI', hF', KP', hret⟩
  have hlow' := hit.low hI'
  have hB2 : ¬ F hL1.size := fun hf => by have := hlow _ hf; omega
  have B2 := KP'.blk hB2 B2
  have hcz := KP'.1
  have hKL := KL.1
  have KP3 := (KP.trans (KL.kp0 (F := fun _ => False)) (by simp)).trans KP' hFF
  have hcz3 := KP3.1
  have hFF' : ∀ b, F' b → F0 b ∨ h.size ≤ b := fun b hb => (hF' b hb).elim (hFF b) (fun h9 => .inr (by omega))
  have hout4 := (hout0.move cAns_st KL.kp0 (fun b hb => Or.inl hb)).move cAns_st KP' hF'
  obtain ⟨xs, G, O, hOD, hrow, hG⟩ := hout4
  have K := Keep.refl [] hc
  have KL := Keep.refl [] hc
  obtain ⟨q, rfl, hq⟩ := hret.form
  have hst' : endP W .nowhere (steps.take (k + 1)) = pn := by rw [take_snoc' hsk, endP_snoc, hp, hst]; rfl
  have hwk : walkP W .nowhere (steps.take (k + 1)) = walkP W .nowhere (steps.take k) ++ [⟨true, (cur W pn).isSome, (cur W pn).getD zeroSpan⟩] := by rw [take_snoc' hsk, walkP_snoc, hp, hst]; rfl
  have hok' := okl_step hok hst
  refine tr_seq ?_
  refine tr_reg ?_
  refine rs_v (v_build1 rfl (bld_impl_SpanAnswer_0 _)) rfl ?_
  refine rs_w (w_new zero_impl_SpanAnswer) rfl ?_
  rintro _ h16 ⟨rfl, B16, K16, Z16⟩
  have B2 := K16.blk (by simp) B2
  have O := O.keep2 K16 (fun x hm => by have := hob x hm; simp; try omega)
  have S16 := K.1; have K := K.new0 K16; have KL := KL.new0 K16
  refine rs_w0 (w_put siz_impl_SpanAnswer rfl rfl rfl rfl B16 rfl) ?_
  rintro _ h17 ⟨B17, K17⟩
  have B2 := K17.blk (by simp; omega) B2
  have O := O.keep2 K17 (fun x hm => by have := hob x hm; simp; try omega)
  have B16 := B17; have K := K.new1 K17 (by first | (right; omega) | (left; simp; done)); have Z17 := K17.1; have KL := KL.new1 K17 (.inr (by omega))
  refine rs_nil ?_
  refine q_thn ?_
  refine tr_seq ?_
  refine tr_seq ?_
  refine tr_reg ?_
  refine rs_v (v_move rfl) rfl ?_
  refine rs_v (v_pne u_p_keyspan_Span rfl rfl) rfl ?_
  refine rs_nil ?_
  refine q_thn ?_
  refine tr_if rfl (fun hif => ?_) (fun hif => ?_)
  · -- yes
    rcases hq with ⟨rfl, _⟩ | ⟨sp, pb, po, rfl, hcur, hFp, hps⟩
    · simp at hif
    obtain ⟨sv, ev, kv, kk, hcell, r1, r2, r3⟩ := hps
    obtain ⟨a1, n1, c1, rfl⟩ := r1.form2
    obtain ⟨a2, n2, c2, rfl⟩ := r2.form2
    obtain ⟨a3, n3, c3, rfl⟩ := r3.form2
    refine tr_reg ?_
    refine rs_v (v_move rfl) rfl ?_
    refine rs_v (v_nilCheck_ptr rfl) rfl ?_
    refine rs_v (v_loadAgg (vs := [_, _, _, _]) many_keyspan_Span rfl (by exact K.cells (by simp) hcell)) rfl ?_
    refine rs_w (w_call (vs := [_]) ok_impl_plainSpan rfl ⟨rfl, trivial⟩ (c_plainSpan χ _ F' (hlow'.mono (by omega)) sp _ _ _ kk (r1.stab (K.st hlow')) (r2.stab (K.st hlow')) (r3.stab (K.st hlow')) (hWn sp (cur_mem hcur)))) rfl ?_
    rintro _ h18 ⟨⟨kv', rfl, hkv⟩, K18⟩
    obtain ⟨a4, c4, rfl⟩ := hkv.form2
    have Kp := K18
    have B2 := K18.blk (by simp) B2
    have B16 := K18.blk (by simp) B16
    have O := O.keep2 K18 (fun x hm => by have := hob x hm; simp; try omega)
    have K := K.new0 K18; have Z18 := K18.1; have KL := KL.new0 K18
    refine rs_v (v_fieldAddr fa_impl_SpanAnswer_1 rfl) rfl ?_
    refine rs_w0 (w_put siz_bool rfl rfl rfl rfl B16 rfl) ?_
    rintro _ h19 ⟨B19, K19⟩
    have B2 := K19.blk (by simp; omega) B2
    have O := O.keep2 K19 (fun x hm => by have := hob x hm; simp; try omega)
    have B16 := B19; have K := K.new1 K19 (by first | (right; omega) | (left; simp; done)); have Z19 := K19.1; have KL := KL.new1 K19 (.inr (by omega))
    refine rs_v (v_fieldAddr fa_impl_SpanAnswer_2 rfl) rfl ?_
    refine rs_w0 (w_put siz_impl_Span rfl rfl rfl rfl B16 rfl) ?_
    rintro _ h20 ⟨B20, K20⟩
    have B2 := K20.blk (by simp; omega) B2
    have O := O.keep2 K20 (fun x hm => by have := hob x hm; simp; try omega)
    have B16 := B20; have K := K.new1 K20 (by first | (right; omega) | (left; simp; done)); have Z20 := K20.1; have KL := KL.new1 K20 (.inr (by omega))
    refine rs_nil ?_
    refine q_thn ?_
    refine tr_seq ?_
    refine tr_quiet (by kernel_rfl) (by kernel_rfl) ?_
    refine rq_v (v_move rfl) ?_
    refine rq_v (v_pne u_p_keyspan_Span rfl rfl) ?_
    refine rq_v (v_fieldAddr fa_impl_Step_0 rfl) ?_
    refine rq_v (v_load one_uint8 rfl (by exact B2.cell _ rfl)) ?_
    refine rq_v (v_assign rfl) ?_
    refine rq_v (v_assign rfl) ?_
    refine rm_end ?_; simp only [endM, hypF, ofE, argE]
    refine q_thn ?_
    refine tr_reg ?_
    refine rs_v (v_move rfl) rfl ?_
    refine rs_v (v_loadAgg (vs := [_, _, _, _, _]) many_impl_SpanAnswer rfl (by exact B16.sub _ 5 rfl)) rfl ?_
    refine rs_w (w_new1 u_sl_impl_SpanAnswer siz_impl_SpanAnswer zero_impl_SpanAnswer rfl rfl rfl rfl rfl) rfl ?_
    rintro _ h21 ⟨rfl, B21, K21, Z21⟩
    have B2 := K21.blk (by simp) B2
    have B16 := K21.blk (by simp) B16
    have O := O.keep2 K21 (fun x hm => by have := hob x hm; simp; try omega)
    have S21 := K.1; have K := K.new0 K21; have KL := KL.new0 K21
    refine rs_w (w_app1 u_sl_impl_SpanAnswer info_impl_SpanAnswer rfl rfl rfl O rfl rfl B21 rfl (by omega) (by omega) (by omega)) rfl ?_
    rintro v22 h22 ⟨O22, K22, N22, F22⟩
    have Ka := K22; have Oa := O22; have Fa := F22; have Z22 := K22.1
    have B2 := K22.blk (fun hm => by have := hob _ hm; omega) B2
    have B16 := K22.blk (fun hm => by have := hob _ hm; omega) B16
    have B21 := K22.blk (fun hm => by have := hob _ hm; omega) B21
    refine rs_v (v_assign rfl) rfl ?_
    refine rs_nil ?_
    refine q_blk_n ?_
    refine q_thn ?_
    refine tr_reg ?_
    refine rs_v (v_add rfl rfl (by omega) (by omega)) rfl ?_
    refine rs_v (v_move rfl) rfl ?_
    refine rs_nil ?_
    refine q_lp (steps.length - (k + 1)) [(0, _), (5, _), (6, _), (7, _), (12, _), (13, _), (14, _)] (by omega) ⟨rfl, rfl, rfl, rfl, rfl, rfl, rfl, trivial⟩ ⟨k + 1, _, n + 1, _, _, F', by omega, rfl, rfl, ?_, hFF', ?_, ?_, ?_, ?_⟩
    · rw [hst']; exact hit.after hI' KL Ka hOD
    · exact (KP3.trans (KL.kp0 (F := fun _ => False)) (by simp)).trans (Ka.kp (F := fun x => h.size ≤ x) (fun x hx => (hob x hx).1)) (fun x hx => .inr hx)
    · rw [hwk, List.length_append, ← hn]; rfl
    · rw [hwk, hcur]
      exact OutD.snoc cAns_st (fun x hx => ⟨(hob x hx).1, by have := (hob x hx).2; omega⟩) hOD hrow hG hlow' (by omega) KL Oa Ka Fa rfl (⟨_, rfl, (upk (n0low _) (by omega) (rk_skip (rk_skip hkv Kp.1 K19 (by omega)) (by omega) K20 (by omega)) K21).mono (fun b hb => hb.elim (fun e => e.elim) (fun e => ⟨by omega, e.2⟩))⟩)
    · rw [hst']; rw [hcur] at hok'; exact hok'
  -- no
  rcases hq with ⟨rfl, hcur⟩ | ⟨sp, pb, po, rfl, _⟩
  rotate_left
  · simp at hif
  refine tr_skip ?_
  refine q_thn ?_
  refine tr_seq ?_
  refine tr_quiet (by kernel_rfl) (by kernel_rfl) ?_
  refine rq_v (v_move rfl) ?_
  refine rq_v (v_pne u_p_keyspan_Span rfl rfl) ?_
  refine rq_v (v_fieldAddr fa_impl_Step_0 rfl) ?_
  refine rq_v (v_load one_uint8 rfl (by exact B2.cell _ rfl)) ?_
  refine rq_v (v_assign rfl) ?_
  refine rq_v (v_assign rfl) ?_
  refine rm_end ?_; simp only [endM, hypF, ofE, argE]
  refine q_thn ?_
  refine tr_reg ?_
  refine rs_v (v_move rfl) rfl ?_
  refine rs_v (v_loadAgg (vs := [_, _, _, _, _]) many_impl_SpanAnswer rfl (by exact B16.sub _ 5 rfl)) rfl ?_
  refine rs_w (w_new1 u_sl_impl_SpanAnswer siz_impl_SpanAnswer zero_impl_SpanAnswer rfl rfl rfl rfl rfl) rfl ?_
  rintro _ h23 ⟨rfl, B23, K23, Z23⟩
  have B2 := K23.blk (by simp) B2
  have B16 := K23.blk (by simp) B16
  have O := O.keep2 K23 (fun x hm => by have := hob x hm; simp; try omega)
  have S23 := K.1; have K := K.new0 K23; have KL := KL.new0 K23
  refine rs_w (w_app1 u_sl_impl_SpanAnswer info_impl_SpanAnswer rfl rfl rfl O rfl rfl B23 rfl (by omega) (by omega) (by omega)) rfl ?_
  rintro v24 h24 ⟨O24, K24, N24, F24⟩
  have Ka := K24; have Oa := O24; have Fa := F24; have Z24 := K24.1
  have B2 := K24.blk (fun hm => by have := hob _ hm; omega) B2
  have B16 := K24.blk (fun hm => by have := hob _ hm; omega) B16
  have B23 := K24.blk (fun hm => by have := hob _ hm; omega) B23
  refine rs_v (v_assign rfl) rfl ?_
  refine rs_nil ?_
  refine q_blk_n ?_
  refine q_thn ?_
  refine tr_reg ?_
  refine rs_v (v_add rfl rfl (by omega) (by omega)) rfl ?_
  refine rs_v (v_move rfl) rfl ?_
  refine rs_nil ?_
  refine q_lp (steps.length - (k + 1)) [(0, _), (5, _), (6, _), (7, _), (12, _), (13, _), (14, _)] (by omega) ⟨rfl, rfl, rfl, rfl, rfl, rfl, rfl, trivial⟩ ⟨k + 1, _, n + 1, _, _, F', by omega, rfl, rfl, ?_, hFF', ?_, ?_, ?_, ?_⟩
  · rw [hst']; exact hit.after hI' KL Ka hOD
  · exact (KP3.trans (KL.kp0 (F := fun _ => False)) (by simp)).trans (Ka.kp (F := fun x => h.size ≤ x) (fun x hx => (hob x hx).1)) (fun x hx => .inr hx)
  · rw [hwk, List.length_append, ← hn]; rfl
  · rw [hwk, hcur]
    exact OutD.snoc cAns_st (fun x hx => ⟨(hob x hx).1, by have := (hob x hx).2; omega⟩) hOD hrow hG hlow' (by omega) KL Oa Ka Fa rfl (⟨_, rfl, SlR.nil _ _ _ _⟩)
  · rw [hst']; rw [hcur] at hok'; exact hok'
end Go.Proofs.Ytgebfbnndgjkiaa
