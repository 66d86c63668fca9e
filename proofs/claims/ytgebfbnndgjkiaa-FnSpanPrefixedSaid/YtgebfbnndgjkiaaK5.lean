/- Texts W36 to W44, laid together by a program of ours. Conditions: those that each theorem names. -/
import Derived.Test.YtgebfbnndgjkiaaK4
set_option linter.unusedVariables false
set_option linter.unusedSimpArgs false
set_option linter.unusedSectionVars false
/- Thirty-sixth part: iterators that may be asked only for some steps; a script on one. Conditions: those that each theorem names. -/
namespace Go.Proofs.Ytgebfbnndgjkiaa
open Go.Tess Go.RowKit
set_option maxRecDepth 100000
set_option maxHeartbeats 1000000
/-- An iterator that stands for a list, where only the steps that Al lets are asked for. -/
structure IterA (P : Program) (χ : Chi) (W : List SpanD) (t : TypeId) (v : Value) (I : ItI) (Al : StepD → Prop) : Prop where
  low : ∀ {p F h}, I p F h → Low F h
  stab : ∀ {p F h h'}, I p F h → Stab F h h' → h.size ≤ h'.size → I p F h'
  first : ∀ {p F h} {s : StepD}, s.op = 0 → Al s → I p F h → MCall P χ t v "First" [] h (ItPost W I F h (pFirst W))
  last : ∀ {p F h} {s : StepD}, s.op = 1 → Al s → I p F h → MCall P χ t v "Last" [] h (ItPost W I F h (pLast W))
  next : ∀ {p F h} {s : StepD}, s.op = 2 → Al s → I p F h → canNext p = true → MCall P χ t v "Next" [] h (ItPost W I F h (pNext W p))
  prev : ∀ {p F h} {s : StepD}, s.op = 3 → Al s → I p F h → canPrev p = true → MCall P χ t v "Prev" [] h (ItPost W I F h (pPrev W p))
  ge : ∀ {p F h kv} {s : StepD}, s.op = 4 → Al s → I p F h → RBytes (fun b => ¬ F b) h kv s.key → MCall P χ t v "SeekGE" [kv] h (ItPost W I F h (pGE W s.key))
  lt : ∀ {p F h kv} {s : StepD}, s.op = 5 → Al s → I p F h → RBytes (fun b => ¬ F b) h kv s.key → MCall P χ t v "SeekLT" [kv] h (ItPost W I F h (pLT W s.key))
theorem IterA.after {P : Program} {χ : Chi} {W : List SpanD} {t : TypeId} {v : Value} {I : ItI} {Al : StepD → Prop} (ok : IterA P χ W t v I Al) {p : Pos} {F : Nat → Prop} {h4 h7 h8 : Heap} {X : List Nat} (hI : I p F h4) (K : Keep [] h4 h7) (K8 : Keep X h7 h8) (hX : ∀ x, x ∈ X → ¬ F x) : I p F h8 :=
  ok.stab hI (fun b hb => (K8.2 b (Nat.lt_of_lt_of_le (ok.low hI b hb) K.1) (fun hm => hX b hm hb)).trans (K.2 b (ok.low hI b hb) (by simp))) (Nat.le_trans K.1 K8.1)

theorem c_walkSpansA (χ : Chi) (h : Heap) (A : Nat → Prop) (hA : Low A h) (W : List SpanD) (t : TypeId) (v0 : Value) (I : ItI) (Al : StepD → Prop) (hit : IterA Try.prog χ W t v0 I Al) (F0 : Nat → Prop) (hI0 : I .nowhere F0 h)
    (hAF : ∀ b, A b → ¬ F0 b) (sv : Value) (steps : List StepD) (hS : RSteps A h sv steps) (hsn : steps.length ≤ 1000) (hz : ∀ s, s ∈ steps → s.key.size ≤ 9223372036854775807) (hAl : ∀ s, s ∈ steps → Al s) (hWn : ∀ s, s ∈ W → s.ks.length ≤ 100000) :
    Cl Try.prog χ 56 #[.iface t v0, sv] h (fun r h' => RAnss (Up N0 h h') h' r (walkP W .nowhere steps) ∧ KeepP F0 h h') := by
  obtain ⟨hlen, a, c, rfl, hx⟩ := hS.form
  refine cl_intro Try.func56 rfl rfl rfl ?_
  have K : Keep [] h h := Keep.refl _ _
  refine tr_seq ?_
  refine tr_reg ?_
  refine rs_v (v_assign rfl) rfl ?_
  refine rs_nil ?_
  refine q_thn ?_
  refine tr_seq ?_
  refine tr_reg ?_
  refine rs_v (v_assign rfl) rfl ?_
  refine rs_nil ?_
  refine q_thn ?_
  refine tr_seq ?_
  refine tr_reg ?_
  refine rs_v (v_assign rfl) rfl ?_
  refine rs_v (v_assign rfl) rfl ?_
  refine rs_nil ?_
  refine q_thn ?_
  refine tr_seq ?_
  refine tr_seq ?_
  refine tr_reg ?_
  refine rs_v (v_move rfl) rfl ?_
  refine rs_v (v_len u_sl_impl_Step rfl) rfl ?_
  refine rs_v (v_move rfl) rfl ?_
  refine rs_nil ?_
  refine q_thn ?_
  refine tr_block ?_
  refine tr_loop (fun m E h' => ∃ k v n ok last F, k ≤ steps.length ∧ m = steps.length - k ∧ E = [(0, .iface t v0), (5, v), (6, .bool ok), (7, .int .u8 last), (12, .slice a steps.length c), (13, .int .i64 (steps.length : Int)), (14, .int .i64 (k : Int))] ∧ I (endP W .nowhere (steps.take k)) F h' ∧ (∀ b, F b → F0 b ∨ h.size ≤ b) ∧ KeepP F0 h h' ∧ n = (walkP W .nowhere (steps.take k)).length ∧ OutD F h h' h.size 72 5 cAns v n (walkP W .nowhere (steps.take k)) ∧ okl W (endP W .nowhere (steps.take k)) ok last) steps.length [(0, _), (5, _), (6, _), (7, _), (12, _), (13, _), (14, _)] ⟨rfl, rfl, rfl, rfl, rfl, rfl, rfl, trivial⟩ ⟨0, _, 0, false, 0, F0, Nat.zero_le _, rfl, rfl, hI0, fun b hb => .inl hb, KeepP.refl _ _, rfl, OutD.nil _ _ _ _ _ _ _, .inr ⟨rfl, .inr (.inr ⟨rfl, .inl rfl⟩)⟩⟩ ?_
  rintro m E hL1 ⟨k, v, n, ok, last, F, hk, rfl, rfl, hI, hFF, KP, hn, hout, hok⟩
  have K := Keep.refl [] hL1
  have hout0 := hout
  have hlow := hit.low hI
  have hz0 := KP.1
  obtain ⟨xs, G, O, hOD, hrow, hG⟩ := hout
  have hob := own_ne O; have KL := Keep.refl [] hL1
  refine tr_seq ?_
  refine tr_reg ?_
  refine rs_v (v_lt rfl rfl) rfl ?_
  refine rs_nil ?_
  refine q_thn ?_
  refine tr_seq ?_
  refine tr_ifn rfl (fun hif => ?_) (fun hif => ?_)
  · -- no
    simp only [decide_eq_true_eq, decide_eq_false_iff_not] at hif
    have hkk : k = steps.length := by omega
    subst hkk
    refine tr_exit ?_
    refine q_thn_exit ?_
    refine q_lp_exit ?_
    refine q_blk_hit ?_
    refine q_thn ?_
    refine tr_seq ?_
    refine tr_reg ?_
    refine rs_v (v_move rfl) rfl ?_
    refine rs_v (v_assign rfl) rfl ?_
    refine rs_nil ?_
    refine q_thn ?_
    refine tr_ret ?_
    refine q_ret (res_tmp rfl rfl) ?_
    rw [List.take_length] at hout0 hn
    exact ⟨hout0.fin cAns_st hn (Nat.le_refl _) cAns_r, KP⟩
  -- yes
  simp only [decide_eq_true_eq, decide_eq_false_iff_not] at hif
  rcases hx with rfl | ⟨b, o, rfl, hAb, hR⟩
  · simp at hif; omega
  obtain ⟨s, hsk⟩ := ex_get (L := steps) (k := k) (by omega)
  have hkl : k < steps.length := (List.getElem?_eq_some_iff.1 hsk).1
  have hcells : CellsAt hL1 b (o + k * 2) s.cells := (KP.stab hA hAF).cells hAb (hR k s hsk)
  have hkz := hz s (List.mem_of_getElem? hsk)
  have hnk : n = k := by rw [hn, walkP_len, List.length_take]; omega
  generalize hp : endP W .nowhere (steps.take k) = p at *
  refine tr_skip ?_
  refine q_thn ?_
  refine tr_seq ?_
  refine tr_block ?_
  refine tr_seq ?_
  refine tr_reg ?_
  refine rs_v (v_indexAddrN u_sl_impl_Step siz_impl_Step rfl rfl (by omega)) rfl ?_
  refine rs_v (v_loadAgg (vs := [_, _]) many_impl_Step rfl (by exact hcells)) rfl ?_
  refine rs_w (w_new zero_impl_Step) rfl ?_
  rintro _ h2 ⟨rfl, B2, K2, Z2⟩
  have O := O.keep2 K2 (fun x hm => by have := hob x hm; simp; try omega)
  have S2 := K.1; have K := K.new0 K2; have KL := KL.new0 K2
  refine rs_w0 (w_put siz_impl_Step rfl rfl rfl rfl B2 rfl) ?_
  rintro _ h3 ⟨B3, K3⟩
  have O := O.keep2 K3 (fun x hm => by have := hob x hm; simp; try omega)
  have B2 := B3; have K := K.new1 K3 (by first | (right; omega) | (left; simp; done)); have Z3 := K3.1; have KL := KL.new1 K3 (.inr (by omega))
  refine rs_nil ?_
  refine q_thn ?_
  refine tr_seq ?_
  refine tr_seq ?_
  refine tr_reg ?_
  refine rs_v (v_fieldAddr fa_impl_Step_0 rfl) rfl ?_
  refine rs_v (v_load one_uint8 rfl (by exact B2.cell _ rfl)) rfl ?_
  refine rs_v (v_move rfl) rfl ?_
  refine rs_v (v_move rfl) rfl ?_
  refine rs_w (w_call (vs := [_, _, _]) ok_impl_taken rfl ⟨rfl, rfl, rfl, trivial⟩ (c_taken χ _ W p s ok last hok)) rfl ?_
  rintro _ h4 ⟨rfl, hsame⟩; have hsame := hsame.symm; subst hsame
  refine rs_v (v_not rfl) rfl ?_
  refine rs_nil ?_
  refine q_thn ?_
  refine tr_if rfl (fun hif => ?_) (fun hif => ?_)
  · -- yes
    have hst : stepP W p s = none := by simpa using hif
    refine tr_seq ?_
    refine tr_reg ?_
    refine rs_v (v_move rfl) rfl ?_
    refine rs_v (v_build0 (bld_impl_SpanAnswer_)) rfl ?_
    refine rs_w (w_new1 u_sl_impl_SpanAnswer siz_impl_SpanAnswer zero_impl_SpanAnswer rfl rfl rfl rfl rfl) rfl ?_
    rintro _ h5 ⟨rfl, B5, K5, Z5⟩
    have B2 := K5.blk (by simp) B2
    have O := O.keep2 K5 (fun x hm => by have := hob x hm; simp; try omega)
    have S5 := K.1; have K := K.new0 K5; have KL := KL.new0 K5
    refine rs_w (w_app1 u_sl_impl_SpanAnswer info_impl_SpanAnswer rfl rfl rfl O rfl rfl B5 rfl (by omega) (by omega) (by omega)) rfl ?_
    rintro v6 h6 ⟨O6, K6, N6, F6⟩
    have Ka := K6; have Oa := O6; have Fa := F6; have Z6 := K6.1
    have B2 := K6.blk (fun hm => by have := hob _ hm; omega) B2
    have B5 := K6.blk (fun hm => by have := hob _ hm; omega) B5
    refine rs_v (v_assign rfl) rfl ?_
    refine rs_nil ?_
    refine q_thn ?_
    refine tr_exit ?_
    refine q_thn_exit ?_
    refine q_blk_hit ?_
    refine q_thn ?_
    refine tr_reg ?_
    refine rs_v (v_add rfl rfl (by omega) (by omega)) rfl ?_
    refine rs_v (v_move rfl) rfl ?_
    refine rs_nil ?_
    refine q_lp (steps.length - (k + 1)) [(0, _), (5, _), (6, _), (7, _), (12, _), (13, _), (14, _)] (by omega) ⟨rfl, rfl, rfl, rfl, rfl, rfl, rfl, trivial⟩ ⟨k + 1, _, n + 1, _, _, F, by omega, rfl, rfl, ?_, hFF, ?_, ?_, ?_, ?_⟩
    · rw [take_snoc' hsk, endP_snoc, hp, hst]; exact hit.after hI KL Ka hOD
    · exact (KP.trans (KL.kp0 (F := fun _ => False)) (by simp)).trans (Ka.kp (F := fun x => h.size ≤ x) (fun x hx => (hob x hx).1)) (fun x hx => .inr hx)
    · rw [take_snoc' hsk, walkP_snoc, List.length_append, ← hn]; rfl
    · rw [take_snoc' hsk, walkP_snoc, hp, hst]
      exact OutD.snoc cAns_st (fun x hx => ⟨(hob x hx).1, by have := (hob x hx).2; omega⟩) hOD hrow hG hlow (by omega) KL Oa Ka Fa rfl (⟨_, rfl, SlR.nil _ _ _ _⟩)
    · rw [take_snoc' hsk, endP_snoc, hp, hst]; exact hok
  -- no
  have hst : ∃ pn, stepP W p s = some pn := by
    cases hs : stepP W p s with
    | none => rw [hs] at hif; simp at hif
    | some pn => exact ⟨pn, rfl⟩
  obtain ⟨pn, hst⟩ := hst
  refine tr_skip ?_
  refine q_thn ?_
  refine tr_seq ?_
  refine tr_reg ?_
  refine rs_v (v_assign rfl) rfl ?_
  refine rs_nil ?_
  refine q_thn ?_
  refine tr_cut (fun E h' => ∃ r F', E = [(0, .iface t v0), (5, v), (9, .pointer (some ⟨hL1.size, 0, none⟩)), (12, .slice (some ⟨b, o, none⟩) steps.length c), (13, .int .i64 (steps.length : Int)), (14, .int .i64 (k : Int)), (10, r)] ∧ I pn F' h' ∧ (∀ b, F' b → F b ∨ h3.size ≤ b) ∧ KeepP F h3 h' ∧ Ret W pn F' h' r) ?_ ?_
  ·
    refine tr_seq ?_
    refine tr_reg ?_
    refine rs_v (v_fieldAddr fa_impl_Step_0 rfl) rfl ?_
    refine rs_v (v_load one_uint8 rfl (by exact B2.cell _ rfl)) rfl ?_
    refine rs_nil ?_
    refine q_thn ?_
    refine tr_block ?_
    refine tr_seq ?_
    refine tr_reg ?_
    refine rs_v (v_eq rfl rfl) rfl ?_
    refine rs_v (v_assign rfl) rfl ?_
    refine rs_nil ?_
    refine q_thn ?_
    refine tr_if rfl (fun hif => ?_) (fun hif => ?_)
    · -- yes
      simp only [decide_eq_true_eq, decide_eq_false_iff_not] at hif
      have hpn : pFirst W = pn := by simpa [stepP, hif] using hst
      have hop2 := hif
      refine tr_reg ?_
      refine rs_v (v_move rfl) rfl ?_
      refine rs_w (w_mcall (vs := []) (hit.first (s := s) hop2 (hAl s (List.mem_of_getElem? hsk)) (hit.stab hI (KL.st hlow) KL.1)) rfl trivial) rfl ?_
      rintro r7 h7 ⟨F', hI', hF', KPm, hret⟩
      refine rs_v (v_assign rfl) rfl ?_
      refine rs_nil ?_
      refine q_blk_n ?_
      refine q_cut [(0, _), (5, _), (9, _), (12, _), (13, _), (14, _), (10, _)] ⟨rfl, rfl, rfl, rfl, rfl, rfl, rfl, trivial⟩ ⟨_, F', rfl, (by rw [← hpn]; exact hI'), hF', KPm, (by rw [← hpn]; exact hret)⟩
    -- no
    simp only [decide_eq_true_eq, decide_eq_false_iff_not] at hif
    have hno0 := hif
    refine tr_seq ?_
    refine tr_reg ?_
    refine rs_v (v_eq rfl rfl) rfl ?_
    refine rs_v (v_assign rfl) rfl ?_
    refine rs_nil ?_
    refine q_thn ?_
    refine tr_if rfl (fun hif => ?_) (fun hif => ?_)
    · -- yes
      simp only [decide_eq_true_eq, decide_eq_false_iff_not] at hif
      have hpn : pLast W = pn := by simpa [stepP, hif] using hst
      have hop3 := hif
      refine tr_reg ?_
      refine rs_v (v_move rfl) rfl ?_
      refine rs_w (w_mcall (vs := []) (hit.last (s := s) hop3 (hAl s (List.mem_of_getElem? hsk)) (hit.stab hI (KL.st hlow) KL.1)) rfl trivial) rfl ?_
      rintro r8 h8 ⟨F', hI', hF', KPm, hret⟩
      refine rs_v (v_assign rfl) rfl ?_
      refine rs_nil ?_
      refine q_blk_n ?_
      refine q_cut [(0, _), (5, _), (9, _), (12, _), (13, _), (14, _), (10, _)] ⟨rfl, rfl, rfl, rfl, rfl, rfl, rfl, trivial⟩ ⟨_, F', rfl, (by rw [← hpn]; exact hI'), hF', KPm, (by rw [← hpn]; exact hret)⟩
    -- no
    simp only [decide_eq_true_eq, decide_eq_false_iff_not] at hif
    have hno1 := hif
    refine tr_seq ?_
    refine tr_reg ?_
    refine rs_v (v_eq rfl rfl) rfl ?_
    refine rs_v (v_assign rfl) rfl ?_
    refine rs_nil ?_
    refine q_thn ?_
    refine tr_if rfl (fun hif => ?_) (fun hif => ?_)
    · -- yes
      simp only [decide_eq_true_eq, decide_eq_false_iff_not] at hif
      have hcan : canNext p = true ∧ pNext W p = pn := by simpa [stepP, hif] using hst
      have hpn := hcan.2
      have hop4 := hif
      refine tr_reg ?_
      refine rs_v (v_move rfl) rfl ?_
      refine rs_w (w_mcall (vs := []) (hit.next (s := s) hop4 (hAl s (List.mem_of_getElem? hsk)) (hit.stab hI (KL.st hlow) KL.1) hcan.1) rfl trivial) rfl ?_
      rintro r9 h9 ⟨F', hI', hF', KPm, hret⟩
      refine rs_v (v_assign rfl) rfl ?_
      refine rs_nil ?_
      refine q_blk_n ?_
      refine q_cut [(0, _), (5, _), (9, _), (12, _), (13, _), (14, _), (10, _)] ⟨rfl, rfl, rfl, rfl, rfl, rfl, rfl, trivial⟩ ⟨_, F', rfl, (by rw [← hpn]; exact hI'), hF', KPm, (by rw [← hpn]; exact hret)⟩
    -- no
    simp only [decide_eq_true_eq, decide_eq_false_iff_not] at hif
    have hno2 := hif
    refine tr_seq ?_
    refine tr_reg ?_
    refine rs_v (v_eq rfl rfl) rfl ?_
    refine rs_v (v_assign rfl) rfl ?_
    refine rs_nil ?_
    refine q_thn ?_
    refine tr_if rfl (fun hif => ?_) (fun hif => ?_)
    · -- yes
      simp only [decide_eq_true_eq, decide_eq_false_iff_not] at hif
      have hcan : canPrev p = true ∧ pPrev W p = pn := by simpa [stepP, hif] using hst
      have hpn := hcan.2
      have hop5 := hif
      refine tr_reg ?_
      refine rs_v (v_move rfl) rfl ?_
      refine rs_w (w_mcall (vs := []) (hit.prev (s := s) hop5 (hAl s (List.mem_of_getElem? hsk)) (hit.stab hI (KL.st hlow) KL.1) hcan.1) rfl trivial) rfl ?_
      rintro r10 h10 ⟨F', hI', hF', KPm, hret⟩
      refine rs_v (v_assign rfl) rfl ?_
      refine rs_nil ?_
      refine q_blk_n ?_
      refine q_cut [(0, _), (5, _), (9, _), (12, _), (13, _), (14, _), (10, _)] ⟨rfl, rfl, rfl, rfl, rfl, rfl, rfl, trivial⟩ ⟨_, F', rfl, (by rw [← hpn]; exact hI'), hF', KPm, (by rw [← hpn]; exact hret)⟩
    -- no
    simp only [decide_eq_true_eq, decide_eq_false_iff_not] at hif
    have hno3 := hif
    refine tr_seq ?_
    refine tr_reg ?_
    refine rs_v (v_eq rfl rfl) rfl ?_
    refine rs_v (v_assign rfl) rfl ?_
    refine rs_nil ?_
    refine q_thn ?_
    refine tr_if rfl (fun hif => ?_) (fun hif => ?_)
    · -- yes
      simp only [decide_eq_true_eq, decide_eq_false_iff_not] at hif
      have hpn : pGE W s.key = pn := by simpa [stepP, hif] using hst
      have hop6 := hif
      refine tr_reg ?_
      refine rs_v (v_move rfl) rfl ?_
      refine rs_v (v_fieldAddr fa_impl_Step_1 rfl) rfl ?_
      refine rs_v (v_load one_string rfl (by exact B2.cell _ rfl)) rfl ?_
      refine rs_w (w_bytes u_string u_sl_uint8 u_uint8 rfl (by omega)) rfl ?_
      rintro _ h11 ⟨c11, rfl, K11, hbk⟩
      have Kv := K11
      have B2 := K11.blk (by simp) B2
      have O := O.keep2 K11 (fun x hm => by have := hob x hm; simp; try omega)
      have K := K.new0 K11; have Z11 := K11.1; have KL := KL.new0 K11
      refine rs_w (w_mcall (vs := [_]) (hit.ge (s := s) hop6 (hAl s (List.mem_of_getElem? hsk)) (hit.stab hI (KL.st hlow) KL.1) (hbk.mono (fun b hb hf => by have := hlow b hf; omega))) rfl ⟨rfl, trivial⟩) rfl ?_
      rintro r12 h12 ⟨F', hI', hF', KPm, hret⟩
      refine rs_v (v_assign rfl) rfl ?_
      refine rs_nil ?_
      refine q_blk_n ?_
      refine q_cut [(0, _), (5, _), (9, _), (12, _), (13, _), (14, _), (10, _)] ⟨rfl, rfl, rfl, rfl, rfl, rfl, rfl, trivial⟩ ⟨_, F', rfl, (by rw [← hpn]; exact hI'), (fun b hb => (hF' b hb).imp id (fun h9 => by have := Kv.1; omega)), ((Kv.kp0).trans KPm (fun b hb => .inl hb)), (by rw [← hpn]; exact hret)⟩
    -- no
    simp only [decide_eq_true_eq, decide_eq_false_iff_not] at hif
    have hno4 := hif
    refine tr_seq ?_
    refine tr_reg ?_
    refine rs_v (v_eq rfl rfl) rfl ?_
    refine rs_v (v_assign rfl) rfl ?_
    refine rs_nil ?_
    refine q_thn ?_
    refine tr_if rfl (fun hif => ?_) (fun hif => ?_)
    · -- yes
      simp only [decide_eq_true_eq, decide_eq_false_iff_not] at hif
      have hpn : pLT W s.key = pn := by simpa [stepP, hif] using hst
      have hop7 := hif
      refine tr_reg ?_
      refine rs_v (v_move rfl) rfl ?_
      refine rs_v (v_fieldAddr fa_impl_Step_1 rfl) rfl ?_
      refine rs_v (v_load one_string rfl (by exact B2.cell _ rfl)) rfl ?_
      refine rs_w (w_bytes u_string u_sl_uint8 u_uint8 rfl (by omega)) rfl ?_
      rintro _ h13 ⟨c13, rfl, K13, hbk⟩
      have Kv := K13
      have B2 := K13.blk (by simp) B2
      have O := O.keep2 K13 (fun x hm => by have := hob x hm; simp; try omega)
      have K := K.new0 K13; have Z13 := K13.1; have KL := KL.new0 K13
      refine rs_w (w_mcall (vs := [_]) (hit.lt (s := s) hop7 (hAl s (List.mem_of_getElem? hsk)) (hit.stab hI (KL.st hlow) KL.1) (hbk.mono (fun b hb hf => by have := hlow b hf; omega))) rfl ⟨rfl, trivial⟩) rfl ?_
      rintro r14 h14 ⟨F', hI', hF', KPm, hret⟩
      refine rs_v (v_assign rfl) rfl ?_
      refine rs_nil ?_
      refine q_blk_n ?_
      refine q_cut [(0, _), (5, _), (9, _), (12, _), (13, _), (14, _), (10, _)] ⟨rfl, rfl, rfl, rfl, rfl, rfl, rfl, trivial⟩ ⟨_, F', rfl, (by rw [← hpn]; exact hI'), (fun b hb => (hF' b hb).imp id (fun h9 => by have := Kv.1; omega)), ((Kv.kp0).trans KPm (fun b hb => .inl hb)), (by rw [← hpn]; exact hret)⟩
    -- no
    simp only [decide_eq_true_eq, decide_eq_false_iff_not] at hif
    have hno5 := hif
    refine tr_skip ?_
    refine q_blk_n ?_
    exact absurd hst (by simp [stepP, hno0, hno1, hno2, hno3, hno4, hno5])
  rintro E hc ⟨r, F', rfl, hI', hF', KP', hret⟩
  have hlow' := hit.low hI'
  have hB2 : ¬ F hL1.size := fun hf => by have := hlow _ hf; omega
  have B2 := KP'.blk hB2 B2
  have hcz := KP'.1
  have hKL := KL.1
  have KP3 := (KP.trans (KL.kp0 (F := fun _ => False)) (by simp)).trans KP' hFF
  have hcz3 := KP3.1
  have hFF' : ∀ b, F' b → F0 b ∨ h.size ≤ b := fun b hb => (hF' b hb).elim (hFF b) (fun h9 => .inr (by omega))
  have hout4 := (hout0.move cAns_st KL.kp0 (fun b hb => Or.inl hb)).move cAns_st KP' hF'
  obtain ⟨xs, G, O, hOD, hrow, hG⟩ := hout4
  have K := Keep.refl [] hc
  have KL := Keep.refl [] hc
  obtain ⟨q, rfl, hq⟩ := hret.form
  have hst' : endP W .nowhere (steps.take (k + 1)) = pn := by rw [take_snoc' hsk, endP_snoc, hp, hst]; rfl
  have hwk : walkP W .nowhere (steps.take (k + 1)) = walkP W .nowhere (steps.take k) ++ [⟨true, (cur W pn).isSome, (cur W pn).getD zeroSpan⟩] := by rw [take_snoc' hsk, walkP_snoc, hp, hst]; rfl
  have hok' := okl_step hok hst
  refine tr_seq ?_
  refine tr_reg ?_
  refine rs_v (v_build1 rfl (bld_impl_SpanAnswer_0 _)) rfl ?_
  refine rs_w (w_new zero_impl_SpanAnswer) rfl ?_
  rintro _ h16 ⟨rfl, B16, K16, Z16⟩
  have B2 := K16.blk (by simp) B2
  have O := O.keep2 K16 (fun x hm => by have := hob x hm; simp; try omega)
  have S16 := K.1; have K := K.new0 K16; have KL := KL.new0 K16
  refine rs_w0 (w_put siz_impl_SpanAnswer rfl rfl rfl rfl B16 rfl) ?_
  rintro _ h17 ⟨B17, K17⟩
  have B2 := K17.blk (by simp; omega) B2
  have O := O.keep2 K17 (fun x hm => by have := hob x hm; simp; try omega)
  have B16 := B17; have K := K.new1 K17 (by first | (right; omega) | (left; simp; done)); have Z17 := K17.1; have KL := KL.new1 K17 (.inr (by omega))
  refine rs_nil ?_
  refine q_thn ?_
  refine tr_seq ?_
  refine tr_seq ?_
  refine tr_reg ?_
  refine rs_v (v_move rfl) rfl ?_
  refine rs_v (v_pne u_p_keyspan_Span rfl rfl) rfl ?_
  refine rs_nil ?_
  refine q_thn ?_
  refine tr_if rfl (fun hif => ?_) (fun hif => ?_)
  · -- yes
    rcases hq with ⟨rfl, _⟩ | ⟨sp, pb, po, rfl, hcur, hFp, hps⟩
    · simp at hif
    obtain ⟨sv, ev, kv, kk, hcell, r1, r2, r3⟩ := hps
    obtain ⟨a1, n1, c1, rfl⟩ := r1.form2
    obtain ⟨a2, n2, c2, rfl⟩ := r2.form2
    obtain ⟨a3, n3, c3, rfl⟩ := r3.form2
    refine tr_reg ?_
    refine rs_v (v_move rfl) rfl ?_
    refine rs_v (v_nilCheck_ptr rfl) rfl ?_
    refine rs_v (v_loadAgg (vs := [_, _, _, _]) many_keyspan_Span rfl (by exact K.cells (by simp) hcell)) rfl ?_
    refine rs_w (w_call (vs := [_]) ok_impl_plainSpan rfl ⟨rfl, trivial⟩ (c_plainSpan χ _ F' (hlow'.mono (by omega)) sp _ _ _ kk (r1.stab (K.st hlow')) (r2.stab (K.st hlow')) (r3.stab (K.st hlow')) (hWn sp (cur_mem hcur)))) rfl ?_
    rintro _ h18 ⟨⟨kv', rfl, hkv⟩, K18⟩
    obtain ⟨a4, c4, rfl⟩ := hkv.form2
    have Kp := K18
    have B2 := K18.blk (by simp) B2
    have B16 := K18.blk (by simp) B16
    have O := O.keep2 K18 (fun x hm => by have := hob x hm; simp; try omega)
    have K := K.new0 K18; have Z18 := K18.1; have KL := KL.new0 K18
    refine rs_v (v_fieldAddr fa_impl_SpanAnswer_1 rfl) rfl ?_
    refine rs_w0 (w_put siz_bool rfl rfl rfl rfl B16 rfl) ?_
    rintro _ h19 ⟨B19, K19⟩
    have B2 := K19.blk (by simp; omega) B2
    have O := O.keep2 K19 (fun x hm => by have := hob x hm; simp; try omega)
    have B16 := B19; have K := K.new1 K19 (by first | (right; omega) | (left; simp; done)); have Z19 := K19.1; have KL := KL.new1 K19 (.inr (by omega))
    refine rs_v (v_fieldAddr fa_impl_SpanAnswer_2 rfl) rfl ?_
    refine rs_w0 (w_put siz_impl_Span rfl rfl rfl rfl B16 rfl) ?_
    rintro _ h20 ⟨B20, K20⟩
    have B2 := K20.blk (by simp; omega) B2
    have O := O.keep2 K20 (fun x hm => by have := hob x hm; simp; try omega)
    have B16 := B20; have K := K.new1 K20 (by first | (right; omega) | (left; simp; done)); have Z20 := K20.1; have KL := KL.new1 K20 (.inr (by omega))
    refine rs_nil ?_
    refine q_thn ?_
    refine tr_seq ?_
    refine tr_quiet (by kernel_rfl) (by kernel_rfl) ?_
    refine rq_v (v_move rfl) ?_
    refine rq_v (v_pne u_p_keyspan_Span rfl rfl) ?_
    refine rq_v (v_fieldAddr fa_impl_Step_0 rfl) ?_
    refine rq_v (v_load one_uint8 rfl (by exact B2.cell _ rfl)) ?_
    refine rq_v (v_assign rfl) ?_
    refine rq_v (v_assign rfl) ?_
    refine rm_end ?_; simp only [endM, hypF, ofE, argE]
    refine q_thn ?_
    refine tr_reg ?_
    refine rs_v (v_move rfl) rfl ?_
    refine rs_v (v_loadAgg (vs := [_, _, _, _, _]) many_impl_SpanAnswer rfl (by exact B16.sub _ 5 rfl)) rfl ?_
    refine rs_w (w_new1 u_sl_impl_SpanAnswer siz_impl_SpanAnswer zero_impl_SpanAnswer rfl rfl rfl rfl rfl) rfl ?_
    rintro _ h21 ⟨rfl, B21, K21, Z21⟩
    have B2 := K21.blk (by simp) B2
    have B16 := K21.blk (by simp) B16
    have O := O.keep2 K21 (fun x hm => by have := hob x hm; simp; try omega)
    have S21 := K.1; have K := K.new0 K21; have KL := KL.new0 K21
    refine rs_w (w_app1 u_sl_impl_SpanAnswer info_impl_SpanAnswer rfl rfl rfl O rfl rfl B21 rfl (by omega) (by omega) (by omega)) rfl ?_
    rintro v22 h22 ⟨O22, K22, N22, F22⟩
    have Ka := K22; have Oa := O22; have Fa := F22; have Z22 := K22.1
    have B2 := K22.blk (fun hm => by have := hob _ hm; omega) B2
    have B16 := K22.blk (fun hm => by have := hob _ hm; omega) B16
    have B21 := K22.blk (fun hm => by have := hob _ hm; omega) B21
    refine rs_v (v_assign rfl) rfl ?_
    refine rs_nil ?_
    refine q_blk_n ?_
    refine q_thn ?_
    refine tr_reg ?_
    refine rs_v (v_add rfl rfl (by omega) (by omega)) rfl ?_
    refine rs_v (v_move rfl) rfl ?_
    refine rs_nil ?_
    refine q_lp (steps.length - (k + 1)) [(0, _), (5, _), (6, _), (7, _), (12, _), (13, _), (14, _)] (by omega) ⟨rfl, rfl, rfl, rfl, rfl, rfl, rfl, trivial⟩ ⟨k + 1, _, n + 1, _, _, F', by omega, rfl, rfl, ?_, hFF', ?_, ?_, ?_, ?_⟩
    · rw [hst']; exact hit.after hI' KL Ka hOD
    · exact (KP3.trans (KL.kp0 (F := fun _ => False)) (by simp)).trans (Ka.kp (F := fun x => h.size ≤ x) (fun x hx => (hob x hx).1)) (fun x hx => .inr hx)
    · rw [hwk, List.length_append, ← hn]; rfl
    · rw [hwk, hcur]
      exact OutD.snoc cAns_st (fun x hx => ⟨(hob x hx).1, by have := (hob x hx).2; omega⟩) hOD hrow hG hlow' (by omega) KL Oa Ka Fa rfl (⟨_, rfl, (upk (n0low _) (by omega) (rk_skip (rk_skip hkv Kp.1 K19 (by omega)) (by omega) K20 (by omega)) K21).mono (fun b hb => hb.elim (fun e => e.elim) (fun e => ⟨by omega, e.2⟩))⟩)
    · rw [hst']; rw [hcur] at hok'; exact hok'
  -- no
  rcases hq with ⟨rfl, hcur⟩ | ⟨sp, pb, po, rfl, _⟩
  rotate_left
  · simp at hif
  refine tr_skip ?_
  refine q_thn ?_
  refine tr_seq ?_
  refine tr_quiet (by kernel_rfl) (by kernel_rfl) ?_
  refine rq_v (v_move rfl) ?_
  refine rq_v (v_pne u_p_keyspan_Span rfl rfl) ?_
  refine rq_v (v_fieldAddr fa_impl_Step_0 rfl) ?_
  refine rq_v (v_load one_uint8 rfl (by exact B2.cell _ rfl)) ?_
  refine rq_v (v_assign rfl) ?_
  refine rq_v (v_assign rfl) ?_
  refine rm_end ?_; simp only [endM, hypF, ofE, argE]
  refine q_thn ?_
  refine tr_reg ?_
  refine rs_v (v_move rfl) rfl ?_
  refine rs_v (v_loadAgg (vs := [_, _, _, _, _]) many_impl_SpanAnswer rfl (by exact B16.sub _ 5 rfl)) rfl ?_
  refine rs_w (w_new1 u_sl_impl_SpanAnswer siz_impl_SpanAnswer zero_impl_SpanAnswer rfl rfl rfl rfl rfl) rfl ?_
  rintro _ h23 ⟨rfl, B23, K23, Z23⟩
  have B2 := K23.blk (by simp) B2
  have B16 := K23.blk (by simp) B16
  have O := O.keep2 K23 (fun x hm => by have := hob x hm; simp; try omega)
  have S23 := K.1; have K := K.new0 K23; have KL := KL.new0 K23
  refine rs_w (w_app1 u_sl_impl_SpanAnswer info_impl_SpanAnswer rfl rfl rfl O rfl rfl B23 rfl (by omega) (by omega) (by omega)) rfl ?_
  rintro v24 h24 ⟨O24, K24, N24, F24⟩
  have Ka := K24; have Oa := O24; have Fa := F24; have Z24 := K24.1
  have B2 := K24.blk (fun hm => by have := hob _ hm; omega) B2
  have B16 := K24.blk (fun hm => by have := hob _ hm; omega) B16
  have B23 := K24.blk (fun hm => by have := hob _ hm; omega) B23
  refine rs_v (v_assign rfl) rfl ?_
  refine rs_nil ?_
  refine q_blk_n ?_
  refine q_thn ?_
  refine tr_reg ?_
  refine rs_v (v_add rfl rfl (by omega) (by omega)) rfl ?_
  refine rs_v (v_move rfl) rfl ?_
  refine rs_nil ?_
  refine q_lp (steps.length - (k + 1)) [(0, _), (5, _), (6, _), (7, _), (12, _), (13, _), (14, _)] (by omega) ⟨rfl, rfl, rfl, rfl, rfl, rfl, rfl, trivial⟩ ⟨k + 1, _, n + 1, _, _, F', by omega, rfl, rfl, ?_, hFF', ?_, ?_, ?_, ?_⟩
  · rw [hst']; exact hit.after hI' KL Ka hOD
  · exact (KP3.trans (KL.kp0 (F := fun _ => False)) (by simp)).trans (Ka.kp (F := fun x => h.size ≤ x) (fun x hx => (hob x hx).1)) (fun x hx => .inr hx)
  · rw [hwk, List.length_append, ← hn]; rfl
  · rw [hwk, hcur]
    exact OutD.snoc cAns_st (fun x hx => ⟨(hob x hx).1, by have := (hob x hx).2; omega⟩) hOD hrow hG hlow' (by omega) KL Oa Ka Fa rfl (⟨_, rfl, SlR.nil _ _ _ _⟩)
  · rw [hst']; rw [hcur] at hok'; exact hok'
end Go.Proofs.Ytgebfbnndgjkiaa

/- Thirty-seventh part: the iterator within bounds: its checks. Conditions: those that each theorem names. -/
namespace Go.Proofs.Ytgebfbnndgjkiaa
open Go.Tess Go.RowKit
set_option maxRecDepth 100000
set_option maxHeartbeats 1000000
def UpC (up : Option ByteArray) (s : SpanD) : Bool := match up with | none => true | some u => slt s.s u
def LoC (lo : Option ByteArray) (s : SpanD) : Bool := match lo with | none => true | some l => slt l s.e
/-- A bound as bytes, or nil. -/
def RBnd (G : Nat → Prop) (h : Heap) (v : Value) (b : Option ByteArray) : Prop := match b with
  | none => v = .slice none 0 0
  | some u => ∃ g o n c, v = .slice (some ⟨g, o, none⟩) n c ∧ RBytes G h v u
theorem RBnd.stab {G : Nat → Prop} {h h' : Heap} {v : Value} {b : Option ByteArray} (hr : RBnd G h v b) (s : Stab G h h') : RBnd G h' v b := by
  cases b with
  | none => exact hr
  | some u => obtain ⟨g, o, n, c, e, h1⟩ := hr; exact ⟨g, o, n, c, e, h1.stab s⟩
theorem RBnd.mono {G G' : Nat → Prop} {h : Heap} {v : Value} {b : Option ByteArray} (hr : RBnd G h v b) (s : ∀ b, G b → G' b) : RBnd G' h v b := by
  cases b with
  | none => exact hr
  | some u => obtain ⟨g, o, n, c, e, h1⟩ := hr; exact ⟨g, o, n, c, e, h1.mono s⟩
theorem RBnd.form {G : Nat → Prop} {h : Heap} {v : Value} {b : Option ByteArray} (hr : RBnd G h v b) : ∃ a n c, v = .slice a n c := by
  cases b with
  | none => exact ⟨_, _, _, hr⟩
  | some u => obtain ⟨g, o, n, c, e, _⟩ := hr; exact ⟨_, _, _, e⟩
/-- A span behind a pointer, or none. -/
def SpA (F : Nat → Prop) (h : Heap) (x : Option Addr) (os : Option SpanD) : Prop := match os with
  | none => x = none
  | some s => ∃ b o, x = some ⟨b, o, none⟩ ∧ F b ∧ PSpan F h b o s
theorem SpA.stab {F : Nat → Prop} {h h' : Heap} {x : Option Addr} {os : Option SpanD} (hr : SpA F h x os) (s : Stab F h h') : SpA F h' x os := by
  cases os with
  | none => exact hr
  | some t => obtain ⟨b, o, e, h1, h2⟩ := hr; exact ⟨b, o, e, h1, h2.stab h1 s⟩
theorem Ret.spa {W : List SpanD} {p : Pos} {F : Nat → Prop} {h : Heap} {r : Value} (hr : Ret W p F h r) : ∃ x, r = .pointer x ∧ SpA F h x (cur W p) := by
  unfold Ret at hr
  cases hc : cur W p with
  | none => rw [hc] at hr; exact ⟨none, hr, rfl⟩
  | some s => rw [hc] at hr; obtain ⟨b, o, e, h1, h2⟩ := hr; exact ⟨_, e, b, o, rfl, h1, h2⟩
theorem SpA.ret {W : List SpanD} {p : Pos} {F : Nat → Prop} {h : Heap} {x : Option Addr} (hr : SpA F h x (cur W p)) : Ret W p F h (.pointer x) := by
  unfold Ret
  cases hc : cur W p with
  | none => rw [hc] at hr; rw [show x = none from hr]
  | some s => rw [hc] at hr; obtain ⟨b, o, e, h1, h2⟩ := hr; subst e; exact ⟨b, o, rfl, h1, h2⟩
abbrev bT : Nat := 145
/-- The cells of an iterator within bounds. -/
def biL (t : TypeId) (v0 : Value) (sp : Option Addr) (spl : Value) (lov upv hp pp : Value) (pos : Int) : List Value := [.iface t v0, .pointer sp, cmpF, spl, lov, upv, hp, pp, .int .i8 pos]
def badO (f : SpanD → Bool) (os : Option SpanD) : Bool := match os with | none => false | some s => !(f s)
theorem ndlt (a : Int) : (!decide (a < 0)) = decide (0 ≤ a) := by
  by_cases h : a < 0
  · have h2 : ¬ 0 ≤ a := by omega
    rw [decide_eq_true h, decide_eq_false h2]; rfl
  · have h2 : 0 ≤ a := by omega
    rw [decide_eq_false h, decide_eq_true h2]; rfl
theorem ndneg (a : Int) : (!decide (-a < 0)) = decide (a ≤ 0) := by
  by_cases h : -a < 0
  · have h2 : ¬ a ≤ 0 := by omega
    rw [decide_eq_true h, decide_eq_false h2]; rfl
  · have h2 : a ≤ 0 := by omega
    rw [decide_eq_false h, decide_eq_true h2]; rfl
theorem spa_filter {F : Nat → Prop} {h : Heap} {x : Option Addr} {os : Option SpanD} (hr : SpA F h x os) (f : SpanD → Bool) (b : Bool) (hb : b = badO f os) : SpA F h (if b then none else x) (os.filter f) := by
  cases os with
  | none =>
    have e : x = none := hr
    subst e
    cases b <;> rfl
  | some s =>
    have hb' : b = !(f s) := hb
    subst hb'
    cases hf : f s with
    | true => simpa [Option.filter, hf] using hr
    | false => simp [Option.filter, hf, SpA]

theorem c_checkForwardBound (χ : Chi) (h : Heap) (c : Nat) (t : TypeId) (v0 : Value) (sp : Option Addr) (spl lov upv hp pp : Value) (pos : Int) (bd : Option ByteArray) (G Fin : Nat → Prop) (x : Option Addr) (os : Option SpanD)
    (Bc : Blk h c (biL t v0 sp spl lov upv hp pp pos) bT) (hbd : RBnd G h upv bd) (hx : SpA Fin h x os) (hcF : ¬ Fin c) :
    Cl Try.prog χ 136 #[.pointer (some ⟨c, 0, none⟩), .pointer x] h (fun r h' => ∃ x', r = .pointer x' ∧ SpA Fin h x' (os.filter (UpC bd)) ∧ Blk h' c (biL t v0 x' spl lov upv hp pp 0) bT ∧ Keep [c] h h') := by
  unfold biL at Bc
  obtain ⟨na, nn, nc, rfl⟩ := hbd.form
  refine cl_intro Try.func136 rfl rfl rfl ?_
  have K : Keep [c] h h := Keep.refl _ _
  refine tr_seq ?_
  refine tr_reg ?_
  refine rs_v (v_assign rfl) rfl ?_
  refine rs_nil ?_
  refine q_thn ?_
  refine tr_cut (fun E h' => h = h' ∧ E = [(0, .pointer (some ⟨c, 0, none⟩)), (1, .pointer (if (badO (UpC bd) os) then none else x))]) ?_ ?_
  ·
    refine tr_cut (fun E h' => h = h' ∧ E = [(0, .pointer (some ⟨c, 0, none⟩)), (1, .pointer x), (29, .bool (badO (UpC bd) os))]) ?_ ?_
    ·
      rcases os with _ | s
      rotate_left
      rcases bd with _ | u
      rotate_left
      · obtain ⟨b, o, rfl, hFb, sv9, ev9, kv9, kk9, hcell, g1, g2, g3⟩ := hx
        obtain ⟨gb, go, gn, gc, e9, hu⟩ := hbd
        cases e9
        refine tr_quiet (by kernel_rfl) (by kernel_rfl) ?_
        refine rq_v (v_move rfl) ?_
        refine rq_v (v_pne u_p_keyspan_Span rfl rfl) ?_
        refine rq_v (v_move rfl) ?_
        refine rq_gv rfl rfl (v_move rfl) ?_
        refine rq_gv rfl rfl (v_nilCheck_ptr rfl) ?_
        refine rq_gv rfl rfl (v_fieldAddr fa_keyspan_BoundedIter_5 rfl) ?_
        refine rq_gv rfl rfl (v_load one_sl_uint8 rfl (by exact Bc.cell _ rfl)) ?_
        refine rq_gv rfl rfl (v_snen u_sl_uint8 rfl rfl) ?_
        refine rq_v (v_pick_t rfl rfl) ?_
        refine rq_v (v_move rfl) ?_
        refine rq_gv rfl rfl (v_move rfl) ?_
        refine rq_gv rfl rfl (v_nilCheck_ptr rfl) ?_
        refine rq_gv rfl rfl (v_fieldAddr fa_keyspan_BoundedIter_2 rfl) ?_
        refine rq_gv rfl rfl (v_load one_base_Compare rfl (by exact Bc.cell _ rfl)) ?_
        refine rq_gv rfl rfl (v_move rfl) ?_
        refine rq_gv rfl rfl (v_nilCheck_ptr rfl) ?_
        refine rq_gv rfl rfl (v_fieldAddr fa_keyspan_Span_0 rfl) ?_
        refine rq_gv rfl rfl (v_load one_sl_uint8 rfl (by exact hcell.at 0 rfl)) ?_
        refine rq_gv rfl rfl (v_move rfl) ?_
        refine rq_gv rfl rfl (v_nilCheck_ptr rfl) ?_
        refine rq_gv rfl rfl (v_fieldAddr fa_keyspan_BoundedIter_5 rfl) ?_
        refine rq_gv rfl rfl (v_load one_sl_uint8 rfl (by exact Bc.cell _ rfl)) ?_
        refine rq_gw rfl rfl (w_callv (first := []) (cap := []) (vs := [_, _]) ok_bytes_Compare rfl ⟨rfl, rfl, trivial⟩ (c_Compare χ _ _ _ s.s u (RBytes.by g1) (RBytes.by hu))) ?_
        refine rq_gv rfl rfl (v_ge rfl rfl) ?_
        refine rq_v (v_pick_t rfl rfl) ?_
        refine rm_end ?_; simp only [endM, hypF, ofE, argE]
        refine q_cut [(0, _), (1, _), (29, _)] ⟨rfl, rfl, rfl, trivial⟩ ⟨rfl, ?_⟩
        rw [show badO (UpC (some u)) (some s) = decide (0 ≤ cmpB s.s u) from by simp only [badO, UpC]; rw [slt_cmp, ndlt]]
      · have e9 : x = none := hx
        subst e9
        refine tr_quiet (by kernel_rfl) (by kernel_rfl) ?_
        refine rq_v (v_move rfl) ?_
        refine rq_v (v_pne u_p_keyspan_Span rfl rfl) ?_
        refine rq_v (v_move rfl) ?_
        refine rm_gs same_pre rfl rfl rfl ?_
        refine rm_gs same_pre rfl rfl rfl ?_
        refine rm_gs same_pre rfl rfl rfl ?_
        refine rm_gs same_pre rfl rfl rfl ?_
        refine rm_gs same_pre rfl rfl rfl ?_
        refine rq_v (v_pick_f rfl rfl) ?_
        refine rq_v (v_move rfl) ?_
        refine rm_gs same_pre rfl rfl rfl ?_
        refine rm_gs same_pre rfl rfl rfl ?_
        refine rm_gs same_pre rfl rfl rfl ?_
        refine rm_gs same_pre rfl rfl rfl ?_
        refine rm_gs same_pre rfl rfl rfl ?_
        refine rm_gs same_pre rfl rfl rfl ?_
        refine rm_gs same_pre rfl rfl rfl ?_
        refine rm_gs same_pre rfl rfl rfl ?_
        refine rm_gs same_pre rfl rfl rfl ?_
        refine rm_gs same_pre rfl rfl rfl ?_
        refine rm_gs same_pre rfl rfl rfl ?_
        refine rm_gs same_pre rfl rfl rfl ?_
        refine rm_gs same_pre rfl rfl rfl ?_
        refine rm_gs same_pre rfl rfl rfl ?_
        refine rq_v (v_pick_f rfl rfl) ?_
        refine rm_end ?_; simp only [endM, hypF, ofE, argE]
        exact q_cut [(0, _), (1, _), (29, _)] ⟨rfl, rfl, rfl, trivial⟩ ⟨rfl, rfl⟩
      · obtain ⟨b, o, rfl, hFb, hps⟩ := hx
        have e9 := hbd
        simp only [RBnd] at e9
        cases e9
        refine tr_quiet (by kernel_rfl) (by kernel_rfl) ?_
        refine rq_v (v_move rfl) ?_
        refine rq_v (v_pne u_p_keyspan_Span rfl rfl) ?_
        refine rq_v (v_move rfl) ?_
        refine rq_gv rfl rfl (v_move rfl) ?_
        refine rq_gv rfl rfl (v_nilCheck_ptr rfl) ?_
        refine rq_gv rfl rfl (v_fieldAddr fa_keyspan_BoundedIter_5 rfl) ?_
        refine rq_gv rfl rfl (v_load one_sl_uint8 rfl (by exact Bc.cell _ rfl)) ?_
        refine rq_gv rfl rfl (v_snen u_sl_uint8 rfl rfl) ?_
        refine rq_v (v_pick_t rfl rfl) ?_
        refine rq_v (v_move rfl) ?_
        refine rm_gs same_pre rfl rfl rfl ?_
        refine rm_gs same_pre rfl rfl rfl ?_
        refine rm_gs same_pre rfl rfl rfl ?_
        refine rm_gs same_pre rfl rfl rfl ?_
        refine rm_gs same_pre rfl rfl rfl ?_
        refine rm_gs same_pre rfl rfl rfl ?_
        refine rm_gs same_pre rfl rfl rfl ?_
        refine rm_gs same_pre rfl rfl rfl ?_
        refine rm_gs same_pre rfl rfl rfl ?_
        refine rm_gs same_pre rfl rfl rfl ?_
        refine rm_gs same_pre rfl rfl rfl ?_
        refine rm_gs same_pre rfl rfl rfl ?_
        refine rm_gs same_pre rfl rfl rfl ?_
        refine rm_gs same_pre rfl rfl rfl ?_
        refine rq_v (v_pick_f rfl rfl) ?_
        refine rm_end ?_; simp only [endM, hypF, ofE, argE]
        exact q_cut [(0, _), (1, _), (29, _)] ⟨rfl, rfl, rfl, trivial⟩ ⟨rfl, rfl⟩
    rintro E h9 ⟨hh, rfl⟩
    subst hh
    refine tr_if rfl (fun hif => ?_) (fun hif => ?_)
    · -- yes
      skip
      refine tr_reg ?_
      refine rs_v (v_assign rfl) rfl ?_
      refine rs_nil ?_
      exact q_cut [(0, _), (1, _)] ⟨rfl, rfl, trivial⟩ ⟨rfl, by rw [if_pos hif]⟩
    -- no
    skip
    refine tr_skip ?_
    exact q_cut [(0, _), (1, _)] ⟨rfl, rfl, trivial⟩ ⟨rfl, by rw [if_neg (by rw [hif]; decide)]⟩
  rintro E h9 ⟨hh, rfl⟩
  subst hh
  generalize hx9 : (if (badO (UpC bd) os) = true then none else x) = x9
  refine tr_seq ?_
  refine tr_reg ?_
  refine rs_v (v_move rfl) rfl ?_
  refine rs_v (v_move rfl) rfl ?_
  refine rs_v (v_nilCheck_ptr rfl) rfl ?_
  refine rs_v (v_fieldAddr fa_keyspan_BoundedIter_1 rfl) rfl ?_
  refine rs_w0 (w_put siz_p_keyspan_Span rfl rfl rfl rfl Bc rfl) ?_
  rintro _ h3 ⟨B3, K3⟩
  have Bc := B3; have K := K.new1 K3 (by first | (right; omega) | (left; simp; done)); have Z3 := K3.1
  refine rs_nil ?_
  refine q_thn ?_
  refine tr_cut (fun E h' => E = [(0, .pointer (some ⟨c, 0, none⟩)), (1, .pointer x9)] ∧ Blk h' c ([.iface t v0, .pointer x9, cmpF, spl, lov, .slice na nn nc, hp, pp, .int .i8 0]) bT ∧ Keep [c] h h') ?_ ?_
  ·
    refine tr_seq ?_
    refine tr_reg ?_
    refine rs_v (v_move rfl) rfl ?_
    refine rs_v (v_nilCheck_ptr rfl) rfl ?_
    refine rs_v (v_fieldAddr fa_keyspan_BoundedIter_8 rfl) rfl ?_
    refine rs_v (v_load one_keyspan_boundedIterPos rfl (by exact Bc.cell _ rfl)) rfl ?_
    refine rs_v (v_ne rfl rfl) rfl ?_
    refine rs_nil ?_
    refine q_thn ?_
    refine tr_if rfl (fun hif => ?_) (fun hif => ?_)
    · -- yes
      skip
      refine tr_reg ?_
      refine rs_v (v_move rfl) rfl ?_
      refine rs_v (v_nilCheck_ptr rfl) rfl ?_
      refine rs_v (v_fieldAddr fa_keyspan_BoundedIter_8 rfl) rfl ?_
      refine rs_w0 (w_put siz_keyspan_boundedIterPos rfl rfl rfl rfl Bc rfl) ?_
      rintro _ h4 ⟨B4, K4⟩
      have Bc := B4; have K := K.new1 K4 (by first | (right; omega) | (left; simp; done)); have Z4 := K4.1
      refine rs_nil ?_
      exact q_cut [(0, _), (1, _)] ⟨rfl, rfl, trivial⟩ ⟨rfl, Bc, K⟩
    -- no
    simp only [decide_eq_true_eq, decide_eq_false_iff_not] at hif
    have hp0 : pos = 0 := by simpa using hif
    subst hp0
    refine tr_skip ?_
    exact q_cut [(0, _), (1, _)] ⟨rfl, rfl, trivial⟩ ⟨rfl, Bc, K⟩
  rintro E h8 ⟨rfl, Bc, K⟩
  refine tr_seq ?_
  refine tr_reg ?_
  refine rs_v (v_move rfl) rfl ?_
  refine rs_v (v_assign rfl) rfl ?_
  refine rs_nil ?_
  refine q_thn ?_
  refine tr_ret ?_
  refine q_ret (res_tmp rfl rfl) ?_
  exact ⟨x9, rfl, by rw [← hx9]; exact spa_filter hx _ _ rfl, Bc, K⟩
theorem c_checkBackwardBound (χ : Chi) (h : Heap) (c : Nat) (t : TypeId) (v0 : Value) (sp : Option Addr) (spl lov upv hp pp : Value) (pos : Int) (bd : Option ByteArray) (G Fin : Nat → Prop) (x : Option Addr) (os : Option SpanD)
    (Bc : Blk h c (biL t v0 sp spl lov upv hp pp pos) bT) (hbd : RBnd G h lov bd) (hx : SpA Fin h x os) (hcF : ¬ Fin c) :
    Cl Try.prog χ 138 #[.pointer (some ⟨c, 0, none⟩), .pointer x] h (fun r h' => ∃ x', r = .pointer x' ∧ SpA Fin h x' (os.filter (LoC bd)) ∧ Blk h' c (biL t v0 x' spl lov upv hp pp 0) bT ∧ Keep [c] h h') := by
  unfold biL at Bc
  obtain ⟨na, nn, nc, rfl⟩ := hbd.form
  refine cl_intro Try.func138 rfl rfl rfl ?_
  have K : Keep [c] h h := Keep.refl _ _
  refine tr_seq ?_
  refine tr_reg ?_
  refine rs_v (v_assign rfl) rfl ?_
  refine rs_nil ?_
  refine q_thn ?_
  refine tr_cut (fun E h' => h = h' ∧ E = [(0, .pointer (some ⟨c, 0, none⟩)), (1, .pointer (if (badO (LoC bd) os) then none else x))]) ?_ ?_
  ·
    refine tr_cut (fun E h' => h = h' ∧ E = [(0, .pointer (some ⟨c, 0, none⟩)), (1, .pointer x), (29, .bool (badO (LoC bd) os))]) ?_ ?_
    ·
      rcases os with _ | s
      rotate_left
      rcases bd with _ | u
      rotate_left
      · obtain ⟨b, o, rfl, hFb, sv9, ev9, kv9, kk9, hcell, g1, g2, g3⟩ := hx
        obtain ⟨gb, go, gn, gc, e9, hu⟩ := hbd
        cases e9
        refine tr_quiet (by kernel_rfl) (by kernel_rfl) ?_
        refine rq_v (v_move rfl) ?_
        refine rq_v (v_pne u_p_keyspan_Span rfl rfl) ?_
        refine rq_v (v_move rfl) ?_
        refine rq_gv rfl rfl (v_move rfl) ?_
        refine rq_gv rfl rfl (v_nilCheck_ptr rfl) ?_
        refine rq_gv rfl rfl (v_fieldAddr fa_keyspan_BoundedIter_4 rfl) ?_
        refine rq_gv rfl rfl (v_load one_sl_uint8 rfl (by exact Bc.cell _ rfl)) ?_
        refine rq_gv rfl rfl (v_snen u_sl_uint8 rfl rfl) ?_
        refine rq_v (v_pick_t rfl rfl) ?_
        refine rq_v (v_move rfl) ?_
        refine rq_gv rfl rfl (v_move rfl) ?_
        refine rq_gv rfl rfl (v_nilCheck_ptr rfl) ?_
        refine rq_gv rfl rfl (v_fieldAddr fa_keyspan_BoundedIter_2 rfl) ?_
        refine rq_gv rfl rfl (v_load one_base_Compare rfl (by exact Bc.cell _ rfl)) ?_
        refine rq_gv rfl rfl (v_move rfl) ?_
        refine rq_gv rfl rfl (v_nilCheck_ptr rfl) ?_
        refine rq_gv rfl rfl (v_fieldAddr fa_keyspan_Span_1 rfl) ?_
        refine rq_gv rfl rfl (v_load one_sl_uint8 rfl (by exact hcell.at 1 rfl)) ?_
        refine rq_gv rfl rfl (v_move rfl) ?_
        refine rq_gv rfl rfl (v_nilCheck_ptr rfl) ?_
        refine rq_gv rfl rfl (v_fieldAddr fa_keyspan_BoundedIter_4 rfl) ?_
        refine rq_gv rfl rfl (v_load one_sl_uint8 rfl (by exact Bc.cell _ rfl)) ?_
        refine rq_gw rfl rfl (w_callv (first := []) (cap := []) (vs := [_, _]) ok_bytes_Compare rfl ⟨rfl, rfl, trivial⟩ (c_Compare χ _ _ _ s.e u (RBytes.by g2) (RBytes.by hu))) ?_
        refine rq_gv rfl rfl (v_le rfl rfl) ?_
        refine rq_v (v_pick_t rfl rfl) ?_
        refine rm_end ?_; simp only [endM, hypF, ofE, argE]
        refine q_cut [(0, _), (1, _), (29, _)] ⟨rfl, rfl, rfl, trivial⟩ ⟨rfl, ?_⟩
        rw [show badO (LoC (some u)) (some s) = decide (cmpB s.e u ≤ 0) from by simp only [badO, LoC]; rw [slt_cmp, cmpB_anti s.e u, ndneg]]
      · have e9 : x = none := hx
        subst e9
        refine tr_quiet (by kernel_rfl) (by kernel_rfl) ?_
        refine rq_v (v_move rfl) ?_
        refine rq_v (v_pne u_p_keyspan_Span rfl rfl) ?_
        refine rq_v (v_move rfl) ?_
        refine rm_gs same_pre rfl rfl rfl ?_
        refine rm_gs same_pre rfl rfl rfl ?_
        refine rm_gs same_pre rfl rfl rfl ?_
        refine rm_gs same_pre rfl rfl rfl ?_
        refine rm_gs same_pre rfl rfl rfl ?_
        refine rq_v (v_pick_f rfl rfl) ?_
        refine rq_v (v_move rfl) ?_
        refine rm_gs same_pre rfl rfl rfl ?_
        refine rm_gs same_pre rfl rfl rfl ?_
        refine rm_gs same_pre rfl rfl rfl ?_
        refine rm_gs same_pre rfl rfl rfl ?_
        refine rm_gs same_pre rfl rfl rfl ?_
        refine rm_gs same_pre rfl rfl rfl ?_
        refine rm_gs same_pre rfl rfl rfl ?_
        refine rm_gs same_pre rfl rfl rfl ?_
        refine rm_gs same_pre rfl rfl rfl ?_
        refine rm_gs same_pre rfl rfl rfl ?_
        refine rm_gs same_pre rfl rfl rfl ?_
        refine rm_gs same_pre rfl rfl rfl ?_
        refine rm_gs same_pre rfl rfl rfl ?_
        refine rm_gs same_pre rfl rfl rfl ?_
        refine rq_v (v_pick_f rfl rfl) ?_
        refine rm_end ?_; simp only [endM, hypF, ofE, argE]
        exact q_cut [(0, _), (1, _), (29, _)] ⟨rfl, rfl, rfl, trivial⟩ ⟨rfl, rfl⟩
      · obtain ⟨b, o, rfl, hFb, hps⟩ := hx
        have e9 := hbd
        simp only [RBnd] at e9
        cases e9
        refine tr_quiet (by kernel_rfl) (by kernel_rfl) ?_
        refine rq_v (v_move rfl) ?_
        refine rq_v (v_pne u_p_keyspan_Span rfl rfl) ?_
        refine rq_v (v_move rfl) ?_
        refine rq_gv rfl rfl (v_move rfl) ?_
        refine rq_gv rfl rfl (v_nilCheck_ptr rfl) ?_
        refine rq_gv rfl rfl (v_fieldAddr fa_keyspan_BoundedIter_4 rfl) ?_
        refine rq_gv rfl rfl (v_load one_sl_uint8 rfl (by exact Bc.cell _ rfl)) ?_
        refine rq_gv rfl rfl (v_snen u_sl_uint8 rfl rfl) ?_
        refine rq_v (v_pick_t rfl rfl) ?_
        refine rq_v (v_move rfl) ?_
        refine rm_gs same_pre rfl rfl rfl ?_
        refine rm_gs same_pre rfl rfl rfl ?_
        refine rm_gs same_pre rfl rfl rfl ?_
        refine rm_gs same_pre rfl rfl rfl ?_
        refine rm_gs same_pre rfl rfl rfl ?_
        refine rm_gs same_pre rfl rfl rfl ?_
        refine rm_gs same_pre rfl rfl rfl ?_
        refine rm_gs same_pre rfl rfl rfl ?_
        refine rm_gs same_pre rfl rfl rfl ?_
        refine rm_gs same_pre rfl rfl rfl ?_
        refine rm_gs same_pre rfl rfl rfl ?_
        refine rm_gs same_pre rfl rfl rfl ?_
        refine rm_gs same_pre rfl rfl rfl ?_
        refine rm_gs same_pre rfl rfl rfl ?_
        refine rq_v (v_pick_f rfl rfl) ?_
        refine rm_end ?_; simp only [endM, hypF, ofE, argE]
        exact q_cut [(0, _), (1, _), (29, _)] ⟨rfl, rfl, rfl, trivial⟩ ⟨rfl, rfl⟩
    rintro E h9 ⟨hh, rfl⟩
    subst hh
    refine tr_if rfl (fun hif => ?_) (fun hif => ?_)
    · -- yes
      skip
      refine tr_reg ?_
      refine rs_v (v_assign rfl) rfl ?_
      refine rs_nil ?_
      exact q_cut [(0, _), (1, _)] ⟨rfl, rfl, trivial⟩ ⟨rfl, by rw [if_pos hif]⟩
    -- no
    skip
    refine tr_skip ?_
    exact q_cut [(0, _), (1, _)] ⟨rfl, rfl, trivial⟩ ⟨rfl, by rw [if_neg (by rw [hif]; decide)]⟩
  rintro E h9 ⟨hh, rfl⟩
  subst hh
  generalize hx9 : (if (badO (LoC bd) os) = true then none else x) = x9
  refine tr_seq ?_
  refine tr_reg ?_
  refine rs_v (v_move rfl) rfl ?_
  refine rs_v (v_move rfl) rfl ?_
  refine rs_v (v_nilCheck_ptr rfl) rfl ?_
  refine rs_v (v_fieldAddr fa_keyspan_BoundedIter_1 rfl) rfl ?_
  refine rs_w0 (w_put siz_p_keyspan_Span rfl rfl rfl rfl Bc rfl) ?_
  rintro _ h3 ⟨B3, K3⟩
  have Bc := B3; have K := K.new1 K3 (by first | (right; omega) | (left; simp; done)); have Z3 := K3.1
  refine rs_nil ?_
  refine q_thn ?_
  refine tr_cut (fun E h' => E = [(0, .pointer (some ⟨c, 0, none⟩)), (1, .pointer x9)] ∧ Blk h' c ([.iface t v0, .pointer x9, cmpF, spl, .slice na nn nc, upv, hp, pp, .int .i8 0]) bT ∧ Keep [c] h h') ?_ ?_
  ·
    refine tr_seq ?_
    refine tr_reg ?_
    refine rs_v (v_move rfl) rfl ?_
    refine rs_v (v_nilCheck_ptr rfl) rfl ?_
    refine rs_v (v_fieldAddr fa_keyspan_BoundedIter_8 rfl) rfl ?_
    refine rs_v (v_load one_keyspan_boundedIterPos rfl (by exact Bc.cell _ rfl)) rfl ?_
    refine rs_v (v_ne rfl rfl) rfl ?_
    refine rs_nil ?_
    refine q_thn ?_
    refine tr_if rfl (fun hif => ?_) (fun hif => ?_)
    · -- yes
      skip
      refine tr_reg ?_
      refine rs_v (v_move rfl) rfl ?_
      refine rs_v (v_nilCheck_ptr rfl) rfl ?_
      refine rs_v (v_fieldAddr fa_keyspan_BoundedIter_8 rfl) rfl ?_
      refine rs_w0 (w_put siz_keyspan_boundedIterPos rfl rfl rfl rfl Bc rfl) ?_
      rintro _ h4 ⟨B4, K4⟩
      have Bc := B4; have K := K.new1 K4 (by first | (right; omega) | (left; simp; done)); have Z4 := K4.1
      refine rs_nil ?_
      exact q_cut [(0, _), (1, _)] ⟨rfl, rfl, trivial⟩ ⟨rfl, Bc, K⟩
    -- no
    simp only [decide_eq_true_eq, decide_eq_false_iff_not] at hif
    have hp0 : pos = 0 := by simpa using hif
    subst hp0
    refine tr_skip ?_
    exact q_cut [(0, _), (1, _)] ⟨rfl, rfl, trivial⟩ ⟨rfl, Bc, K⟩
  rintro E h8 ⟨rfl, Bc, K⟩
  refine tr_seq ?_
  refine tr_reg ?_
  refine rs_v (v_move rfl) rfl ?_
  refine rs_v (v_assign rfl) rfl ?_
  refine rs_nil ?_
  refine q_thn ?_
  refine tr_ret ?_
  refine q_ret (res_tmp rfl rfl) ?_
  exact ⟨x9, rfl, by rw [← hx9]; exact spa_filter hx _ _ rfl, Bc, K⟩
theorem c_checkPrefixSpanStart (χ : Chi) (h : Heap) (c : Nat) (t : TypeId) (v0 : Value) (sp : Option Addr) (spl lov upv pp : Value) (pos : Int) (x : Option Addr) (Bc : Blk h c (biL t v0 sp spl lov upv (.pointer none) pp pos) bT) :
    Cl Try.prog χ 135 #[.pointer (some ⟨c, 0, none⟩), .pointer x] h (fun r h' => r = .pointer x ∧ h' = h) := by
  unfold biL at Bc
  refine cl_intro Try.func135 rfl rfl rfl ?_
  have K : Keep [c] h h := Keep.refl _ _
  refine tr_seq ?_
  refine tr_reg ?_
  refine rs_v (v_assign rfl) rfl ?_
  refine rs_nil ?_
  refine q_thn ?_
  refine tr_seq ?_
  refine tr_cut (fun E h' => h = h' ∧ E = [(0, .pointer (some ⟨c, 0, none⟩)), (1, .pointer x), (22, .bool false)]) ?_ ?_
  ·
    rcases x with _ | x
    · skip
      refine tr_reg ?_
      refine rs_v (v_move rfl) rfl ?_
      refine rs_v (v_pne u_p_keyspan_Span rfl rfl) rfl ?_
      refine rs_v (v_move rfl) rfl ?_
      refine rs_gs rfl rfl rfl rfl ?_
      refine rs_gs rfl rfl rfl rfl ?_
      refine rs_gs rfl rfl rfl rfl ?_
      refine rs_gs rfl rfl rfl rfl ?_
      refine rs_gs rfl rfl rfl rfl ?_
      refine rs_v (v_pick_f rfl rfl) rfl ?_
      refine rs_v (v_move rfl) rfl ?_
      refine rs_gs rfl rfl rfl rfl ?_
      refine rs_gs rfl rfl rfl rfl ?_
      refine rs_gs rfl rfl rfl rfl ?_
      refine rs_gs rfl rfl rfl rfl ?_
      refine rs_gs rfl rfl rfl rfl ?_
      refine rs_gs rfl rfl rfl rfl ?_
      refine rs_v (v_pick_f rfl rfl) rfl ?_
      refine rs_nil ?_
      exact q_cut [(0, _), (1, _), (22, _)] ⟨rfl, rfl, rfl, trivial⟩ ⟨rfl, rfl⟩
    · skip
      refine tr_reg ?_
      refine rs_v (v_move rfl) rfl ?_
      refine rs_v (v_pne u_p_keyspan_Span rfl rfl) rfl ?_
      refine rs_v (v_move rfl) rfl ?_
      refine rs_gv rfl rfl (v_move rfl) rfl ?_
      refine rs_gv rfl rfl (v_nilCheck_ptr rfl) rfl ?_
      refine rs_gv rfl rfl (v_fieldAddr fa_keyspan_BoundedIter_6 rfl) rfl ?_
      refine rs_gv rfl rfl (v_load one_p_bool rfl (by exact Bc.cell _ rfl)) rfl ?_
      refine rs_gv rfl rfl (v_pne u_p_bool rfl rfl) rfl ?_
      refine rs_v (v_pick_t rfl rfl) rfl ?_
      refine rs_v (v_move rfl) rfl ?_
      refine rs_gs rfl rfl rfl rfl ?_
      refine rs_gs rfl rfl rfl rfl ?_
      refine rs_gs rfl rfl rfl rfl ?_
      refine rs_gs rfl rfl rfl rfl ?_
      refine rs_gs rfl rfl rfl rfl ?_
      refine rs_gs rfl rfl rfl rfl ?_
      refine rs_v (v_pick_f rfl rfl) rfl ?_
      refine rs_nil ?_
      exact q_cut [(0, _), (1, _), (22, _)] ⟨rfl, rfl, rfl, trivial⟩ ⟨rfl, rfl⟩
  rintro E h9 ⟨hh, rfl⟩
  subst hh
  refine tr_if_f rfl ?_
  refine tr_skip ?_
  refine q_thn ?_
  refine tr_seq ?_
  refine tr_reg ?_
  refine rs_v (v_move rfl) rfl ?_
  refine rs_v (v_assign rfl) rfl ?_
  refine rs_nil ?_
  refine q_thn ?_
  refine tr_ret ?_
  refine q_ret (res_tmp rfl rfl) ?_
  exact ⟨rfl, rfl⟩
theorem c_checkPrefixSpanEnd (χ : Chi) (h : Heap) (c : Nat) (t : TypeId) (v0 : Value) (sp : Option Addr) (spl lov upv pp : Value) (pos : Int) (x : Option Addr) (Bc : Blk h c (biL t v0 sp spl lov upv (.pointer none) pp pos) bT) :
    Cl Try.prog χ 137 #[.pointer (some ⟨c, 0, none⟩), .pointer x] h (fun r h' => r = .pointer x ∧ h' = h) := by
  unfold biL at Bc
  refine cl_intro Try.func137 rfl rfl rfl ?_
  have K : Keep [c] h h := Keep.refl _ _
  refine tr_seq ?_
  refine tr_reg ?_
  refine rs_v (v_assign rfl) rfl ?_
  refine rs_nil ?_
  refine q_thn ?_
  refine tr_seq ?_
  refine tr_cut (fun E h' => h = h' ∧ E = [(0, .pointer (some ⟨c, 0, none⟩)), (1, .pointer x), (39, .bool false)]) ?_ ?_
  ·
    rcases x with _ | x
    · skip
      refine tr_quiet (by kernel_rfl) (by kernel_rfl) ?_
      refine rq_v (v_move rfl) ?_
      refine rq_v (v_pne u_p_keyspan_Span rfl rfl) ?_
      refine rq_v (v_move rfl) ?_
      refine rm_gs same_pre rfl rfl rfl ?_
      refine rm_gs same_pre rfl rfl rfl ?_
      refine rm_gs same_pre rfl rfl rfl ?_
      refine rm_gs same_pre rfl rfl rfl ?_
      refine rm_gs same_pre rfl rfl rfl ?_
      refine rq_v (v_pick_f rfl rfl) ?_
      refine rq_v (v_move rfl) ?_
      refine rm_gs same_pre rfl rfl rfl ?_
      refine rm_gs same_pre rfl rfl rfl ?_
      refine rm_gs same_pre rfl rfl rfl ?_
      refine rm_gs same_pre rfl rfl rfl ?_
      refine rm_gs same_pre rfl rfl rfl ?_
      refine rm_gs same_pre rfl rfl rfl ?_
      refine rq_v (v_pick_f rfl rfl) ?_
      refine rq_v (v_move rfl) ?_
      refine rm_gs same_pre rfl rfl rfl ?_
      refine rm_gs same_pre rfl rfl rfl ?_
      refine rm_gs same_pre rfl rfl rfl ?_
      refine rm_gs same_pre rfl rfl rfl ?_
      refine rm_gs same_pre rfl rfl rfl ?_
      refine rm_gs same_pre rfl rfl rfl ?_
      refine rm_gs same_pre rfl rfl rfl ?_
      refine rm_gs same_pre rfl rfl rfl ?_
      refine rm_gs same_pre rfl rfl rfl ?_
      refine rm_gs same_pre rfl rfl rfl ?_
      refine rm_gs same_pre rfl rfl rfl ?_
      refine rm_gs same_pre rfl rfl rfl ?_
      refine rm_gs same_pre rfl rfl rfl ?_
      refine rm_gs same_pre rfl rfl rfl ?_
      refine rm_gs same_pre rfl rfl rfl ?_
      refine rm_gs same_pre rfl rfl rfl ?_
      refine rq_v (v_pick_f rfl rfl) ?_
      refine rm_end ?_; simp only [endM, hypF, ofE, argE]
      exact q_cut [(0, _), (1, _), (39, _)] ⟨rfl, rfl, rfl, trivial⟩ ⟨rfl, rfl⟩
    · skip
      refine tr_quiet (by kernel_rfl) (by kernel_rfl) ?_
      refine rq_v (v_move rfl) ?_
      refine rq_v (v_pne u_p_keyspan_Span rfl rfl) ?_
      refine rq_v (v_move rfl) ?_
      refine rq_gv rfl rfl (v_move rfl) ?_
      refine rq_gv rfl rfl (v_nilCheck_ptr rfl) ?_
      refine rq_gv rfl rfl (v_fieldAddr fa_keyspan_BoundedIter_6 rfl) ?_
      refine rq_gv rfl rfl (v_load one_p_bool rfl (by exact Bc.cell _ rfl)) ?_
      refine rq_gv rfl rfl (v_pne u_p_bool rfl rfl) ?_
      refine rq_v (v_pick_t rfl rfl) ?_
      refine rq_v (v_move rfl) ?_
      refine rm_gs same_pre rfl rfl rfl ?_
      refine rm_gs same_pre rfl rfl rfl ?_
      refine rm_gs same_pre rfl rfl rfl ?_
      refine rm_gs same_pre rfl rfl rfl ?_
      refine rm_gs same_pre rfl rfl rfl ?_
      refine rm_gs same_pre rfl rfl rfl ?_
      refine rq_v (v_pick_f rfl rfl) ?_
      refine rq_v (v_move rfl) ?_
      refine rm_gs same_pre rfl rfl rfl ?_
      refine rm_gs same_pre rfl rfl rfl ?_
      refine rm_gs same_pre rfl rfl rfl ?_
      refine rm_gs same_pre rfl rfl rfl ?_
      refine rm_gs same_pre rfl rfl rfl ?_
      refine rm_gs same_pre rfl rfl rfl ?_
      refine rm_gs same_pre rfl rfl rfl ?_
      refine rm_gs same_pre rfl rfl rfl ?_
      refine rm_gs same_pre rfl rfl rfl ?_
      refine rm_gs same_pre rfl rfl rfl ?_
      refine rm_gs same_pre rfl rfl rfl ?_
      refine rm_gs same_pre rfl rfl rfl ?_
      refine rm_gs same_pre rfl rfl rfl ?_
      refine rm_gs same_pre rfl rfl rfl ?_
      refine rm_gs same_pre rfl rfl rfl ?_
      refine rm_gs same_pre rfl rfl rfl ?_
      refine rq_v (v_pick_f rfl rfl) ?_
      refine rm_end ?_; simp only [endM, hypF, ofE, argE]
      exact q_cut [(0, _), (1, _), (39, _)] ⟨rfl, rfl, rfl, trivial⟩ ⟨rfl, rfl⟩
  rintro E h9 ⟨hh, rfl⟩
  subst hh
  refine tr_if_f rfl ?_
  refine tr_skip ?_
  refine q_thn ?_
  refine tr_seq ?_
  refine tr_reg ?_
  refine rs_v (v_move rfl) rfl ?_
  refine rs_v (v_assign rfl) rfl ?_
  refine rs_nil ?_
  refine q_thn ?_
  refine tr_ret ?_
  refine q_ret (res_tmp rfl rfl) ?_
  exact ⟨rfl, rfl⟩
end Go.Proofs.Ytgebfbnndgjkiaa

/- Thirty-eighth part: the iterator within bounds: its steps. Conditions: those that each theorem names. -/
namespace Go.Proofs.Ytgebfbnndgjkiaa
open Go.Tess Go.RowKit
set_option maxRecDepth 100000
set_option maxHeartbeats 1000000
/-- What a step of the iterator beneath and a check leave. -/
def Mid (W : List SpanD) (I : ItI) (t : TypeId) (v0 : Value) (c : Nat) (spl lov upv pp : Value) (Fin : Nat → Prop) (h : Heap) (q' : Pos) (C : SpanD → Bool) (r : Value) (h' : Heap) : Prop :=
  ∃ h1 Fin' x', I q' Fin' h1 ∧ KeepP Fin h h1 ∧ (∀ b, Fin' b → Fin b ∨ h.size ≤ b) ∧ ¬ Fin' c ∧ r = .pointer x' ∧ SpA Fin' h1 x' ((cur W q').filter C) ∧ Blk h' c (biL t v0 x' spl lov upv (.pointer none) pp 0) bT ∧ Keep [c] h1 h'
theorem mid_in {W : List SpanD} {I : ItI} {Fin : Nat → Prop} {h h1 : Heap} {q' : Pos} {r : Value} {c : Nat} {cs : List Value} (hp : ItPost W I Fin h q' r h1) (Bc : Blk h c cs bT) (hcF : ¬ Fin c) :
    ∃ Fin' x, r = .pointer x ∧ I q' Fin' h1 ∧ KeepP Fin h h1 ∧ (∀ b, Fin' b → Fin b ∨ h.size ≤ b) ∧ ¬ Fin' c ∧ SpA Fin' h1 x (cur W q') ∧ Blk h1 c cs bT := by
  obtain ⟨Fin', hI, hF, KP, hret⟩ := hp
  obtain ⟨x, rfl, hx⟩ := Ret.spa hret
  have hl := Bc.lt
  refine ⟨Fin', x, rfl, hI, KP, hF, fun hc => ?_, hx, KP.blk hcF Bc⟩
  rcases hF c hc with h1 | h1
  · exact hcF h1
  · omega
/-- Whether the span where it stands reaches a bound. -/
def stopN (up : Option ByteArray) (os : Option SpanD) : Bool := match os, up with
  | some s, some u => decide (0 ≤ cmpB s.e u)
  | _, _ => false
def stopP (lo : Option ByteArray) (os : Option SpanD) : Bool := match os, lo with
  | some s, some u => decide (cmpB s.s u ≤ 0)
  | _, _ => false

theorem c_BiError {W : List SpanD} {t : TypeId} {v0 : Value} {I : ItI} (χ : Chi) (hit : IterOK Try.prog χ W t v0 I) (h : Heap) (c : Nat) (sp : Option Addr) (spl lov upv pp : Value) (pos : Int) (lo up : Option ByteArray) (Fin : Nat → Prop) (q : Pos) (hEnv : ∀ {p F h}, I p F h → RBnd F h lov lo ∧ RBnd F h upv up)
    (hI : I q Fin h) (Bc : Blk h c (biL t v0 sp spl lov upv (.pointer none) pp pos) bT) (hcF : ¬ Fin c) :
    Cl Try.prog χ 128 #[.pointer (some ⟨c, 0, none⟩)] h (fun r h' => r = .nilIface ∧ h' = h) := by
  refine cl_intro Try.func128 rfl rfl rfl ?_
  have K : Keep [] h h := Keep.refl _ _
  refine tr_seq ?_
  refine tr_reg ?_
  refine rs_v (v_assign rfl) rfl ?_
  refine rs_nil ?_
  refine q_thn ?_
  refine tr_seq ?_
  refine tr_reg ?_
  refine rs_v (v_move rfl) rfl ?_
  refine rs_v (v_nilCheck_ptr rfl) rfl ?_
  refine rs_v (v_fieldAddr fa_keyspan_BoundedIter_0 rfl) rfl ?_
  refine rs_v (v_load one_keyspan_FragmentIterator rfl (by exact Bc.cell _ rfl)) rfl ?_
  refine rs_w (w_mcall (vs := []) (hit.err hI) rfl trivial) rfl ?_
  rintro _ h1 ⟨rfl, hsame⟩; have hsame := hsame.symm; subst hsame
  refine rs_v (v_assign rfl) rfl ?_
  refine rs_nil ?_
  refine q_thn ?_
  refine tr_ret ?_
  refine q_ret (res_tmp rfl rfl) ?_
  exact ⟨rfl, rfl⟩
theorem c_BiFirst {W : List SpanD} {t : TypeId} {v0 : Value} {I : ItI} (χ : Chi) (hit : IterOK Try.prog χ W t v0 I) (h : Heap) (c : Nat) (sp : Option Addr) (spl lov upv pp : Value) (pos : Int) (lo up : Option ByteArray) (Fin : Nat → Prop) (q : Pos) (hEnv : ∀ {p F h}, I p F h → RBnd F h lov lo ∧ RBnd F h upv up)
    (hI : I q Fin h) (Bc : Blk h c (biL t v0 sp spl lov upv (.pointer none) pp pos) bT) (hcF : ¬ Fin c)  :
    Cl Try.prog χ 129 #[.pointer (some ⟨c, 0, none⟩)] h (Mid W I t v0 c spl lov upv pp Fin h (pFirst W) (UpC up)) := by
  refine cl_intro Try.func129 rfl rfl rfl ?_
  have K : Keep [c] h h := Keep.refl _ _
  refine tr_seq ?_
  refine tr_reg ?_
  refine rs_v (v_assign rfl) rfl ?_
  refine rs_nil ?_
  refine q_thn ?_
  refine tr_seq ?_
  refine tr_reg ?_
  refine rs_v (v_move rfl) rfl ?_
  refine rs_v (v_nilCheck_ptr rfl) rfl ?_
  refine rs_v (v_fieldAddr fa_keyspan_BoundedIter_0 rfl) rfl ?_
  refine rs_v (v_load one_keyspan_FragmentIterator rfl (by exact Bc.cell _ rfl)) rfl ?_
  refine rs_w (w_mcall (vs := []) (hit.first hI) rfl trivial) rfl ?_
  rintro r1 h1 hp1
  obtain ⟨Fin', x1, rfl, hI1, KP, hF1, hcF1, hx1, Bc⟩ := mid_in hp1 Bc hcF
  obtain ⟨hlo1, hup1⟩ := hEnv hI1
  refine rs_v (v_assign rfl) rfl ?_
  refine rs_nil ?_
  refine q_thn ?_
  refine tr_seq ?_
  refine tr_reg ?_
  refine rs_v (v_move rfl) rfl ?_
  refine rs_v (v_move rfl) rfl ?_
  refine rs_w (w_call (vs := [_, _]) ok_keyspan_BoundedIter_checkPrefixSpanStart rfl ⟨rfl, rfl, trivial⟩ (c_checkPrefixSpanStart χ _ c t v0 _ _ _ _ _ _ x1 Bc)) rfl ?_
  rintro _ h2 ⟨rfl, hsame⟩; have hsame := hsame.symm; subst hsame
  refine rs_v (v_assign rfl) rfl ?_
  refine rs_nil ?_
  refine q_thn ?_
  refine tr_seq ?_
  refine tr_reg ?_
  refine rs_v (v_move rfl) rfl ?_
  refine rs_v (v_move rfl) rfl ?_
  refine rs_w (w_call (vs := [_, _]) ok_keyspan_BoundedIter_checkForwardBound rfl ⟨rfl, rfl, trivial⟩ (c_checkForwardBound χ _ c t v0 _ _ _ _ _ _ _ up Fin' Fin' x1 _ Bc hup1 hx1 hcF1)) rfl ?_
  rintro r2 h3 ⟨x2, rfl, hx2, Bc2, Kc⟩
  refine rs_v (v_assign rfl) rfl ?_
  refine rs_nil ?_
  refine q_thn ?_
  refine tr_ret ?_
  refine q_ret (res_tmp rfl rfl) ?_
  exact ⟨_, Fin', x2, hI1, KP, hF1, hcF1, rfl, hx2, Bc2, Kc⟩
theorem c_BiLast {W : List SpanD} {t : TypeId} {v0 : Value} {I : ItI} (χ : Chi) (hit : IterOK Try.prog χ W t v0 I) (h : Heap) (c : Nat) (sp : Option Addr) (spl lov upv pp : Value) (pos : Int) (lo up : Option ByteArray) (Fin : Nat → Prop) (q : Pos) (hEnv : ∀ {p F h}, I p F h → RBnd F h lov lo ∧ RBnd F h upv up)
    (hI : I q Fin h) (Bc : Blk h c (biL t v0 sp spl lov upv (.pointer none) pp pos) bT) (hcF : ¬ Fin c)  :
    Cl Try.prog χ 130 #[.pointer (some ⟨c, 0, none⟩)] h (Mid W I t v0 c spl lov upv pp Fin h (pLast W) (LoC lo)) := by
  refine cl_intro Try.func130 rfl rfl rfl ?_
  have K : Keep [c] h h := Keep.refl _ _
  refine tr_seq ?_
  refine tr_reg ?_
  refine rs_v (v_assign rfl) rfl ?_
  refine rs_nil ?_
  refine q_thn ?_
  refine tr_seq ?_
  refine tr_reg ?_
  refine rs_v (v_move rfl) rfl ?_
  refine rs_v (v_nilCheck_ptr rfl) rfl ?_
  refine rs_v (v_fieldAddr fa_keyspan_BoundedIter_0 rfl) rfl ?_
  refine rs_v (v_load one_keyspan_FragmentIterator rfl (by exact Bc.cell _ rfl)) rfl ?_
  refine rs_w (w_mcall (vs := []) (hit.last hI) rfl trivial) rfl ?_
  rintro r1 h1 hp1
  obtain ⟨Fin', x1, rfl, hI1, KP, hF1, hcF1, hx1, Bc⟩ := mid_in hp1 Bc hcF
  obtain ⟨hlo1, hup1⟩ := hEnv hI1
  refine rs_v (v_assign rfl) rfl ?_
  refine rs_nil ?_
  refine q_thn ?_
  refine tr_seq ?_
  refine tr_reg ?_
  refine rs_v (v_move rfl) rfl ?_
  refine rs_v (v_move rfl) rfl ?_
  refine rs_w (w_call (vs := [_, _]) ok_keyspan_BoundedIter_checkPrefixSpanEnd rfl ⟨rfl, rfl, trivial⟩ (c_checkPrefixSpanEnd χ _ c t v0 _ _ _ _ _ _ x1 Bc)) rfl ?_
  rintro _ h2 ⟨rfl, hsame⟩; have hsame := hsame.symm; subst hsame
  refine rs_v (v_assign rfl) rfl ?_
  refine rs_nil ?_
  refine q_thn ?_
  refine tr_seq ?_
  refine tr_reg ?_
  refine rs_v (v_move rfl) rfl ?_
  refine rs_v (v_move rfl) rfl ?_
  refine rs_w (w_call (vs := [_, _]) ok_keyspan_BoundedIter_checkBackwardBound rfl ⟨rfl, rfl, trivial⟩ (c_checkBackwardBound χ _ c t v0 _ _ _ _ _ _ _ lo Fin' Fin' x1 _ Bc hlo1 hx1 hcF1)) rfl ?_
  rintro r2 h3 ⟨x2, rfl, hx2, Bc2, Kc⟩
  refine rs_v (v_assign rfl) rfl ?_
  refine rs_nil ?_
  refine q_thn ?_
  refine tr_ret ?_
  refine q_ret (res_tmp rfl rfl) ?_
  exact ⟨_, Fin', x2, hI1, KP, hF1, hcF1, rfl, hx2, Bc2, Kc⟩
theorem c_BiSeekGE {W : List SpanD} {t : TypeId} {v0 : Value} {I : ItI} (χ : Chi) (hit : IterOK Try.prog χ W t v0 I) (h : Heap) (c : Nat) (sp : Option Addr) (spl lov upv pp : Value) (pos : Int) (lo up : Option ByteArray) (Fin : Nat → Prop) (q : Pos) (hEnv : ∀ {p F h}, I p F h → RBnd F h lov lo ∧ RBnd F h upv up)
    (hI : I q Fin h) (Bc : Blk h c (biL t v0 sp spl lov upv (.pointer none) pp pos) bT) (hcF : ¬ Fin c) (kv : Value) (key : ByteArray) (hk : RBytes (fun b => ¬ Fin b) h kv key) :
    Cl Try.prog χ 133 #[.pointer (some ⟨c, 0, none⟩), kv] h (Mid W I t v0 c spl lov upv pp Fin h (pGE W key) (UpC up)) := by
  refine cl_intro Try.func133 rfl rfl rfl ?_
  have K : Keep [c] h h := Keep.refl _ _
  refine tr_seq ?_
  refine tr_reg ?_
  refine rs_v (v_assign rfl) rfl ?_
  refine rs_nil ?_
  refine q_thn ?_
  refine tr_seq ?_
  refine tr_reg ?_
  refine rs_v (v_move rfl) rfl ?_
  refine rs_v (v_nilCheck_ptr rfl) rfl ?_
  refine rs_v (v_fieldAddr fa_keyspan_BoundedIter_0 rfl) rfl ?_
  refine rs_v (v_load one_keyspan_FragmentIterator rfl (by exact Bc.cell _ rfl)) rfl ?_
  refine rs_v (v_move rfl) rfl ?_
  refine rs_w (w_mcall (vs := [_]) (hit.ge hI hk) rfl ⟨rfl, trivial⟩) rfl ?_
  rintro r1 h1 hp1
  obtain ⟨Fin', x1, rfl, hI1, KP, hF1, hcF1, hx1, Bc⟩ := mid_in hp1 Bc hcF
  obtain ⟨hlo1, hup1⟩ := hEnv hI1
  refine rs_v (v_assign rfl) rfl ?_
  refine rs_nil ?_
  refine q_thn ?_
  refine tr_seq ?_
  refine tr_reg ?_
  refine rs_v (v_move rfl) rfl ?_
  refine rs_v (v_move rfl) rfl ?_
  refine rs_w (w_call (vs := [_, _]) ok_keyspan_BoundedIter_checkPrefixSpanStart rfl ⟨rfl, rfl, trivial⟩ (c_checkPrefixSpanStart χ _ c t v0 _ _ _ _ _ _ x1 Bc)) rfl ?_
  rintro _ h2 ⟨rfl, hsame⟩; have hsame := hsame.symm; subst hsame
  refine rs_v (v_assign rfl) rfl ?_
  refine rs_nil ?_
  refine q_thn ?_
  refine tr_seq ?_
  refine tr_reg ?_
  refine rs_v (v_move rfl) rfl ?_
  refine rs_v (v_move rfl) rfl ?_
  refine rs_w (w_call (vs := [_, _]) ok_keyspan_BoundedIter_checkPrefixSpanEnd rfl ⟨rfl, rfl, trivial⟩ (c_checkPrefixSpanEnd χ _ c t v0 _ _ _ _ _ _ x1 Bc)) rfl ?_
  rintro _ h3 ⟨rfl, hsame⟩; have hsame := hsame.symm; subst hsame
  refine rs_v (v_assign rfl) rfl ?_
  refine rs_nil ?_
  refine q_thn ?_
  refine tr_seq ?_
  refine tr_reg ?_
  refine rs_v (v_move rfl) rfl ?_
  refine rs_v (v_move rfl) rfl ?_
  refine rs_w (w_call (vs := [_, _]) ok_keyspan_BoundedIter_checkForwardBound rfl ⟨rfl, rfl, trivial⟩ (c_checkForwardBound χ _ c t v0 _ _ _ _ _ _ _ up Fin' Fin' x1 _ Bc hup1 hx1 hcF1)) rfl ?_
  rintro r2 h4 ⟨x2, rfl, hx2, Bc2, Kc⟩
  refine rs_v (v_assign rfl) rfl ?_
  refine rs_nil ?_
  refine q_thn ?_
  refine tr_ret ?_
  refine q_ret (res_tmp rfl rfl) ?_
  exact ⟨_, Fin', x2, hI1, KP, hF1, hcF1, rfl, hx2, Bc2, Kc⟩
theorem c_BiSeekLT {W : List SpanD} {t : TypeId} {v0 : Value} {I : ItI} (χ : Chi) (hit : IterOK Try.prog χ W t v0 I) (h : Heap) (c : Nat) (sp : Option Addr) (spl lov upv pp : Value) (pos : Int) (lo up : Option ByteArray) (Fin : Nat → Prop) (q : Pos) (hEnv : ∀ {p F h}, I p F h → RBnd F h lov lo ∧ RBnd F h upv up)
    (hI : I q Fin h) (Bc : Blk h c (biL t v0 sp spl lov upv (.pointer none) pp pos) bT) (hcF : ¬ Fin c) (kv : Value) (key : ByteArray) (hk : RBytes (fun b => ¬ Fin b) h kv key) :
    Cl Try.prog χ 134 #[.pointer (some ⟨c, 0, none⟩), kv] h (Mid W I t v0 c spl lov upv pp Fin h (pLT W key) (LoC lo)) := by
  refine cl_intro Try.func134 rfl rfl rfl ?_
  have K : Keep [c] h h := Keep.refl _ _
  refine tr_seq ?_
  refine tr_reg ?_
  refine rs_v (v_assign rfl) rfl ?_
  refine rs_nil ?_
  refine q_thn ?_
  refine tr_seq ?_
  refine tr_reg ?_
  refine rs_v (v_move rfl) rfl ?_
  refine rs_v (v_nilCheck_ptr rfl) rfl ?_
  refine rs_v (v_fieldAddr fa_keyspan_BoundedIter_0 rfl) rfl ?_
  refine rs_v (v_load one_keyspan_FragmentIterator rfl (by exact Bc.cell _ rfl)) rfl ?_
  refine rs_v (v_move rfl) rfl ?_
  refine rs_w (w_mcall (vs := [_]) (hit.lt hI hk) rfl ⟨rfl, trivial⟩) rfl ?_
  rintro r1 h1 hp1
  obtain ⟨Fin', x1, rfl, hI1, KP, hF1, hcF1, hx1, Bc⟩ := mid_in hp1 Bc hcF
  obtain ⟨hlo1, hup1⟩ := hEnv hI1
  refine rs_v (v_assign rfl) rfl ?_
  refine rs_nil ?_
  refine q_thn ?_
  refine tr_seq ?_
  refine tr_reg ?_
  refine rs_v (v_move rfl) rfl ?_
  refine rs_v (v_move rfl) rfl ?_
  refine rs_w (w_call (vs := [_, _]) ok_keyspan_BoundedIter_checkPrefixSpanStart rfl ⟨rfl, rfl, trivial⟩ (c_checkPrefixSpanStart χ _ c t v0 _ _ _ _ _ _ x1 Bc)) rfl ?_
  rintro _ h2 ⟨rfl, hsame⟩; have hsame := hsame.symm; subst hsame
  refine rs_v (v_assign rfl) rfl ?_
  refine rs_nil ?_
  refine q_thn ?_
  refine tr_seq ?_
  refine tr_reg ?_
  refine rs_v (v_move rfl) rfl ?_
  refine rs_v (v_move rfl) rfl ?_
  refine rs_w (w_call (vs := [_, _]) ok_keyspan_BoundedIter_checkPrefixSpanEnd rfl ⟨rfl, rfl, trivial⟩ (c_checkPrefixSpanEnd χ _ c t v0 _ _ _ _ _ _ x1 Bc)) rfl ?_
  rintro _ h3 ⟨rfl, hsame⟩; have hsame := hsame.symm; subst hsame
  refine rs_v (v_assign rfl) rfl ?_
  refine rs_nil ?_
  refine q_thn ?_
  refine tr_seq ?_
  refine tr_reg ?_
  refine rs_v (v_move rfl) rfl ?_
  refine rs_v (v_move rfl) rfl ?_
  refine rs_w (w_call (vs := [_, _]) ok_keyspan_BoundedIter_checkBackwardBound rfl ⟨rfl, rfl, trivial⟩ (c_checkBackwardBound χ _ c t v0 _ _ _ _ _ _ _ lo Fin' Fin' x1 _ Bc hlo1 hx1 hcF1)) rfl ?_
  rintro r2 h4 ⟨x2, rfl, hx2, Bc2, Kc⟩
  refine rs_v (v_assign rfl) rfl ?_
  refine rs_nil ?_
  refine q_thn ?_
  refine tr_ret ?_
  refine q_ret (res_tmp rfl rfl) ?_
  exact ⟨_, Fin', x2, hI1, KP, hF1, hcF1, rfl, hx2, Bc2, Kc⟩
theorem c_BiNextA {W : List SpanD} {t : TypeId} {v0 : Value} {I : ItI} (χ : Chi) (hit : IterOK Try.prog χ W t v0 I) (h : Heap) (c : Nat) (sp : Option Addr) (spl lov upv pp : Value) (pos : Int) (lo up : Option ByteArray) (Fin : Nat → Prop) (q : Pos) (hEnv : ∀ {p F h}, I p F h → RBnd F h lov lo ∧ RBnd F h upv up)
    (hI : I q Fin h) (Bc : Blk h c (biL t v0 sp spl lov upv (.pointer none) pp pos) bT) (hcF : ¬ Fin c) (hpos : pos = -1) :
    Cl Try.prog χ 131 #[.pointer (some ⟨c, 0, none⟩)] h (fun r h' => r = .pointer sp ∧ Blk h' c (biL t v0 sp spl lov upv (.pointer none) pp 0) bT ∧ Keep [c] h h') := by
  subst hpos
  unfold biL at Bc
  refine cl_intro Try.func131 rfl rfl rfl ?_
  have K : Keep [c] h h := Keep.refl _ _
  refine tr_seq ?_
  refine tr_reg ?_
  refine rs_v (v_assign rfl) rfl ?_
  refine rs_nil ?_
  refine q_thn ?_
  refine tr_seq ?_
  refine tr_reg ?_
  refine rs_v (v_move rfl) rfl ?_
  refine rs_v (v_nilCheck_ptr rfl) rfl ?_
  refine rs_v (v_fieldAddr fa_keyspan_BoundedIter_8 rfl) rfl ?_
  refine rs_v (v_load one_keyspan_boundedIterPos rfl (by exact Bc.cell _ rfl)) rfl ?_
  refine rs_nil ?_
  refine q_thn ?_
  refine tr_block ?_
  refine tr_seq ?_
  refine tr_reg ?_
  refine rs_v (v_eq rfl rfl) rfl ?_
  refine rs_v (v_assign rfl) rfl ?_
  refine rs_nil ?_
  refine q_thn ?_
  refine tr_if_t rfl ?_
  refine tr_seq ?_
  refine tr_reg ?_
  refine rs_v (v_move rfl) rfl ?_
  refine rs_v (v_nilCheck_ptr rfl) rfl ?_
  refine rs_v (v_fieldAddr fa_keyspan_BoundedIter_8 rfl) rfl ?_
  refine rs_w0 (w_put siz_keyspan_boundedIterPos rfl rfl rfl rfl Bc rfl) ?_
  rintro _ h1 ⟨B1, K1⟩
  have Bc := B1; have K := K.new1 K1 (by first | (right; omega) | (left; simp; done)); have Z1 := K1.1
  refine rs_nil ?_
  refine q_thn ?_
  refine tr_seq ?_
  refine tr_reg ?_
  refine rs_v (v_move rfl) rfl ?_
  refine rs_v (v_nilCheck_ptr rfl) rfl ?_
  refine rs_v (v_fieldAddr fa_keyspan_BoundedIter_1 rfl) rfl ?_
  refine rs_v (v_load one_p_keyspan_Span rfl (by exact Bc.cell _ rfl)) rfl ?_
  refine rs_v (v_assign rfl) rfl ?_
  refine rs_nil ?_
  refine q_thn ?_
  refine tr_ret ?_
  refine q_blk_ret ?_
  refine q_ret (res_tmp rfl rfl) ?_
  exact ⟨rfl, Bc, K⟩
theorem c_BiNextB {W : List SpanD} {t : TypeId} {v0 : Value} {I : ItI} (χ : Chi) (hit : IterOK Try.prog χ W t v0 I) (h : Heap) (c : Nat) (sp : Option Addr) (spl lov upv pp : Value) (pos : Int) (lo up : Option ByteArray) (Fin : Nat → Prop) (q : Pos) (hEnv : ∀ {p F h}, I p F h → RBnd F h lov lo ∧ RBnd F h upv up)
    (hI : I q Fin h) (Bc : Blk h c (biL t v0 sp spl lov upv (.pointer none) pp pos) bT) (hcF : ¬ Fin c) (hpos : pos = 0) (os : Option SpanD) (hx : SpA Fin h sp os) (hc : canNext q = true) :
    Cl Try.prog χ 131 #[.pointer (some ⟨c, 0, none⟩)] h (fun r h' => (stopN up os = true ∧ r = .pointer none ∧ Blk h' c (biL t v0 sp spl lov upv (.pointer none) pp 1) bT ∧ Keep [c] h h') ∨
      (stopN up os = false ∧ Mid W I t v0 c spl lov upv pp Fin h (pNext W q) (UpC up) r h')) := by
  subst hpos
  unfold biL at Bc
  obtain ⟨hlo, hup⟩ := hEnv hI
  obtain ⟨na, nn, nc, rfl⟩ := hlo.form
  obtain ⟨ma, mn, mc, rfl⟩ := hup.form
  refine cl_intro Try.func131 rfl rfl rfl ?_
  have K : Keep [c] h h := Keep.refl _ _
  refine tr_seq ?_
  refine tr_reg ?_
  refine rs_v (v_assign rfl) rfl ?_
  refine rs_nil ?_
  refine q_thn ?_
  refine tr_seq ?_
  refine tr_reg ?_
  refine rs_v (v_move rfl) rfl ?_
  refine rs_v (v_nilCheck_ptr rfl) rfl ?_
  refine rs_v (v_fieldAddr fa_keyspan_BoundedIter_8 rfl) rfl ?_
  refine rs_v (v_load one_keyspan_boundedIterPos rfl (by exact Bc.cell _ rfl)) rfl ?_
  refine rs_nil ?_
  refine q_thn ?_
  refine tr_block ?_
  refine tr_seq ?_
  refine tr_reg ?_
  refine rs_v (v_eq rfl rfl) rfl ?_
  refine rs_v (v_assign rfl) rfl ?_
  refine rs_nil ?_
  refine q_thn ?_
  refine tr_if_f rfl ?_
  refine tr_seq ?_
  refine tr_reg ?_
  refine rs_v (v_eq rfl rfl) rfl ?_
  refine rs_v (v_assign rfl) rfl ?_
  refine rs_nil ?_
  refine q_thn ?_
  refine tr_if_t rfl ?_
  refine tr_seq ?_
  refine tr_cut (fun E h' => h = h' ∧ E = [(0, .pointer (some ⟨c, 0, none⟩)), (50, .bool (stopN up os))]) ?_ ?_
  ·
    rcases os with _ | s
    rotate_left
    rcases up with _ | u
    rotate_left
    · obtain ⟨b, o, rfl, hFb, sv9, ev9, kv9, kk9, hcell, g1, g2, g3⟩ := hx
      obtain ⟨gb, go, gn, gc, e9, hu⟩ := hup
      cases e9
      refine tr_quiet (by kernel_rfl) (by kernel_rfl) ?_
      refine rq_v (v_move rfl) ?_
      refine rq_v (v_nilCheck_ptr rfl) ?_
      refine rq_v (v_fieldAddr fa_keyspan_BoundedIter_1 rfl) ?_
      refine rq_v (v_load one_p_keyspan_Span rfl (by exact Bc.cell _ rfl)) ?_
      refine rq_v (v_pne u_p_keyspan_Span rfl rfl) ?_
      refine rq_v (v_move rfl) ?_
      refine rq_gv rfl rfl (v_move rfl) ?_
      refine rq_gv rfl rfl (v_nilCheck_ptr rfl) ?_
      refine rq_gv rfl rfl (v_fieldAddr fa_keyspan_BoundedIter_5 rfl) ?_
      refine rq_gv rfl rfl (v_load one_sl_uint8 rfl (by exact Bc.cell _ rfl)) ?_
      refine rq_gv rfl rfl (v_snen u_sl_uint8 rfl rfl) ?_
      refine rq_v (v_pick_t rfl rfl) ?_
      refine rq_v (v_move rfl) ?_
      refine rq_gv rfl rfl (v_move rfl) ?_
      refine rq_gv rfl rfl (v_nilCheck_ptr rfl) ?_
      refine rq_gv rfl rfl (v_fieldAddr fa_keyspan_BoundedIter_2 rfl) ?_
      refine rq_gv rfl rfl (v_load one_base_Compare rfl (by exact Bc.cell _ rfl)) ?_
      refine rq_gv rfl rfl (v_move rfl) ?_
      refine rq_gv rfl rfl (v_nilCheck_ptr rfl) ?_
      refine rq_gv rfl rfl (v_fieldAddr fa_keyspan_BoundedIter_1 rfl) ?_
      refine rq_gv rfl rfl (v_load one_p_keyspan_Span rfl (by exact Bc.cell _ rfl)) ?_
      refine rq_gv rfl rfl (v_nilCheck_ptr rfl) ?_
      refine rq_gv rfl rfl (v_fieldAddr fa_keyspan_Span_1 rfl) ?_
      refine rq_gv rfl rfl (v_load one_sl_uint8 rfl (by exact hcell.at 1 rfl)) ?_
      refine rq_gv rfl rfl (v_move rfl) ?_
      refine rq_gv rfl rfl (v_nilCheck_ptr rfl) ?_
      refine rq_gv rfl rfl (v_fieldAddr fa_keyspan_BoundedIter_5 rfl) ?_
      refine rq_gv rfl rfl (v_load one_sl_uint8 rfl (by exact Bc.cell _ rfl)) ?_
      refine rq_gw rfl rfl (w_callv (first := []) (cap := []) (vs := [_, _]) ok_bytes_Compare rfl ⟨rfl, rfl, trivial⟩ (c_Compare χ _ _ _ s.e u (RBytes.by g2) (RBytes.by hu))) ?_
      refine rq_gv rfl rfl (v_ge rfl rfl) ?_
      refine rq_v (v_pick_t rfl rfl) ?_
      refine rm_end ?_; simp only [endM, hypF, ofE, argE]
      exact q_cut [(0, _), (50, _)] ⟨rfl, rfl, trivial⟩ ⟨rfl, rfl⟩
    · have e9 : sp = none := hx
      subst e9
      refine tr_quiet (by kernel_rfl) (by kernel_rfl) ?_
      refine rq_v (v_move rfl) ?_
      refine rq_v (v_nilCheck_ptr rfl) ?_
      refine rq_v (v_fieldAddr fa_keyspan_BoundedIter_1 rfl) ?_
      refine rq_v (v_load one_p_keyspan_Span rfl (by exact Bc.cell _ rfl)) ?_
      refine rq_v (v_pne u_p_keyspan_Span rfl rfl) ?_
      refine rq_v (v_move rfl) ?_
      refine rm_gs same_pre rfl rfl rfl ?_
      refine rm_gs same_pre rfl rfl rfl ?_
      refine rm_gs same_pre rfl rfl rfl ?_
      refine rm_gs same_pre rfl rfl rfl ?_
      refine rm_gs same_pre rfl rfl rfl ?_
      refine rq_v (v_pick_f rfl rfl) ?_
      refine rq_v (v_move rfl) ?_
      refine rm_gs same_pre rfl rfl rfl ?_
      refine rm_gs same_pre rfl rfl rfl ?_
      refine rm_gs same_pre rfl rfl rfl ?_
      refine rm_gs same_pre rfl rfl rfl ?_
      refine rm_gs same_pre rfl rfl rfl ?_
      refine rm_gs same_pre rfl rfl rfl ?_
      refine rm_gs same_pre rfl rfl rfl ?_
      refine rm_gs same_pre rfl rfl rfl ?_
      refine rm_gs same_pre rfl rfl rfl ?_
      refine rm_gs same_pre rfl rfl rfl ?_
      refine rm_gs same_pre rfl rfl rfl ?_
      refine rm_gs same_pre rfl rfl rfl ?_
      refine rm_gs same_pre rfl rfl rfl ?_
      refine rm_gs same_pre rfl rfl rfl ?_
      refine rm_gs same_pre rfl rfl rfl ?_
      refine rm_gs same_pre rfl rfl rfl ?_
      refine rm_gs same_pre rfl rfl rfl ?_
      refine rq_v (v_pick_f rfl rfl) ?_
      refine rm_end ?_; simp only [endM, hypF, ofE, argE]
      exact q_cut [(0, _), (50, _)] ⟨rfl, rfl, trivial⟩ ⟨rfl, rfl⟩
    · obtain ⟨b, o, rfl, hFb, hps⟩ := hx
      have e9 := hup
      simp only [RBnd] at e9
      cases e9
      refine tr_quiet (by kernel_rfl) (by kernel_rfl) ?_
      refine rq_v (v_move rfl) ?_
      refine rq_v (v_nilCheck_ptr rfl) ?_
      refine rq_v (v_fieldAddr fa_keyspan_BoundedIter_1 rfl) ?_
      refine rq_v (v_load one_p_keyspan_Span rfl (by exact Bc.cell _ rfl)) ?_
      refine rq_v (v_pne u_p_keyspan_Span rfl rfl) ?_
      refine rq_v (v_move rfl) ?_
      refine rq_gv rfl rfl (v_move rfl) ?_
      refine rq_gv rfl rfl (v_nilCheck_ptr rfl) ?_
      refine rq_gv rfl rfl (v_fieldAddr fa_keyspan_BoundedIter_5 rfl) ?_
      refine rq_gv rfl rfl (v_load one_sl_uint8 rfl (by exact Bc.cell _ rfl)) ?_
      refine rq_gv rfl rfl (v_snen u_sl_uint8 rfl rfl) ?_
      refine rq_v (v_pick_t rfl rfl) ?_
      refine rq_v (v_move rfl) ?_
      refine rm_gs same_pre rfl rfl rfl ?_
      refine rm_gs same_pre rfl rfl rfl ?_
      refine rm_gs same_pre rfl rfl rfl ?_
      refine rm_gs same_pre rfl rfl rfl ?_
      refine rm_gs same_pre rfl rfl rfl ?_
      refine rm_gs same_pre rfl rfl rfl ?_
      refine rm_gs same_pre rfl rfl rfl ?_
      refine rm_gs same_pre rfl rfl rfl ?_
      refine rm_gs same_pre rfl rfl rfl ?_
      refine rm_gs same_pre rfl rfl rfl ?_
      refine rm_gs same_pre rfl rfl rfl ?_
      refine rm_gs same_pre rfl rfl rfl ?_
      refine rm_gs same_pre rfl rfl rfl ?_
      refine rm_gs same_pre rfl rfl rfl ?_
      refine rm_gs same_pre rfl rfl rfl ?_
      refine rm_gs same_pre rfl rfl rfl ?_
      refine rm_gs same_pre rfl rfl rfl ?_
      refine rq_v (v_pick_f rfl rfl) ?_
      refine rm_end ?_; simp only [endM, hypF, ofE, argE]
      exact q_cut [(0, _), (50, _)] ⟨rfl, rfl, trivial⟩ ⟨rfl, rfl⟩
  rintro E h9 ⟨hh, rfl⟩
  subst hh
  refine tr_if rfl (fun hif => ?_) (fun hif => ?_)
  · -- yes
    skip
    refine tr_seq ?_
    refine tr_reg ?_
    refine rs_v (v_move rfl) rfl ?_
    refine rs_v (v_nilCheck_ptr rfl) rfl ?_
    refine rs_v (v_fieldAddr fa_keyspan_BoundedIter_8 rfl) rfl ?_
    refine rs_w0 (w_put siz_keyspan_boundedIterPos rfl rfl rfl rfl Bc rfl) ?_
    rintro _ h2 ⟨B2, K2⟩
    have Bc := B2; have K := K.new1 K2 (by first | (right; omega) | (left; simp; done)); have Z2 := K2.1
    refine rs_nil ?_
    refine q_thn ?_
    refine tr_seq ?_
    refine tr_reg ?_
    refine rs_v (v_assign rfl) rfl ?_
    refine rs_nil ?_
    refine q_thn ?_
    refine tr_ret ?_
    refine q_thn_ret ?_
    refine q_blk_ret ?_
    refine q_ret (res_tmp rfl rfl) ?_
    exact .inl ⟨hif, rfl, Bc, K⟩
  -- no
  have hstop := hif
  refine tr_skip ?_
  refine q_thn ?_
  refine tr_seq ?_
  refine tr_cut (fun E h' => h = h' ∧ E = [(0, .pointer (some ⟨c, 0, none⟩)), (73, .bool false)]) ?_ ?_
  ·
    rcases sp with _ | x
    · skip
      refine tr_reg ?_
      refine rs_v (v_move rfl) rfl ?_
      refine rs_v (v_nilCheck_ptr rfl) rfl ?_
      refine rs_v (v_fieldAddr fa_keyspan_BoundedIter_1 rfl) rfl ?_
      refine rs_v (v_load one_p_keyspan_Span rfl (by exact Bc.cell _ rfl)) rfl ?_
      refine rs_v (v_pne u_p_keyspan_Span rfl rfl) rfl ?_
      refine rs_v (v_move rfl) rfl ?_
      refine rs_gs rfl rfl rfl rfl ?_
      refine rs_gs rfl rfl rfl rfl ?_
      refine rs_gs rfl rfl rfl rfl ?_
      refine rs_gs rfl rfl rfl rfl ?_
      refine rs_gs rfl rfl rfl rfl ?_
      refine rs_v (v_pick_f rfl rfl) rfl ?_
      refine rs_v (v_move rfl) rfl ?_
      refine rs_gs rfl rfl rfl rfl ?_
      refine rs_gs rfl rfl rfl rfl ?_
      refine rs_gs rfl rfl rfl rfl ?_
      refine rs_gs rfl rfl rfl rfl ?_
      refine rs_gs rfl rfl rfl rfl ?_
      refine rs_gs rfl rfl rfl rfl ?_
      refine rs_v (v_pick_f rfl rfl) rfl ?_
      refine rs_nil ?_
      exact q_cut [(0, _), (73, _)] ⟨rfl, rfl, trivial⟩ ⟨rfl, rfl⟩
    · skip
      refine tr_reg ?_
      refine rs_v (v_move rfl) rfl ?_
      refine rs_v (v_nilCheck_ptr rfl) rfl ?_
      refine rs_v (v_fieldAddr fa_keyspan_BoundedIter_1 rfl) rfl ?_
      refine rs_v (v_load one_p_keyspan_Span rfl (by exact Bc.cell _ rfl)) rfl ?_
      refine rs_v (v_pne u_p_keyspan_Span rfl rfl) rfl ?_
      refine rs_v (v_move rfl) rfl ?_
      refine rs_gv rfl rfl (v_move rfl) rfl ?_
      refine rs_gv rfl rfl (v_nilCheck_ptr rfl) rfl ?_
      refine rs_gv rfl rfl (v_fieldAddr fa_keyspan_BoundedIter_6 rfl) rfl ?_
      refine rs_gv rfl rfl (v_load one_p_bool rfl (by exact Bc.cell _ rfl)) rfl ?_
      refine rs_gv rfl rfl (v_pne u_p_bool rfl rfl) rfl ?_
      refine rs_v (v_pick_t rfl rfl) rfl ?_
      refine rs_v (v_move rfl) rfl ?_
      refine rs_gs rfl rfl rfl rfl ?_
      refine rs_gs rfl rfl rfl rfl ?_
      refine rs_gs rfl rfl rfl rfl ?_
      refine rs_gs rfl rfl rfl rfl ?_
      refine rs_gs rfl rfl rfl rfl ?_
      refine rs_gs rfl rfl rfl rfl ?_
      refine rs_v (v_pick_f rfl rfl) rfl ?_
      refine rs_nil ?_
      exact q_cut [(0, _), (73, _)] ⟨rfl, rfl, trivial⟩ ⟨rfl, rfl⟩
  rintro E h9 ⟨hh, rfl⟩
  subst hh
  refine tr_if_f rfl ?_
  refine tr_skip ?_
  refine q_thn ?_
  refine tr_seq ?_
  refine tr_reg ?_
  refine rs_v (v_move rfl) rfl ?_
  refine rs_v (v_move rfl) rfl ?_
  refine rs_v (v_move rfl) rfl ?_
  refine rs_v (v_nilCheck_ptr rfl) rfl ?_
  refine rs_v (v_fieldAddr fa_keyspan_BoundedIter_0 rfl) rfl ?_
  refine rs_v (v_load one_keyspan_FragmentIterator rfl (by exact Bc.cell _ rfl)) rfl ?_
  refine rs_w (w_mcall (vs := []) (hit.next hI hc) rfl trivial) rfl ?_
  rintro r1 h4 hp1
  obtain ⟨Fin', x1, rfl, hI1, KP, hF1, hcF1, hx1, Bc⟩ := mid_in hp1 Bc hcF
  obtain ⟨hlo1, hup1⟩ := hEnv hI1
  refine rs_w (w_call (vs := [_, _]) ok_keyspan_BoundedIter_checkPrefixSpanStart rfl ⟨rfl, rfl, trivial⟩ (c_checkPrefixSpanStart χ _ c t v0 _ _ _ _ _ _ x1 Bc)) rfl ?_
  rintro _ h5 ⟨rfl, hsame⟩; have hsame := hsame.symm; subst hsame
  refine rs_w (w_call (vs := [_, _]) ok_keyspan_BoundedIter_checkForwardBound rfl ⟨rfl, rfl, trivial⟩ (c_checkForwardBound χ _ c t v0 _ _ _ _ _ _ _ up Fin' Fin' x1 _ Bc hup1 hx1 hcF1)) rfl ?_
  rintro r2 h6 ⟨x2, rfl, hx2, Bc2, Kc⟩
  refine rs_v (v_assign rfl) rfl ?_
  refine rs_nil ?_
  refine q_thn ?_
  refine tr_ret ?_
  refine q_blk_ret ?_
  refine q_ret (res_tmp rfl rfl) ?_
  exact .inr ⟨hstop, _, Fin', x2, hI1, KP, hF1, hcF1, rfl, hx2, Bc2, Kc⟩
theorem c_BiPrevA {W : List SpanD} {t : TypeId} {v0 : Value} {I : ItI} (χ : Chi) (hit : IterOK Try.prog χ W t v0 I) (h : Heap) (c : Nat) (sp : Option Addr) (spl lov upv pp : Value) (pos : Int) (lo up : Option ByteArray) (Fin : Nat → Prop) (q : Pos) (hEnv : ∀ {p F h}, I p F h → RBnd F h lov lo ∧ RBnd F h upv up)
    (hI : I q Fin h) (Bc : Blk h c (biL t v0 sp spl lov upv (.pointer none) pp pos) bT) (hcF : ¬ Fin c) (hpos : pos = 1) :
    Cl Try.prog χ 132 #[.pointer (some ⟨c, 0, none⟩)] h (fun r h' => r = .pointer sp ∧ Blk h' c (biL t v0 sp spl lov upv (.pointer none) pp 0) bT ∧ Keep [c] h h') := by
  subst hpos
  unfold biL at Bc
  refine cl_intro Try.func132 rfl rfl rfl ?_
  have K : Keep [c] h h := Keep.refl _ _
  refine tr_seq ?_
  refine tr_reg ?_
  refine rs_v (v_assign rfl) rfl ?_
  refine rs_nil ?_
  refine q_thn ?_
  refine tr_seq ?_
  refine tr_reg ?_
  refine rs_v (v_move rfl) rfl ?_
  refine rs_v (v_nilCheck_ptr rfl) rfl ?_
  refine rs_v (v_fieldAddr fa_keyspan_BoundedIter_8 rfl) rfl ?_
  refine rs_v (v_load one_keyspan_boundedIterPos rfl (by exact Bc.cell _ rfl)) rfl ?_
  refine rs_nil ?_
  refine q_thn ?_
  refine tr_block ?_
  refine tr_seq ?_
  refine tr_reg ?_
  refine rs_v (v_eq rfl rfl) rfl ?_
  refine rs_v (v_assign rfl) rfl ?_
  refine rs_nil ?_
  refine q_thn ?_
  refine tr_if_f rfl ?_
  refine tr_seq ?_
  refine tr_reg ?_
  refine rs_v (v_eq rfl rfl) rfl ?_
  refine rs_v (v_assign rfl) rfl ?_
  refine rs_nil ?_
  refine q_thn ?_
  refine tr_if_f rfl ?_
  refine tr_seq ?_
  refine tr_reg ?_
  refine rs_v (v_eq rfl rfl) rfl ?_
  refine rs_v (v_assign rfl) rfl ?_
  refine rs_nil ?_
  refine q_thn ?_
  refine tr_if_t rfl ?_
  refine tr_seq ?_
  refine tr_reg ?_
  refine rs_v (v_move rfl) rfl ?_
  refine rs_v (v_nilCheck_ptr rfl) rfl ?_
  refine rs_v (v_fieldAddr fa_keyspan_BoundedIter_8 rfl) rfl ?_
  refine rs_w0 (w_put siz_keyspan_boundedIterPos rfl rfl rfl rfl Bc rfl) ?_
  rintro _ h1 ⟨B1, K1⟩
  have Bc := B1; have K := K.new1 K1 (by first | (right; omega) | (left; simp; done)); have Z1 := K1.1
  refine rs_nil ?_
  refine q_thn ?_
  refine tr_seq ?_
  refine tr_reg ?_
  refine rs_v (v_move rfl) rfl ?_
  refine rs_v (v_nilCheck_ptr rfl) rfl ?_
  refine rs_v (v_fieldAddr fa_keyspan_BoundedIter_1 rfl) rfl ?_
  refine rs_v (v_load one_p_keyspan_Span rfl (by exact Bc.cell _ rfl)) rfl ?_
  refine rs_v (v_assign rfl) rfl ?_
  refine rs_nil ?_
  refine q_thn ?_
  refine tr_ret ?_
  refine q_blk_ret ?_
  refine q_ret (res_tmp rfl rfl) ?_
  exact ⟨rfl, Bc, K⟩
theorem c_BiPrevB {W : List SpanD} {t : TypeId} {v0 : Value} {I : ItI} (χ : Chi) (hit : IterOK Try.prog χ W t v0 I) (h : Heap) (c : Nat) (sp : Option Addr) (spl lov upv pp : Value) (pos : Int) (lo up : Option ByteArray) (Fin : Nat → Prop) (q : Pos) (hEnv : ∀ {p F h}, I p F h → RBnd F h lov lo ∧ RBnd F h upv up)
    (hI : I q Fin h) (Bc : Blk h c (biL t v0 sp spl lov upv (.pointer none) pp pos) bT) (hcF : ¬ Fin c) (hpos : pos = 0) (os : Option SpanD) (hx : SpA Fin h sp os) (hc : canPrev q = true) :
    Cl Try.prog χ 132 #[.pointer (some ⟨c, 0, none⟩)] h (fun r h' => (stopP lo os = true ∧ r = .pointer none ∧ Blk h' c (biL t v0 sp spl lov upv (.pointer none) pp (-1)) bT ∧ Keep [c] h h') ∨
      (stopP lo os = false ∧ Mid W I t v0 c spl lov upv pp Fin h (pPrev W q) (LoC lo) r h')) := by
  subst hpos
  unfold biL at Bc
  obtain ⟨hlo, hup⟩ := hEnv hI
  obtain ⟨na, nn, nc, rfl⟩ := hlo.form
  obtain ⟨ma, mn, mc, rfl⟩ := hup.form
  refine cl_intro Try.func132 rfl rfl rfl ?_
  have K : Keep [c] h h := Keep.refl _ _
  refine tr_seq ?_
  refine tr_reg ?_
  refine rs_v (v_assign rfl) rfl ?_
  refine rs_nil ?_
  refine q_thn ?_
  refine tr_seq ?_
  refine tr_reg ?_
  refine rs_v (v_move rfl) rfl ?_
  refine rs_v (v_nilCheck_ptr rfl) rfl ?_
  refine rs_v (v_fieldAddr fa_keyspan_BoundedIter_8 rfl) rfl ?_
  refine rs_v (v_load one_keyspan_boundedIterPos rfl (by exact Bc.cell _ rfl)) rfl ?_
  refine rs_nil ?_
  refine q_thn ?_
  refine tr_block ?_
  refine tr_seq ?_
  refine tr_reg ?_
  refine rs_v (v_eq rfl rfl) rfl ?_
  refine rs_v (v_assign rfl) rfl ?_
  refine rs_nil ?_
  refine q_thn ?_
  refine tr_if_f rfl ?_
  refine tr_seq ?_
  refine tr_reg ?_
  refine rs_v (v_eq rfl rfl) rfl ?_
  refine rs_v (v_assign rfl) rfl ?_
  refine rs_nil ?_
  refine q_thn ?_
  refine tr_if_t rfl ?_
  refine tr_seq ?_
  refine tr_cut (fun E h' => h = h' ∧ E = [(0, .pointer (some ⟨c, 0, none⟩)), (43, .bool (stopP lo os))]) ?_ ?_
  ·
    rcases os with _ | s
    rotate_left
    rcases lo with _ | u
    rotate_left
    · obtain ⟨b, o, rfl, hFb, sv9, ev9, kv9, kk9, hcell, g1, g2, g3⟩ := hx
      obtain ⟨gb, go, gn, gc, e9, hu⟩ := hlo
      cases e9
      refine tr_quiet (by kernel_rfl) (by kernel_rfl) ?_
      refine rq_v (v_move rfl) ?_
      refine rq_v (v_nilCheck_ptr rfl) ?_
      refine rq_v (v_fieldAddr fa_keyspan_BoundedIter_1 rfl) ?_
      refine rq_v (v_load one_p_keyspan_Span rfl (by exact Bc.cell _ rfl)) ?_
      refine rq_v (v_pne u_p_keyspan_Span rfl rfl) ?_
      refine rq_v (v_move rfl) ?_
      refine rq_gv rfl rfl (v_move rfl) ?_
      refine rq_gv rfl rfl (v_nilCheck_ptr rfl) ?_
      refine rq_gv rfl rfl (v_fieldAddr fa_keyspan_BoundedIter_4 rfl) ?_
      refine rq_gv rfl rfl (v_load one_sl_uint8 rfl (by exact Bc.cell _ rfl)) ?_
      refine rq_gv rfl rfl (v_snen u_sl_uint8 rfl rfl) ?_
      refine rq_v (v_pick_t rfl rfl) ?_
      refine rq_v (v_move rfl) ?_
      refine rq_gv rfl rfl (v_move rfl) ?_
      refine rq_gv rfl rfl (v_nilCheck_ptr rfl) ?_
      refine rq_gv rfl rfl (v_fieldAddr fa_keyspan_BoundedIter_2 rfl) ?_
      refine rq_gv rfl rfl (v_load one_base_Compare rfl (by exact Bc.cell _ rfl)) ?_
      refine rq_gv rfl rfl (v_move rfl) ?_
      refine rq_gv rfl rfl (v_nilCheck_ptr rfl) ?_
      refine rq_gv rfl rfl (v_fieldAddr fa_keyspan_BoundedIter_1 rfl) ?_
      refine rq_gv rfl rfl (v_load one_p_keyspan_Span rfl (by exact Bc.cell _ rfl)) ?_
      refine rq_gv rfl rfl (v_nilCheck_ptr rfl) ?_
      refine rq_gv rfl rfl (v_fieldAddr fa_keyspan_Span_0 rfl) ?_
      refine rq_gv rfl rfl (v_load one_sl_uint8 rfl (by exact hcell.at 0 rfl)) ?_
      refine rq_gv rfl rfl (v_move rfl) ?_
      refine rq_gv rfl rfl (v_nilCheck_ptr rfl) ?_
      refine rq_gv rfl rfl (v_fieldAddr fa_keyspan_BoundedIter_4 rfl) ?_
      refine rq_gv rfl rfl (v_load one_sl_uint8 rfl (by exact Bc.cell _ rfl)) ?_
      refine rq_gw rfl rfl (w_callv (first := []) (cap := []) (vs := [_, _]) ok_bytes_Compare rfl ⟨rfl, rfl, trivial⟩ (c_Compare χ _ _ _ s.s u (RBytes.by g1) (RBytes.by hu))) ?_
      refine rq_gv rfl rfl (v_le rfl rfl) ?_
      refine rq_v (v_pick_t rfl rfl) ?_
      refine rm_end ?_; simp only [endM, hypF, ofE, argE]
      exact q_cut [(0, _), (43, _)] ⟨rfl, rfl, trivial⟩ ⟨rfl, rfl⟩
    · have e9 : sp = none := hx
      subst e9
      refine tr_quiet (by kernel_rfl) (by kernel_rfl) ?_
      refine rq_v (v_move rfl) ?_
      refine rq_v (v_nilCheck_ptr rfl) ?_
      refine rq_v (v_fieldAddr fa_keyspan_BoundedIter_1 rfl) ?_
      refine rq_v (v_load one_p_keyspan_Span rfl (by exact Bc.cell _ rfl)) ?_
      refine rq_v (v_pne u_p_keyspan_Span rfl rfl) ?_
      refine rq_v (v_move rfl) ?_
      refine rm_gs same_pre rfl rfl rfl ?_
      refine rm_gs same_pre rfl rfl rfl ?_
      refine rm_gs same_pre rfl rfl rfl ?_
      refine rm_gs same_pre rfl rfl rfl ?_
      refine rm_gs same_pre rfl rfl rfl ?_
      refine rq_v (v_pick_f rfl rfl) ?_
      refine rq_v (v_move rfl) ?_
      refine rm_gs same_pre rfl rfl rfl ?_
      refine rm_gs same_pre rfl rfl rfl ?_
      refine rm_gs same_pre rfl rfl rfl ?_
      refine rm_gs same_pre rfl rfl rfl ?_
      refine rm_gs same_pre rfl rfl rfl ?_
      refine rm_gs same_pre rfl rfl rfl ?_
      refine rm_gs same_pre rfl rfl rfl ?_
      refine rm_gs same_pre rfl rfl rfl ?_
      refine rm_gs same_pre rfl rfl rfl ?_
      refine rm_gs same_pre rfl rfl rfl ?_
      refine rm_gs same_pre rfl rfl rfl ?_
      refine rm_gs same_pre rfl rfl rfl ?_
      refine rm_gs same_pre rfl rfl rfl ?_
      refine rm_gs same_pre rfl rfl rfl ?_
      refine rm_gs same_pre rfl rfl rfl ?_
      refine rm_gs same_pre rfl rfl rfl ?_
      refine rm_gs same_pre rfl rfl rfl ?_
      refine rq_v (v_pick_f rfl rfl) ?_
      refine rm_end ?_; simp only [endM, hypF, ofE, argE]
      exact q_cut [(0, _), (43, _)] ⟨rfl, rfl, trivial⟩ ⟨rfl, rfl⟩
    · obtain ⟨b, o, rfl, hFb, hps⟩ := hx
      have e9 := hlo
      simp only [RBnd] at e9
      cases e9
      refine tr_quiet (by kernel_rfl) (by kernel_rfl) ?_
      refine rq_v (v_move rfl) ?_
      refine rq_v (v_nilCheck_ptr rfl) ?_
      refine rq_v (v_fieldAddr fa_keyspan_BoundedIter_1 rfl) ?_
      refine rq_v (v_load one_p_keyspan_Span rfl (by exact Bc.cell _ rfl)) ?_
      refine rq_v (v_pne u_p_keyspan_Span rfl rfl) ?_
      refine rq_v (v_move rfl) ?_
      refine rq_gv rfl rfl (v_move rfl) ?_
      refine rq_gv rfl rfl (v_nilCheck_ptr rfl) ?_
      refine rq_gv rfl rfl (v_fieldAddr fa_keyspan_BoundedIter_4 rfl) ?_
      refine rq_gv rfl rfl (v_load one_sl_uint8 rfl (by exact Bc.cell _ rfl)) ?_
      refine rq_gv rfl rfl (v_snen u_sl_uint8 rfl rfl) ?_
      refine rq_v (v_pick_t rfl rfl) ?_
      refine rq_v (v_move rfl) ?_
      refine rm_gs same_pre rfl rfl rfl ?_
      refine rm_gs same_pre rfl rfl rfl ?_
      refine rm_gs same_pre rfl rfl rfl ?_
      refine rm_gs same_pre rfl rfl rfl ?_
      refine rm_gs same_pre rfl rfl rfl ?_
      refine rm_gs same_pre rfl rfl rfl ?_
      refine rm_gs same_pre rfl rfl rfl ?_
      refine rm_gs same_pre rfl rfl rfl ?_
      refine rm_gs same_pre rfl rfl rfl ?_
      refine rm_gs same_pre rfl rfl rfl ?_
      refine rm_gs same_pre rfl rfl rfl ?_
      refine rm_gs same_pre rfl rfl rfl ?_
      refine rm_gs same_pre rfl rfl rfl ?_
      refine rm_gs same_pre rfl rfl rfl ?_
      refine rm_gs same_pre rfl rfl rfl ?_
      refine rm_gs same_pre rfl rfl rfl ?_
      refine rm_gs same_pre rfl rfl rfl ?_
      refine rq_v (v_pick_f rfl rfl) ?_
      refine rm_end ?_; simp only [endM, hypF, ofE, argE]
      exact q_cut [(0, _), (43, _)] ⟨rfl, rfl, trivial⟩ ⟨rfl, rfl⟩
  rintro E h9 ⟨hh, rfl⟩
  subst hh
  refine tr_if rfl (fun hif => ?_) (fun hif => ?_)
  · -- yes
    skip
    refine tr_seq ?_
    refine tr_reg ?_
    refine rs_v (v_move rfl) rfl ?_
    refine rs_v (v_nilCheck_ptr rfl) rfl ?_
    refine rs_v (v_fieldAddr fa_keyspan_BoundedIter_8 rfl) rfl ?_
    refine rs_w0 (w_put siz_keyspan_boundedIterPos rfl rfl rfl rfl Bc rfl) ?_
    rintro _ h2 ⟨B2, K2⟩
    have Bc := B2; have K := K.new1 K2 (by first | (right; omega) | (left; simp; done)); have Z2 := K2.1
    refine rs_nil ?_
    refine q_thn ?_
    refine tr_seq ?_
    refine tr_reg ?_
    refine rs_v (v_assign rfl) rfl ?_
    refine rs_nil ?_
    refine q_thn ?_
    refine tr_ret ?_
    refine q_thn_ret ?_
    refine q_blk_ret ?_
    refine q_ret (res_tmp rfl rfl) ?_
    exact .inl ⟨hif, rfl, Bc, K⟩
  -- no
  have hstop := hif
  refine tr_skip ?_
  refine q_thn ?_
  refine tr_seq ?_
  refine tr_cut (fun E h' => h = h' ∧ E = [(0, .pointer (some ⟨c, 0, none⟩)), (66, .bool false)]) ?_ ?_
  ·
    rcases sp with _ | x
    · skip
      refine tr_reg ?_
      refine rs_v (v_move rfl) rfl ?_
      refine rs_v (v_nilCheck_ptr rfl) rfl ?_
      refine rs_v (v_fieldAddr fa_keyspan_BoundedIter_1 rfl) rfl ?_
      refine rs_v (v_load one_p_keyspan_Span rfl (by exact Bc.cell _ rfl)) rfl ?_
      refine rs_v (v_pne u_p_keyspan_Span rfl rfl) rfl ?_
      refine rs_v (v_move rfl) rfl ?_
      refine rs_gs rfl rfl rfl rfl ?_
      refine rs_gs rfl rfl rfl rfl ?_
      refine rs_gs rfl rfl rfl rfl ?_
      refine rs_gs rfl rfl rfl rfl ?_
      refine rs_gs rfl rfl rfl rfl ?_
      refine rs_v (v_pick_f rfl rfl) rfl ?_
      refine rs_v (v_move rfl) rfl ?_
      refine rs_gs rfl rfl rfl rfl ?_
      refine rs_gs rfl rfl rfl rfl ?_
      refine rs_gs rfl rfl rfl rfl ?_
      refine rs_gs rfl rfl rfl rfl ?_
      refine rs_gs rfl rfl rfl rfl ?_
      refine rs_gs rfl rfl rfl rfl ?_
      refine rs_v (v_pick_f rfl rfl) rfl ?_
      refine rs_nil ?_
      exact q_cut [(0, _), (66, _)] ⟨rfl, rfl, trivial⟩ ⟨rfl, rfl⟩
    · skip
      refine tr_reg ?_
      refine rs_v (v_move rfl) rfl ?_
      refine rs_v (v_nilCheck_ptr rfl) rfl ?_
      refine rs_v (v_fieldAddr fa_keyspan_BoundedIter_1 rfl) rfl ?_
      refine rs_v (v_load one_p_keyspan_Span rfl (by exact Bc.cell _ rfl)) rfl ?_
      refine rs_v (v_pne u_p_keyspan_Span rfl rfl) rfl ?_
      refine rs_v (v_move rfl) rfl ?_
      refine rs_gv rfl rfl (v_move rfl) rfl ?_
      refine rs_gv rfl rfl (v_nilCheck_ptr rfl) rfl ?_
      refine rs_gv rfl rfl (v_fieldAddr fa_keyspan_BoundedIter_6 rfl) rfl ?_
      refine rs_gv rfl rfl (v_load one_p_bool rfl (by exact Bc.cell _ rfl)) rfl ?_
      refine rs_gv rfl rfl (v_pne u_p_bool rfl rfl) rfl ?_
      refine rs_v (v_pick_t rfl rfl) rfl ?_
      refine rs_v (v_move rfl) rfl ?_
      refine rs_gs rfl rfl rfl rfl ?_
      refine rs_gs rfl rfl rfl rfl ?_
      refine rs_gs rfl rfl rfl rfl ?_
      refine rs_gs rfl rfl rfl rfl ?_
      refine rs_gs rfl rfl rfl rfl ?_
      refine rs_gs rfl rfl rfl rfl ?_
      refine rs_v (v_pick_f rfl rfl) rfl ?_
      refine rs_nil ?_
      exact q_cut [(0, _), (66, _)] ⟨rfl, rfl, trivial⟩ ⟨rfl, rfl⟩
  rintro E h9 ⟨hh, rfl⟩
  subst hh
  refine tr_if_f rfl ?_
  refine tr_skip ?_
  refine q_thn ?_
  refine tr_seq ?_
  refine tr_reg ?_
  refine rs_v (v_move rfl) rfl ?_
  refine rs_v (v_move rfl) rfl ?_
  refine rs_v (v_move rfl) rfl ?_
  refine rs_v (v_nilCheck_ptr rfl) rfl ?_
  refine rs_v (v_fieldAddr fa_keyspan_BoundedIter_0 rfl) rfl ?_
  refine rs_v (v_load one_keyspan_FragmentIterator rfl (by exact Bc.cell _ rfl)) rfl ?_
  refine rs_w (w_mcall (vs := []) (hit.prev hI hc) rfl trivial) rfl ?_
  rintro r1 h4 hp1
  obtain ⟨Fin', x1, rfl, hI1, KP, hF1, hcF1, hx1, Bc⟩ := mid_in hp1 Bc hcF
  obtain ⟨hlo1, hup1⟩ := hEnv hI1
  refine rs_w (w_call (vs := [_, _]) ok_keyspan_BoundedIter_checkPrefixSpanEnd rfl ⟨rfl, rfl, trivial⟩ (c_checkPrefixSpanEnd χ _ c t v0 _ _ _ _ _ _ x1 Bc)) rfl ?_
  rintro _ h5 ⟨rfl, hsame⟩; have hsame := hsame.symm; subst hsame
  refine rs_w (w_call (vs := [_, _]) ok_keyspan_BoundedIter_checkBackwardBound rfl ⟨rfl, rfl, trivial⟩ (c_checkBackwardBound χ _ c t v0 _ _ _ _ _ _ _ lo Fin' Fin' x1 _ Bc hlo1 hx1 hcF1)) rfl ?_
  rintro r2 h6 ⟨x2, rfl, hx2, Bc2, Kc⟩
  refine rs_v (v_assign rfl) rfl ?_
  refine rs_nil ?_
  refine q_thn ?_
  refine tr_ret ?_
  refine q_blk_ret ?_
  refine q_ret (res_tmp rfl rfl) ?_
  exact .inr ⟨hstop, _, Fin', x2, hI1, KP, hF1, hcF1, rfl, hx2, Bc2, Kc⟩
end Go.Proofs.Ytgebfbnndgjkiaa

/- Thirty-ninth part: the iterator within bounds stands for the spans that overlap them. Conditions: those that each theorem names. -/
namespace Go.Proofs.Ytgebfbnndgjkiaa
open Go.Tess Go.RowKit
set_option maxRecDepth 100000
set_option maxHeartbeats 1000000
/-- The spans that overlap the bounds stand together. -/
structure Seg (W : List SpanD) (lo up : Option ByteArray) (i0 i1 : Nat) : Prop where
  le : i0 ≤ i1
  len : i1 ≤ W.length
  lo : ∀ (j : Nat) s, W[j]? = some s → (LoC lo s = true ↔ i0 ≤ j)
  up : ∀ (j : Nat) s, W[j]? = some s → (UpC up s = true ↔ j < i1)
def segL (W : List SpanD) (i0 i1 : Nat) : List SpanD := (W.take i1).drop i0
theorem segL_get (W : List SpanD) (i0 i1 j : Nat) : (segL W i0 i1)[j]? = if i0 + j < i1 then W[i0 + j]? else none := by
  unfold segL
  rw [List.getElem?_drop, List.getElem?_take]
theorem segL_len {W : List SpanD} {i0 i1 : Nat} (h : i1 ≤ W.length) : (segL W i0 i1).length = i1 - i0 := by unfold segL; simp; omega
theorem mono_cut (P : SpanD → Bool) : ∀ (W : List SpanD), (∀ (i j : Nat) s t, i < j → W[i]? = some s → W[j]? = some t → P s = true → P t = true) → ∃ k, k ≤ W.length ∧ ∀ (j : Nat) s, W[j]? = some s → (P s = true ↔ k ≤ j)
  | [], _ => ⟨0, by simp, fun j s h => by simp at h⟩
  | x :: r, hm => by
    cases hp : P x with
    | true =>
      refine ⟨0, by simp, fun j s hs => ⟨fun _ => by omega, fun _ => ?_⟩⟩
      cases j with
      | zero => simp at hs; subst hs; exact hp
      | succ j => exact hm 0 (j + 1) x s (by omega) rfl hs hp
    | false =>
      obtain ⟨k, hk, h⟩ := mono_cut P r (fun i j s t hij hs ht => hm (i + 1) (j + 1) s t (by omega) (by simpa using hs) (by simpa using ht))
      refine ⟨k + 1, by simpa using hk, fun j s hs => ?_⟩
      cases j with
      | zero => simp at hs; subst hs; rw [hp]; simp
      | succ j => rw [h j s (by simpa using hs)]; omega
def ordB (lo up : Option ByteArray) : Prop := ∀ l u, lo = some l → up = some u → sle l u = true
theorem seg_ex {W : List SpanD} {lo up : Option ByteArray} (hO : Tess.Ord W) (hb : ordB lo up) : ∃ i0 i1, Seg W lo up i0 i1 := by
  obtain ⟨i0, h0, h1⟩ := mono_cut (LoC lo) W (fun i j s t hij hs ht hp => by
    cases lo with
    | none => rfl
    | some l => exact slt_of_slt_sle hp (hO.ends (by omega) hs ht))
  obtain ⟨i1, h2, h3⟩ := mono_cut (fun s => !(UpC up s)) W (fun i j s t hij hs ht hp => by
    cases up with
    | none => simp [UpC] at hp
    | some u =>
      simp only [UpC, Bool.not_eq_true'] at hp ⊢
      exact not_slt.2 (sle_trans (not_slt.1 hp) (hO.starts (by omega) hs ht)))
  have h4 : ∀ (j : Nat) s, W[j]? = some s → (UpC up s = true ↔ j < i1) := fun j s hs => by
    have := h3 j s hs
    cases hu : UpC up s <;> simp [hu] at this ⊢ <;> omega
  refine ⟨i0, i1, ?_, h2, h1, h4⟩
  rcases Nat.lt_or_ge i1 i0 with hlt | hge
  · exfalso
    have hl : i1 < W.length := by omega
    have e := List.getElem?_eq_getElem hl
    have a1 := h1 i1 _ e
    have a2 := h4 i1 _ e
    have b1 : LoC lo W[i1] = false := by cases hq : LoC lo W[i1] with
      | false => rfl
      | true => have := a1.1 hq; omega
    have b2 : UpC up W[i1] = false := by cases hq : UpC up W[i1] with
      | false => rfl
      | true => have := a2.1 hq; omega
    cases lo with
    | none => cases b1
    | some l =>
      cases up with
      | none => cases b2
      | some u =>
        have c1 := not_slt.1 b1
        have c2 := not_slt.1 b2
        have c3 := hO.1 W[i1] (List.getElem_mem hl)
        have c4 := slt_of_slt_sle (slt_of_sle_slt c2 c3) c1
        have c5 := hb l u rfl rfl
        rw [not_slt.2 c5] at c4; cases c4
  · exact hge
theorem filter_all {P : SpanD → Bool} {l : List SpanD} (h : ∀ s, s ∈ l → P s = true) : l.filter P = l := List.filter_eq_self.2 h
theorem filter_none {P : SpanD → Bool} {l : List SpanD} (h : ∀ s, s ∈ l → P s = false) : l.filter P = [] := List.filter_eq_nil_iff.2 fun s hs => by rw [h s hs]; decide
theorem seg_filter {W : List SpanD} {lo up : Option ByteArray} {i0 i1 : Nat} (hs : Seg W lo up i0 i1) : W.filter (fun s => LoC lo s && UpC up s) = segL W i0 i1 := by
  have e : W = (W.take i0 ++ segL W i0 i1) ++ W.drop i1 := by
    have : W.take i1 = W.take i0 ++ segL W i0 i1 := by
      unfold segL
      have h1 := (List.take_append_drop i0 (W.take i1)).symm
      rw [List.take_take, Nat.min_eq_left hs.le] at h1
      exact h1
    rw [← this, List.take_append_drop]
  have h1 : (W.take i0).filter (fun s => LoC lo s && UpC up s) = [] := filter_none fun s hm => by
    obtain ⟨j, hj, e1⟩ := List.mem_iff_getElem.1 hm
    have h2 : W[j]? = some s := by
      have : (W.take i0)[j]? = some s := by rw [List.getElem?_eq_getElem hj, e1]
      rw [List.getElem?_take] at this
      split at this
      · exact this
      · cases this
    have := hs.lo j s h2
    cases hq : LoC lo s with
    | false => rfl
    | true => have := this.1 hq; simp at hj; omega
  have h2 : (segL W i0 i1).filter (fun s => LoC lo s && UpC up s) = segL W i0 i1 := filter_all fun s hm => by
    obtain ⟨j, hj, e1⟩ := List.mem_iff_getElem.1 hm
    have h3 : (segL W i0 i1)[j]? = some s := by rw [List.getElem?_eq_getElem hj, e1]
    rw [segL_get] at h3
    split at h3
    · rename_i hlt
      rw [(hs.lo _ s h3).2 (by omega), (hs.up _ s h3).2 hlt]; rfl
    · cases h3
  have h3 : (W.drop i1).filter (fun s => LoC lo s && UpC up s) = [] := filter_none fun s hm => by
    obtain ⟨j, hj, e1⟩ := List.mem_iff_getElem.1 hm
    have h4 : W[i1 + j]? = some s := by
      have : (W.drop i1)[j]? = some s := by rw [List.getElem?_eq_getElem hj, e1]
      rwa [List.getElem?_drop] at this
    have := hs.up _ s h4
    cases hq : UpC up s with
    | false => simp
    | true => have := this.1 hq; omega
  conv => lhs; rw [e]
  rw [List.filter_append, List.filter_append, h1, h2, h3]; simp
/-- How the place in the list and the state beneath go together. -/
def relB (W : List SpanD) (i0 i1 : Nat) : Pos → Pos → Option SpanD → Int → Prop
  | .pt j, q, os, pos => pos = 0 ∧ q = .pt (i0 + j) ∧ i0 + j < i1 ∧ os = W[i0 + j]?
  | .behind, q, os, pos => (pos = 1 ∧ i0 < i1 ∧ q = .pt (i1 - 1) ∧ os = W[i1 - 1]?) ∨ (pos = 0 ∧ os = none ∧ q = if i1 < W.length then .pt i1 else .behind)
  | .ahead, q, os, pos => (pos = -1 ∧ i0 < i1 ∧ q = .pt i0 ∧ os = W[i0]?) ∨ (pos = 0 ∧ os = none ∧ q = if i0 = 0 then .ahead else .pt (i0 - 1))
  | .nowhere, _, _, _ => True
section
variable {W : List SpanD} {lo up : Option ByteArray} {i0 i1 : Nat} (hs : Seg W lo up i0 i1)
include hs
theorem fwd_rel {g : Nat} (h0 : i0 ≤ g) (h1 : g ≤ i1) : relB W i0 i1 (if g < i1 then .pt (g - i0) else .behind) (if g < W.length then .pt g else .behind) ((cur W (if g < W.length then .pt g else .behind)).filter (UpC up)) 0 ∧
    cur (segL W i0 i1) (if g < i1 then .pt (g - i0) else .behind) = (cur W (if g < W.length then .pt g else .behind)).filter (UpC up) := by
  have hl := hs.len
  by_cases hg : g < i1
  · have hgl : g < W.length := by omega
    have e := List.getElem?_eq_getElem hgl
    have hu := (hs.up g _ e).2 hg
    rw [if_pos hg, if_pos hgl]
    have e2 : i0 + (g - i0) = g := by omega
    simp only [cur, segL_get, e2, if_pos hg, e, Option.filter, hu, if_true, relB]
    refine ⟨⟨?_, ?_, ?_, ?_⟩, ?_⟩ <;> first | trivial | assumption | rfl
  · have eg : g = i1 := by omega
    subst eg
    rw [if_neg hg]
    by_cases hgl : g < W.length
    · have e := List.getElem?_eq_getElem hgl
      have hu : UpC up W[g] = false := by cases hq : UpC up W[g] with
        | false => rfl
        | true => have := (hs.up g _ e).1 hq; omega
      rw [if_pos hgl]
      have hz : (cur W (.pt g)).filter (UpC up) = none := by simp [cur, e, Option.filter, hu]
      rw [hz]
      exact ⟨.inr ⟨rfl, rfl, by rw [if_pos hgl]⟩, rfl⟩
    · rw [if_neg hgl]
      exact ⟨.inr ⟨rfl, rfl, by rw [if_neg hgl]⟩, rfl⟩
theorem bwd_rel {g : Nat} (h0 : i0 ≤ g) (h1 : g ≤ i1) : relB W i0 i1 (if g = i0 then .ahead else .pt (g - 1 - i0)) (if g = 0 then .ahead else .pt (g - 1)) ((cur W (if g = 0 then .ahead else .pt (g - 1))).filter (LoC lo)) 0 ∧
    cur (segL W i0 i1) (if g = i0 then .ahead else .pt (g - 1 - i0)) = (cur W (if g = 0 then .ahead else .pt (g - 1))).filter (LoC lo) := by
  have hl := hs.len
  by_cases hg : g = i0
  · subst hg
    rw [if_pos rfl]
    by_cases hz : g = 0
    · rw [if_pos hz]; exact ⟨.inr ⟨rfl, rfl, by rw [if_pos hz]⟩, rfl⟩
    · rw [if_neg hz]
      have hgl : g - 1 < W.length := by omega
      have e := List.getElem?_eq_getElem hgl
      have hu : LoC lo W[g - 1] = false := by cases hq : LoC lo W[g - 1] with
        | false => rfl
        | true => have := (hs.lo (g - 1) _ e).1 hq; omega
      have hn : (cur W (.pt (g - 1))).filter (LoC lo) = none := by simp [cur, e, Option.filter, hu]
      rw [hn]
      exact ⟨.inr ⟨rfl, rfl, by rw [if_neg hz]⟩, rfl⟩
  · have hz : ¬ g = 0 := by omega
    have hgl : g - 1 < W.length := by omega
    have e := List.getElem?_eq_getElem hgl
    have hu := (hs.lo (g - 1) _ e).2 (by omega)
    rw [if_neg hg, if_neg hz]
    have e2 : i0 + (g - 1 - i0) = g - 1 := by omega
    have e3 : g - 1 < i1 := by omega
    simp only [cur, segL_get, e2, if_pos e3, e, Option.filter, hu, if_true, relB]
    refine ⟨⟨?_, ?_, ?_, ?_⟩, ?_⟩ <;> first | trivial | assumption | rfl
theorem seg_ge (hO : Tess.Ord W) (key : ByteArray) (hl : ∀ l, lo = some l → sle l key = true) (hu : ∀ u, up = some u → sle key u = true) :
    i0 ≤ geI W key ∧ geI W key ≤ i1 ∧ geI (segL W i0 i1) key = geI W key - i0 := by
  have hlen := hs.len
  have key1 : ∃ g, g ≤ W.length ∧ geI W key = g ∧ (∀ (j : Nat) s, j < g → W[j]? = some s → sle s.e key = true) ∧ (g = W.length ∨ ∃ s, W[g]? = some s ∧ sle s.e key = false) := by
    obtain ⟨g, h1, h2⟩ := mono_cut (fun s => !(sle s.e key)) W (fun i j s t hij hs' ht hp => by
      simp only [Bool.not_eq_true'] at hp ⊢
      exact not_sle.2 (slt_of_slt_sle (not_sle.1 hp) (hO.ends (by omega) hs' ht)))
    have a1 : ∀ (j : Nat) s, j < g → W[j]? = some s → sle s.e key = true := fun j s hj hj2 => by
      have := h2 j s hj2
      cases hq : sle s.e key with
      | true => rfl
      | false => rw [hq] at this; have := this.1 rfl; omega
    have a2 : g = W.length ∨ ∃ s, W[g]? = some s ∧ sle s.e key = false := by
      rcases Nat.lt_or_ge g W.length with hlt | hge
      · refine .inr ⟨W[g], List.getElem?_eq_getElem hlt, ?_⟩
        have := (h2 g _ (List.getElem?_eq_getElem hlt)).2 (Nat.le_refl _)
        simpa using this
      · exact .inl (by omega)
    exact ⟨g, h1, geI_spec W key g a1 a2, a1, a2⟩
  obtain ⟨g, hgl, eg, a1, a2⟩ := key1
  rw [eg]
  have b0 : i0 ≤ g := by
    rcases a2 with e | ⟨s, e1, e2⟩
    · have := hs.le; omega
    · refine (hs.lo g s e1).1 ?_
      cases hlo : lo with
      | none => rfl
      | some l => exact slt_of_sle_slt (hl l hlo) (not_sle.1 e2)
  have b1 : g ≤ i1 := by
    rcases Nat.lt_or_ge i1 g with hlt | hge
    · exfalso
      have hl1 : i1 < W.length := by omega
      have e := List.getElem?_eq_getElem hl1
      have hx := a1 i1 _ hlt e
      have hx2 : UpC up W[i1] = false := by cases hq : UpC up W[i1] with
        | false => rfl
        | true => have := (hs.up i1 _ e).1 hq; omega
      cases hup : up with
      | none => rw [hup] at hx2; cases hx2
      | some u =>
        rw [hup] at hx2
        have c2 := not_slt.1 hx2
        have c3 := hO.1 W[i1] (List.getElem_mem hl1)
        have c4 := slt_of_slt_sle (slt_of_sle_slt (sle_trans (hu u hup) c2) c3) hx
        have c5 := sle_refl key
        rw [not_slt.2 c5] at c4; cases c4
    · exact hge
  refine ⟨b0, b1, geI_spec _ key (g - i0) (fun j s hj hj2 => ?_) ?_⟩
  · rw [segL_get] at hj2
    split at hj2
    · exact a1 (i0 + j) s (by omega) hj2
    · cases hj2
  · rw [segL_len hlen]
    by_cases hgi : g = i1
    · exact .inl (by omega)
    · rcases a2 with e | ⟨s, e1, e2⟩
      · omega
      · refine .inr ⟨s, ?_, e2⟩
        rw [segL_get, show i0 + (g - i0) = g from by omega, if_pos (by omega)]; exact e1
theorem seg_lt (hO : Tess.Ord W) (key : ByteArray) (hl : ∀ l, lo = some l → sle l key = true) (hu : ∀ u, up = some u → sle key u = true) :
    i0 ≤ ltI W key ∧ ltI W key ≤ i1 ∧ ltI (segL W i0 i1) key = ltI W key - i0 := by
  have hlen := hs.len
  have hle := hs.le
  obtain ⟨g, h1, h2⟩ := mono_cut (fun s => !(slt s.s key)) W (fun i j s t hij hs' ht hp => by
    simp only [Bool.not_eq_true'] at hp ⊢
    exact not_slt.2 (sle_trans (not_slt.1 hp) (hO.starts (by omega) hs' ht)))
  have a1 : ∀ (j : Nat) s, g ≤ j → W[j]? = some s → slt s.s key = false := fun j s hj hj2 => by
    have := (h2 j s hj2).2 hj
    simpa using this
  have a2 : ∀ (j : Nat) s, j < g → W[j]? = some s → slt s.s key = true := fun j s hj hj2 => by
    have := h2 j s hj2
    cases hq : slt s.s key with
    | true => rfl
    | false => rw [hq] at this; have := this.1 rfl; omega
  have eg : ltI W key = g := ltI_spec W key g a1 (by
    by_cases hz : g = 0
    · exact .inl hz
    · have hgl : g - 1 < W.length := by omega
      exact .inr ⟨_, List.getElem?_eq_getElem hgl, a2 (g - 1) _ (by omega) (List.getElem?_eq_getElem hgl)⟩)
  rw [eg]
  have b0 : i0 ≤ g := by
    rcases Nat.lt_or_ge g i0 with hlt | hge
    · exfalso
      have hgl : g < W.length := by omega
      have e := List.getElem?_eq_getElem hgl
      have hx := a1 g _ (Nat.le_refl _) e
      have hx2 : LoC lo W[g] = false := by cases hq : LoC lo W[g] with
        | false => rfl
        | true => have := (hs.lo g _ e).1 hq; omega
      cases hlo : lo with
      | none => rw [hlo] at hx2; cases hx2
      | some l =>
        rw [hlo] at hx2
        have c1 := not_slt.1 hx2
        have c3 := hO.1 W[g] (List.getElem_mem hgl)
        have c4 := slt_of_slt_sle c3 (sle_trans c1 (hl l hlo))
        rw [hx] at c4; cases c4
    · exact hge
  have b1 : g ≤ i1 := by
    rcases Nat.lt_or_ge i1 g with hlt | hge
    · exfalso
      have hl1 : g - 1 < W.length := by omega
      have e := List.getElem?_eq_getElem hl1
      have hx := a2 (g - 1) _ (by omega) e
      have hx2 : UpC up W[g - 1] = false := by cases hq : UpC up W[g - 1] with
        | false => rfl
        | true => have := (hs.up _ _ e).1 hq; omega
      cases hup : up with
      | none => rw [hup] at hx2; cases hx2
      | some u =>
        rw [hup] at hx2
        have c4 := slt_of_slt_sle hx (sle_trans (hu u hup) (not_slt.1 hx2))
        have c5 := sle_refl W[g - 1].s
        rw [not_slt.2 c5] at c4; cases c4
    · exact hge
  refine ⟨b0, b1, ltI_spec _ key (g - i0) (fun j s hj hj2 => ?_) ?_⟩
  · rw [segL_get] at hj2
    split at hj2
    · exact a1 (i0 + j) s (by omega) hj2
    · cases hj2
  · by_cases hgi : g = i0
    · exact .inl (by omega)
    · have hgl : g - 1 < W.length := by omega
      refine .inr ⟨W[g - 1], ?_, a2 (g - 1) _ (by omega) (List.getElem?_eq_getElem hgl)⟩
      rw [segL_get, show i0 + (g - i0 - 1) = g - 1 from by omega, if_pos (by omega)]
      exact List.getElem?_eq_getElem hgl
theorem stop_next (hO : Tess.Ord W) {j : Nat} (hj : i0 + j < i1) (h : stopN up W[i0 + j]? = true) : i1 = i0 + j + 1 := by
  have hlen := hs.len
  have hl : i0 + j < W.length := by omega
  rw [List.getElem?_eq_getElem hl] at h
  cases up with
  | none => cases h
  | some u =>
    simp only [stopN, decide_eq_true_eq] at h
    rcases Nat.lt_or_ge (i0 + j + 1) i1 with hlt | hge
    · exfalso
      have hl2 : i0 + j + 1 < W.length := by omega
      have e := List.getElem?_eq_getElem hl2
      have h1 := (hs.up _ _ e).2 hlt
      have h2 := hO.2 (i0 + j) _ _ (List.getElem?_eq_getElem hl) e
      have h3 : sle u W[i0 + j].e = true := sle_iff.2 (by rw [cmpB_anti W[i0 + j].e u]; omega)
      have h4 := slt_of_slt_sle h1 (sle_trans h3 h2)
      have c5 := sle_refl W[i0 + j + 1].s
      rw [not_slt.2 c5] at h4; cases h4
    · omega
theorem stop_prev (hO : Tess.Ord W) {j : Nat} (hj : i0 + j < i1) (h : stopP lo W[i0 + j]? = true) : j = 0 := by
  have hlen := hs.len
  have hl : i0 + j < W.length := by omega
  rw [List.getElem?_eq_getElem hl] at h
  cases lo with
  | none => cases h
  | some l =>
    simp only [stopP, decide_eq_true_eq] at h
    rcases Nat.eq_zero_or_pos j with hz | hz
    · exact hz
    · exfalso
      have hl2 : i0 + j - 1 < W.length := by omega
      have e := List.getElem?_eq_getElem hl2
      have h1 := (hs.lo _ _ e).2 (by omega)
      have h2 := hO.2 (i0 + j - 1) _ W[i0 + j] e (by rw [show i0 + j - 1 + 1 = i0 + j from by omega]; exact List.getElem?_eq_getElem hl)
      have h3 : sle W[i0 + j].s l = true := sle_iff.2 h
      have h4 := slt_of_slt_sle h1 (sle_trans h2 h3)
      have c5 := sle_refl l
      rw [not_slt.2 c5] at h4; cases h4
end

end Go.Proofs.Ytgebfbnndgjkiaa

/- Fortieth part: the iterator within bounds, whole. Conditions: those that each theorem names. -/
namespace Go.Proofs.Ytgebfbnndgjkiaa
open Go.Tess Go.RowKit
set_option maxRecDepth 100000
set_option maxHeartbeats 1000000
theorem SpA.mono {F F' : Nat → Prop} {h : Heap} {x : Option Addr} {os : Option SpanD} (hr : SpA F h x os) (s : ∀ b, F b → F' b) : SpA F' h x os := by
  cases os with
  | none => exact hr
  | some t => obtain ⟨b, o, e, h1, h2⟩ := hr; exact ⟨b, o, e, s b h1, h2.mono s⟩
section
variable (W : List SpanD) (I : ItI) (t : TypeId) (v0 : Value) (c i0 i1 : Nat) (lo up : Option ByteArray) (lov upv spl pp : Value)
structure BSt (q : Pos) (Fin F : Nat → Prop) (h : Heap) (sp : Option Addr) (os : Option SpanD) (pos : Int) : Prop where
  hI : I q Fin h
  B : Blk h c (biL t v0 sp spl lov upv (.pointer none) pp pos) bT
  sp : SpA Fin h sp os
  fc : ¬ Fin c
  s1 : ∀ b, Fin b → F b
  s2 : F c
  fl : Low F h
def BIt : ItI := fun p F h => ∃ q Fin sp os pos, BSt I t v0 c lov upv spl pp q Fin F h sp os pos ∧ relB W i0 i1 p q os pos
end
section
variable {W : List SpanD} {I : ItI} {t : TypeId} {v0 : Value} {c i0 i1 : Nat} {lo up : Option ByteArray} {lov upv spl pp : Value} {q : Pos} {Fin F : Nat → Prop} {h : Heap} {sp : Option Addr} {os : Option SpanD} {pos : Int}
theorem bst_fin {χ : Chi} (hit : IterOK Try.prog χ W t v0 I) (hst : BSt I t v0 c lov upv spl pp q Fin F h sp os pos) {q' p' : Pos} {C : SpanD → Bool} {r : Value} {h' : Heap} (hm : Mid W I t v0 c spl lov upv pp Fin h q' C r h')
    (hrel : relB W i0 i1 p' q' ((cur W q').filter C) 0) (hcur : cur (segL W i0 i1) p' = (cur W q').filter C) : ItPost (segL W i0 i1) (BIt W I t v0 c i0 i1 lov upv spl pp) F h p' r h' := by
  obtain ⟨h1, Fin', x', hI1, KP, hF1, hcF1, rfl, hx, B, Kc⟩ := hm
  have hl1 := hit.low hI1
  have hz := KP.1
  have hz2 := Kc.1
  have hcl := hst.B.lt
  have sF : Stab Fin' h1 h' := Kc.stab fun b hb => ⟨hl1 b hb, fun hm => hcF1 (by rw [List.mem_singleton] at hm; rw [← hm]; exact hb)⟩
  refine ⟨fun b => F b ∨ Fin' b, ⟨q', Fin', x', _, 0, ⟨hit.stab hI1 sF hz2, B, hx.stab sF, hcF1, fun b hb => .inr hb, .inl hst.s2, fun b hb => ?_⟩, hrel⟩, fun b hb => ?_, ?_, ?_⟩
  · rcases hb with hb | hb
    · have := hst.fl b hb; omega
    · have := hl1 b hb; omega
  · rcases hb with hb | hb
    · exact .inl hb
    · rcases hF1 b hb with h2 | h2
      · exact .inl (hst.s1 b h2)
      · exact .inr h2
  · refine ⟨by omega, fun b hb hF => ?_⟩
    rw [Kc.2 b (by omega) (fun hm => hF (by rw [List.mem_singleton] at hm; rw [hm]; exact hst.s2))]
    exact KP.2 b hb (fun hf => hF (hst.s1 b hf))
  · exact SpA.ret (by rw [hcur]; exact (hx.stab sF).mono fun b hb => .inr hb)
theorem bst_same {χ : Chi} (hit : IterOK Try.prog χ W t v0 I) (hst : BSt I t v0 c lov upv spl pp q Fin F h sp os pos) {p' : Pos} {pos' : Int} {x' : Option Addr} {h' : Heap} (B : Blk h' c (biL t v0 sp spl lov upv (.pointer none) pp pos') bT) (Kc : Keep [c] h h')
    (hrel : relB W i0 i1 p' q os pos') (hx : SpA Fin h x' (cur (segL W i0 i1) p')) : ItPost (segL W i0 i1) (BIt W I t v0 c i0 i1 lov upv spl pp) F h p' (.pointer x') h' := by
  have hl1 := hit.low hst.hI
  have hz2 := Kc.1
  have sF : Stab Fin h h' := Kc.stab fun b hb => ⟨hl1 b hb, fun hm => hst.fc (by rw [List.mem_singleton] at hm; rw [← hm]; exact hb)⟩
  refine ⟨F, ⟨q, Fin, sp, os, pos', ⟨hit.stab hst.hI sF hz2, B, hst.sp.stab sF, hst.fc, hst.s1, hst.s2, fun b hb => by have := hst.fl b hb; omega⟩, hrel⟩,
    fun b hb => .inl hb, Kc.kp (fun x hx => by rw [List.mem_singleton] at hx; rw [hx]; exact hst.s2), SpA.ret ((hx.stab sF).mono hst.s1)⟩
end
/-- The steps that may be asked within bounds. -/
def AlB (lo up : Option ByteArray) (s : StepD) : Prop := (s.op = 0 → lo = none) ∧ (s.op = 1 → up = none) ∧ ((s.op = 4 ∨ s.op = 5) → (∀ l, lo = some l → sle l s.key = true) ∧ ∀ u, up = some u → sle s.key u = true)
theorem seg_lo0 {W : List SpanD} {up : Option ByteArray} {i0 i1 : Nat} (hs : Seg W none up i0 i1) : i0 = 0 := by
  rcases Nat.eq_zero_or_pos W.length with h | h
  · have := hs.le; have := hs.len; omega
  · have := (hs.lo 0 _ (List.getElem?_eq_getElem h)).1 rfl; omega
theorem seg_up0 {W : List SpanD} {lo : Option ByteArray} {i0 i1 : Nat} (hs : Seg W lo none i0 i1) : i1 = W.length := by
  rcases Nat.lt_or_ge i1 W.length with h | h
  · have := (hs.up i1 _ (List.getElem?_eq_getElem h)).1 rfl; omega
  · have := hs.len; omega
theorem m_BiFirst (v : Value) : Meth Try.prog 148 v "First" 129 v := fun _ => by kernel_rfl
theorem m_BiLast (v : Value) : Meth Try.prog 148 v "Last" 130 v := fun _ => by kernel_rfl
theorem m_BiNext (v : Value) : Meth Try.prog 148 v "Next" 131 v := fun _ => by kernel_rfl
theorem m_BiPrev (v : Value) : Meth Try.prog 148 v "Prev" 132 v := fun _ => by kernel_rfl
theorem m_BiSeekGE (v : Value) : Meth Try.prog 148 v "SeekGE" 133 v := fun _ => by kernel_rfl
theorem m_BiSeekLT (v : Value) : Meth Try.prog 148 v "SeekLT" 134 v := fun _ => by kernel_rfl
theorem pNext_pt (W : List SpanD) (j : Nat) : pNext W (.pt j) = if j + 1 < W.length then .pt (j + 1) else .behind := rfl
theorem pNext_ahead (W : List SpanD) : pNext W .ahead = if 0 < W.length then .pt 0 else .behind := rfl
theorem pPrev_pt (W : List SpanD) (j : Nat) : pPrev W (.pt j) = if j = 0 then .ahead else .pt (j - 1) := rfl
theorem pPrev_behind (W : List SpanD) : pPrev W .behind = if W.length = 0 then .ahead else .pt (W.length - 1) := rfl
section
variable {χ : Chi} {W : List SpanD} {I : ItI} {t : TypeId} {v0 : Value} {c i0 i1 : Nat} {lo up : Option ByteArray} {lov upv spl pp : Value} (hEnv : ∀ {p F h}, I p F h → RBnd F h lov lo ∧ RBnd F h upv up) (hit : IterOK Try.prog χ W t v0 I) (hO : Tess.Ord W) (hs : Seg W lo up i0 i1)
include hEnv hit hO hs
theorem bi_first {p : Pos} {F : Nat → Prop} {h : Heap} (hlo : lo = none) (hI : BIt W I t v0 c i0 i1 lov upv spl pp p F h) : MCall Try.prog χ 148 (.pointer (some ⟨c, 0, none⟩)) "First" [] h (ItPost (segL W i0 i1) (BIt W I t v0 c i0 i1 lov upv spl pp) F h (pFirst (segL W i0 i1))) := by
  obtain ⟨q, Fin, sp, os, pos, hst, _⟩ := hI
  refine ⟨_, _, ok_keyspan_BoundedIter_First, m_BiFirst _, (c_BiFirst χ hit h c sp spl lov upv pp pos lo up Fin q hEnv hst.hI hst.B hst.fc).mono fun r h' hm => ?_⟩
  subst hlo
  have e0 := seg_lo0 hs
  subst e0
  have hlen := segL_len (i0 := 0) hs.len
  have hl := hs.len
  rcases Nat.eq_zero_or_pos W.length with hz | hz
  · have e1 : pFirst W = .nowhere := by simp [pFirst, hz]
    have e2 : pFirst (segL W 0 i1) = .nowhere := by unfold pFirst; rw [if_pos (by omega)]
    rw [e1] at hm; rw [e2]
    exact bst_fin hit hst hm trivial rfl
  · have e1 : pFirst W = .pt 0 := by unfold pFirst; rw [if_neg (by omega)]
    have hf := fwd_rel hs (g := 0) (by omega) (by omega)
    rw [if_pos hz] at hf
    rw [e1] at hm
    by_cases h1 : 0 < i1
    · rw [if_pos h1] at hf
      have e2 : pFirst (segL W 0 i1) = .pt 0 := by unfold pFirst; rw [if_neg (by omega)]
      rw [e2]
      exact bst_fin hit hst hm hf.1 hf.2
    · rw [if_neg h1] at hf
      have e2 : pFirst (segL W 0 i1) = .nowhere := by unfold pFirst; rw [if_pos (by omega)]
      rw [e2]
      exact bst_fin hit hst hm trivial hf.2
theorem bi_last {p : Pos} {F : Nat → Prop} {h : Heap} (hup : up = none) (hI : BIt W I t v0 c i0 i1 lov upv spl pp p F h) : MCall Try.prog χ 148 (.pointer (some ⟨c, 0, none⟩)) "Last" [] h (ItPost (segL W i0 i1) (BIt W I t v0 c i0 i1 lov upv spl pp) F h (pLast (segL W i0 i1))) := by
  obtain ⟨q, Fin, sp, os, pos, hst, _⟩ := hI
  refine ⟨_, _, ok_keyspan_BoundedIter_Last, m_BiLast _, (c_BiLast χ hit h c sp spl lov upv pp pos lo up Fin q hEnv hst.hI hst.B hst.fc).mono fun r h' hm => ?_⟩
  subst hup
  have e0 := seg_up0 hs
  have hlen := segL_len (i0 := i0) hs.len
  have hle := hs.le
  rcases Nat.eq_zero_or_pos W.length with hz | hz
  · have e1 : pLast W = .nowhere := by simp [pLast, hz]
    have e2 : pLast (segL W i0 i1) = .nowhere := by unfold pLast; rw [if_pos (by omega)]
    rw [e1] at hm; rw [e2]
    exact bst_fin hit hst hm trivial rfl
  · have e1 : pLast W = .pt (W.length - 1) := by unfold pLast; rw [if_neg (by omega)]
    have hf := bwd_rel hs (g := W.length) (by omega) (by omega)
    rw [if_neg (show ¬ W.length = 0 from by omega)] at hf
    rw [e1] at hm
    by_cases h1 : W.length = i0
    · rw [if_pos h1] at hf
      have e2 : pLast (segL W i0 i1) = .nowhere := by unfold pLast; rw [if_pos (by omega)]
      rw [e2]
      exact bst_fin hit hst hm trivial hf.2
    · rw [if_neg h1] at hf
      have e2 : pLast (segL W i0 i1) = .pt (W.length - 1 - i0) := by unfold pLast; rw [if_neg (by omega), hlen]; congr 1; omega
      rw [e2]
      exact bst_fin hit hst hm hf.1 hf.2
theorem bi_ge {p : Pos} {F : Nat → Prop} {h : Heap} {kv : Value} {key : ByteArray} (hl : ∀ l, lo = some l → sle l key = true) (hu : ∀ u, up = some u → sle key u = true) (hI : BIt W I t v0 c i0 i1 lov upv spl pp p F h) (hk : RBytes (fun b => ¬ F b) h kv key) :
    MCall Try.prog χ 148 (.pointer (some ⟨c, 0, none⟩)) "SeekGE" [kv] h (ItPost (segL W i0 i1) (BIt W I t v0 c i0 i1 lov upv spl pp) F h (pGE (segL W i0 i1) key)) := by
  obtain ⟨q, Fin, sp, os, pos, hst, _⟩ := hI
  refine ⟨_, _, ok_keyspan_BoundedIter_SeekGE, m_BiSeekGE _, (c_BiSeekGE χ hit h c sp spl lov upv pp pos lo up Fin q hEnv hst.hI hst.B hst.fc kv key (hk.mono fun b hb hf => hb (hst.s1 b hf))).mono fun r h' hm => ?_⟩
  obtain ⟨a1, a2, a3⟩ := seg_ge hs hO key hl hu
  have hlen := segL_len (i0 := i0) hs.len
  have hf := fwd_rel hs a1 a2
  have e2 : pGE (segL W i0 i1) key = if geI W key < i1 then .pt (geI W key - i0) else .behind := by
    unfold pGE; rw [a3, hlen]
    by_cases h1 : geI W key < i1
    · rw [if_pos h1, if_pos (by omega)]
    · rw [if_neg h1, if_neg (by omega)]
  rw [e2]
  exact bst_fin hit hst hm hf.1 hf.2
theorem bi_lt {p : Pos} {F : Nat → Prop} {h : Heap} {kv : Value} {key : ByteArray} (hl : ∀ l, lo = some l → sle l key = true) (hu : ∀ u, up = some u → sle key u = true) (hI : BIt W I t v0 c i0 i1 lov upv spl pp p F h) (hk : RBytes (fun b => ¬ F b) h kv key) :
    MCall Try.prog χ 148 (.pointer (some ⟨c, 0, none⟩)) "SeekLT" [kv] h (ItPost (segL W i0 i1) (BIt W I t v0 c i0 i1 lov upv spl pp) F h (pLT (segL W i0 i1) key)) := by
  obtain ⟨q, Fin, sp, os, pos, hst, _⟩ := hI
  refine ⟨_, _, ok_keyspan_BoundedIter_SeekLT, m_BiSeekLT _, (c_BiSeekLT χ hit h c sp spl lov upv pp pos lo up Fin q hEnv hst.hI hst.B hst.fc kv key (hk.mono fun b hb hf => hb (hst.s1 b hf))).mono fun r h' hm => ?_⟩
  obtain ⟨a1, a2, a3⟩ := seg_lt hs hO key hl hu
  have hf := bwd_rel hs a1 a2
  have e2 : pLT (segL W i0 i1) key = if ltI W key = i0 then .ahead else .pt (ltI W key - 1 - i0) := by
    unfold pLT; rw [a3]
    by_cases h1 : ltI W key = i0
    · rw [if_pos h1, if_pos (by omega)]
    · rw [if_neg h1, if_neg (by omega)]; congr 1; omega
  rw [e2]
  exact bst_fin hit hst hm hf.1 hf.2
theorem bi_next {p : Pos} {F : Nat → Prop} {h : Heap} (hI : BIt W I t v0 c i0 i1 lov upv spl pp p F h) (hc : canNext p = true) : MCall Try.prog χ 148 (.pointer (some ⟨c, 0, none⟩)) "Next" [] h (ItPost (segL W i0 i1) (BIt W I t v0 c i0 i1 lov upv spl pp) F h (pNext (segL W i0 i1) p)) := by
  obtain ⟨q, Fin, sp, os, pos, hst, hrel⟩ := hI
  have hlen := segL_len (i0 := i0) hs.len
  have hl := hs.len
  have hle := hs.le
  cases p with
  | behind => cases hc
  | nowhere => cases hc
  | pt j =>
    obtain ⟨rfl, rfl, hj, rfl⟩ := hrel
    refine ⟨_, _, ok_keyspan_BoundedIter_Next, m_BiNext _, (c_BiNextB χ hit h c sp spl lov upv pp 0 lo up Fin _ hEnv hst.hI hst.B hst.fc rfl _ hst.sp rfl).mono fun r h' hm => ?_⟩
    rcases hm with ⟨hstop, rfl, B, K⟩ | ⟨_, hm⟩
    · have e := stop_next hs hO hj hstop
      have e2 : pNext (segL W i0 i1) (.pt j) = .behind := by rw [pNext_pt, hlen, if_neg (show ¬ j + 1 < i1 - i0 from by omega)]
      rw [e2]
      exact bst_same hit hst B K (.inl ⟨rfl, by omega, by rw [show i1 - 1 = i0 + j from by omega], by rw [show i1 - 1 = i0 + j from by omega]⟩) rfl
    · have hf := fwd_rel hs (g := i0 + j + 1) (by omega) (by omega)
      have e1 : pNext W (.pt (i0 + j)) = if i0 + j + 1 < W.length then .pt (i0 + j + 1) else .behind := rfl
      have e2 : pNext (segL W i0 i1) (.pt j) = if i0 + j + 1 < i1 then .pt (i0 + j + 1 - i0) else .behind := by
        rw [pNext_pt, hlen]
        by_cases h1 : i0 + j + 1 < i1
        · rw [if_pos h1, if_pos (by omega)]; congr 1; omega
        · rw [if_neg h1, if_neg (by omega)]
      rw [e1] at hm; rw [e2]
      exact bst_fin hit hst hm hf.1 hf.2
  | ahead =>
    rcases hrel with ⟨rfl, hlt, rfl, rfl⟩ | ⟨rfl, rfl, rfl⟩
    · refine ⟨_, _, ok_keyspan_BoundedIter_Next, m_BiNext _, (c_BiNextA χ hit h c sp spl lov upv pp (-1) lo up Fin _ hEnv hst.hI hst.B hst.fc rfl).mono fun r h' hm => ?_⟩
      obtain ⟨rfl, B, K⟩ := hm
      have e2 : pNext (segL W i0 i1) .ahead = .pt 0 := by rw [pNext_ahead, hlen, if_pos (by omega)]
      rw [e2]
      refine bst_same hit hst B K ⟨rfl, rfl, hlt, rfl⟩ ?_
      rw [show cur (segL W i0 i1) (.pt 0) = W[i0]? from by simp only [cur, segL_get]; rw [if_pos (by omega)]; rfl]
      exact hst.sp
    · have hcq : canNext (if i0 = 0 then Pos.ahead else .pt (i0 - 1)) = true := by split <;> rfl
      refine ⟨_, _, ok_keyspan_BoundedIter_Next, m_BiNext _, (c_BiNextB χ hit h c sp spl lov upv pp 0 lo up Fin _ hEnv hst.hI hst.B hst.fc rfl _ hst.sp hcq).mono fun r h' hm => ?_⟩
      rcases hm with ⟨hstop, _⟩ | ⟨_, hm⟩
      · cases up <;> cases hstop
      · have hf := fwd_rel hs (g := i0) (by omega) (by omega)
        have e1 : pNext W (if i0 = 0 then Pos.ahead else .pt (i0 - 1)) = if i0 < W.length then .pt i0 else .behind := by
          by_cases h1 : i0 = 0
          · rw [if_pos h1, h1]; rfl
          · rw [if_neg h1, pNext_pt, show i0 - 1 + 1 = i0 from by omega]
        have e2 : pNext (segL W i0 i1) .ahead = if i0 < i1 then .pt (i0 - i0) else .behind := by
          rw [pNext_ahead, hlen]
          by_cases h1 : i0 < i1
          · rw [if_pos h1, if_pos (by omega)]; congr 1; omega
          · rw [if_neg h1, if_neg (by omega)]
        rw [e1] at hm; rw [e2]
        exact bst_fin hit hst hm hf.1 hf.2
theorem bi_prev {p : Pos} {F : Nat → Prop} {h : Heap} (hI : BIt W I t v0 c i0 i1 lov upv spl pp p F h) (hc : canPrev p = true) : MCall Try.prog χ 148 (.pointer (some ⟨c, 0, none⟩)) "Prev" [] h (ItPost (segL W i0 i1) (BIt W I t v0 c i0 i1 lov upv spl pp) F h (pPrev (segL W i0 i1) p)) := by
  obtain ⟨q, Fin, sp, os, pos, hst, hrel⟩ := hI
  have hlen := segL_len (i0 := i0) hs.len
  have hl := hs.len
  have hle := hs.le
  cases p with
  | ahead => cases hc
  | nowhere => cases hc
  | pt j =>
    obtain ⟨rfl, rfl, hj, rfl⟩ := hrel
    refine ⟨_, _, ok_keyspan_BoundedIter_Prev, m_BiPrev _, (c_BiPrevB χ hit h c sp spl lov upv pp 0 lo up Fin _ hEnv hst.hI hst.B hst.fc rfl _ hst.sp rfl).mono fun r h' hm => ?_⟩
    rcases hm with ⟨hstop, rfl, B, K⟩ | ⟨_, hm⟩
    · have e := stop_prev hs hO hj hstop
      subst e
      exact bst_same hit hst B K (.inl ⟨rfl, by omega, rfl, rfl⟩) rfl
    · have hf := bwd_rel hs (g := i0 + j) (by omega) (by omega)
      have e1 : pPrev W (.pt (i0 + j)) = if i0 + j = 0 then .ahead else .pt (i0 + j - 1) := rfl
      have e2 : pPrev (segL W i0 i1) (.pt j) = if i0 + j = i0 then .ahead else .pt (i0 + j - 1 - i0) := by
        rw [pPrev_pt]
        by_cases h1 : j = 0
        · rw [if_pos h1, if_pos (by omega)]
        · rw [if_neg h1, if_neg (by omega)]; congr 1; omega
      rw [e1] at hm; rw [e2]
      exact bst_fin hit hst hm hf.1 hf.2
  | behind =>
    rcases hrel with ⟨rfl, hlt, rfl, rfl⟩ | ⟨rfl, rfl, rfl⟩
    · refine ⟨_, _, ok_keyspan_BoundedIter_Prev, m_BiPrev _, (c_BiPrevA χ hit h c sp spl lov upv pp 1 lo up Fin _ hEnv hst.hI hst.B hst.fc rfl).mono fun r h' hm => ?_⟩
      obtain ⟨rfl, B, K⟩ := hm
      have e2 : pPrev (segL W i0 i1) .behind = .pt (i1 - 1 - i0) := by rw [pPrev_behind, hlen, if_neg (by omega)]; congr 1; omega
      rw [e2]
      have e3 : i0 + (i1 - 1 - i0) = i1 - 1 := by omega
      refine bst_same hit hst B K ⟨rfl, by rw [e3], by omega, by rw [e3]⟩ ?_
      rw [show cur (segL W i0 i1) (.pt (i1 - 1 - i0)) = W[i1 - 1]? from by simp only [cur, segL_get, e3]; rw [if_pos (by omega)]]
      exact hst.sp
    · have hcq : canPrev (if i1 < W.length then Pos.pt i1 else .behind) = true := by split <;> rfl
      refine ⟨_, _, ok_keyspan_BoundedIter_Prev, m_BiPrev _, (c_BiPrevB χ hit h c sp spl lov upv pp 0 lo up Fin _ hEnv hst.hI hst.B hst.fc rfl _ hst.sp hcq).mono fun r h' hm => ?_⟩
      rcases hm with ⟨hstop, _⟩ | ⟨_, hm⟩
      · cases lo <;> cases hstop
      · have hf := bwd_rel hs (g := i1) (by omega) (by omega)
        have e1 : pPrev W (if i1 < W.length then Pos.pt i1 else .behind) = if i1 = 0 then .ahead else .pt (i1 - 1) := by
          by_cases h1 : i1 < W.length
          · rw [if_pos h1]; rfl
          · rw [if_neg h1, pPrev_behind, show W.length = i1 from by omega]
        have e2 : pPrev (segL W i0 i1) .behind = if i1 = i0 then .ahead else .pt (i1 - 1 - i0) := by
          rw [pPrev_behind, hlen]
          by_cases h1 : i1 = i0
          · rw [if_pos h1, if_pos (by omega)]
          · rw [if_neg h1, if_neg (by omega)]; congr 1; omega
        rw [e1] at hm; rw [e2]
        exact bst_fin hit hst hm hf.1 hf.2
end
theorem bi_ok {χ : Chi} {W : List SpanD} {I : ItI} {t : TypeId} {v0 : Value} (c : Nat) {i0 i1 : Nat} {lo up : Option ByteArray} (lov upv spl pp : Value) (hEnv : ∀ {p F h}, I p F h → RBnd F h lov lo ∧ RBnd F h upv up) (hit : IterOK Try.prog χ W t v0 I) (hO : Tess.Ord W) (hs : Seg W lo up i0 i1) :
    IterA Try.prog χ (segL W i0 i1) 148 (.pointer (some ⟨c, 0, none⟩)) (BIt W I t v0 c i0 i1 lov upv spl pp) (AlB lo up) where
  low := fun hI => by obtain ⟨q, Fin, sp, os, pos, hst, _⟩ := hI; exact hst.fl
  stab := fun hI hst hz => by
    obtain ⟨q, Fin, sp, os, pos, b, hrel⟩ := hI
    exact ⟨q, Fin, sp, os, pos, ⟨hit.stab b.hI (fun x hx => hst x (b.s1 x hx)) hz, (hst c b.s2).trans b.B, b.sp.stab (fun x hx => hst x (b.s1 x hx)), b.fc, b.s1, b.s2, b.fl.mono hz⟩, hrel⟩
  first := fun h0 ha hI => bi_first hEnv hit hO hs (ha.1 h0) hI
  last := fun h0 ha hI => bi_last hEnv hit hO hs (ha.2.1 h0) hI
  next := fun _ _ hI hc => bi_next hEnv hit hO hs hI hc
  prev := fun _ _ hI hc => bi_prev hEnv hit hO hs hI hc
  ge := fun h0 ha hI hk => bi_ge hEnv hit hO hs (ha.2.2 (.inl h0)).1 (ha.2.2 (.inl h0)).2 hI hk
  lt := fun h0 ha hI hk => bi_lt hEnv hit hO hs (ha.2.2 (.inr h0)).1 (ha.2.2 (.inr h0)).2 hI hk

end Go.Proofs.Ytgebfbnndgjkiaa

/- Forty-first part: impl.SpanBounded. Conditions: those that each theorem names. -/
namespace Go.Proofs.Ytgebfbnndgjkiaa
open Go.Tess Go.RowKit
set_option maxRecDepth 100000
set_option maxHeartbeats 1000000
structure BndD where
  key : ByteArray
  has : Bool
def BndD.v (b : BndD) : Value := .agg #[.string b.key, .bool b.has]
def BndD.opt (b : BndD) : Option ByteArray := if b.has then some b.key else none
/-- The plain iterator, and two bounds that lie beside it. -/
def ItBE (lov upv : Value) (lo up : Option ByteArray) (c : Nat) (a : Option Addr) (cc : Nat) (W : List SpanD) (T : TypeId) : ItI := fun p F h =>
  ∃ (x : Int) (G : Nat → Prop), Blk h c (itL (.slice a W.length cc) x) T ∧ posX W.length p x ∧ PSpans G h (.slice a W.length cc) W ∧ (∀ b, G b → F b ∧ b ≠ c) ∧ F c ∧ Low F h ∧
    ∃ Gb : Nat → Prop, (∀ b, Gb b → F b ∧ b ≠ c) ∧ RBnd Gb h lov lo ∧ RBnd Gb h upv up
theorem itBE_env {lov upv : Value} {lo up : Option ByteArray} {c : Nat} {a : Option Addr} {cc : Nat} {W : List SpanD} {T : TypeId} {p : Pos} {F : Nat → Prop} {h : Heap} (hI : ItBE lov upv lo up c a cc W T p F h) : RBnd F h lov lo ∧ RBnd F h upv up := by
  obtain ⟨x, G, _, _, _, _, _, _, Gb, b1, b2, b3⟩ := hI
  exact ⟨b2.mono fun b hb => (b1 b hb).1, b3.mono fun b hb => (b1 b hb).1⟩
theorem itBE_post {lov upv : Value} {lo up : Option ByteArray} {Gb : Nat → Prop} {c : Nat} {a : Option Addr} {cc : Nat} {W : List SpanD} {T : TypeId} {p : Pos} {F G : Nat → Prop} {h : Heap} (hW : PSpans G h (.slice a W.length cc) W) (hG : ∀ b, G b → F b ∧ b ≠ c) (hF : F c) (hl : Low F h) (b1 : ∀ b, Gb b → F b ∧ b ≠ c) (b2 : RBnd Gb h lov lo) (b3 : RBnd Gb h upv up) (r : Value) (h' : Heap)
    (hr : ∃ x', Blk h' c (itL (.slice a W.length cc) x') T ∧ posX W.length p x' ∧ Keep [c] h h' ∧ RetI a p r) : ItPost W (ItBE lov upv lo up c a cc W T) F h p r h' := by
  obtain ⟨x', B, hp, K, hret⟩ := hr
  have hG' : ∀ b, G b → b < h.size ∧ b ≠ c := fun b hb => ⟨hl b (hG b hb).1, (hG b hb).2⟩
  have hW' : PSpans G h' (.slice a W.length cc) W := PSpans.stabI hW hG' K
  have sGb : Stab Gb h h' := K.stab fun b hb => ⟨hl b (b1 b hb).1, by simpa using (b1 b hb).2⟩
  refine ⟨F, ⟨x', G, B, hp, hW', hG, hF, hl.mono K.1, Gb, b1, b2.stab sGb, b3.stab sGb⟩, fun b hb => .inl hb, K.kp (by simpa using hF), ?_⟩
  unfold Ret
  cases p with
  | pt j =>
    have hj : j < W.length := by obtain ⟨h1, h2⟩ := hp; omega
    simp only [cur, List.getElem?_eq_getElem hj]
    obtain ⟨b, o, ha, rfl⟩ := hret
    obtain ⟨_, a', c', e', hx⟩ := hW'.form
    cases e'
    rcases hx with e | ⟨b', o', e2, hGb, hR⟩
    · rw [e] at hj; simp at hj
    · rw [ha] at e2; cases e2
      exact ⟨b, _, rfl, (hG b hGb).1, (hR j _ (List.getElem?_eq_getElem hj)).mono (fun b hb => (hG b hb).1)⟩
  | behind => exact hret
  | ahead => exact hret
  | nowhere => exact hret
theorem itBE_ok (lov upv : Value) (lo up : Option ByteArray) (χ : Chi) (c : Nat) (a : Option Addr) (cc : Nat) (W : List SpanD) (T : TypeId) (hn : W.length ≤ 100000) (hO : Tess.Ord W) :
    IterOK Try.prog χ W 136 (.pointer (some ⟨c, 0, none⟩)) (ItBE lov upv lo up c a cc W T) where
  low := fun hI => by obtain ⟨x, G, Bc, hp, hW, hG, hF, hl, Gb, b1, b2, b3⟩ := hI; exact hl
  stab := fun hI hs hz => by
    obtain ⟨x, G, Bc, hp, hW, hG, hF, hl, Gb, b1, b2, b3⟩ := hI
    exact ⟨x, G, (hs c hF).trans Bc, hp, hW.stab (fun b hb => hs b (hG b hb).1), hG, hF, hl.mono hz, Gb, b1, b2.stab (fun b hb => hs b (b1 b hb).1), b3.stab (fun b hb => hs b (b1 b hb).1)⟩
  first := fun hI => by
    obtain ⟨x, G, Bc, hp, hW, hG, hF, hl, Gb, b1, b2, b3⟩ := hI
    exact ⟨_, _, ok_keyspan_Iter_First, m_ItFirst _, (c_ItFirst χ _ c a cc W T hn x (ItB.some (c := c) hW) Bc).mono (itBE_post hW hG hF hl b1 b2 b3)⟩
  last := fun hI => by
    obtain ⟨x, G, Bc, hp, hW, hG, hF, hl, Gb, b1, b2, b3⟩ := hI
    exact ⟨_, _, ok_keyspan_Iter_Last, m_ItLast _, (c_ItLast χ _ c a cc W T hn x (ItB.some (c := c) hW) Bc).mono (itBE_post hW hG hF hl b1 b2 b3)⟩
  next := fun {p F h} hI hc => by
    obtain ⟨x, G, Bc, hp, hW, hG, hF, hl, Gb, b1, b2, b3⟩ := hI
    cases p with
    | pt j =>
      obtain ⟨h1, h2⟩ := hp
      exact ⟨_, _, ok_keyspan_Iter_Next, m_ItNext _, (c_ItNext χ _ c a cc W T hn x (j + 1) (by omega) (by omega) (ItB.some (c := c) hW) Bc).mono (itBE_post (p := pNext W (.pt j)) hW hG hF hl b1 b2 b3)⟩
    | ahead =>
      have h1 : x = -1 := hp
      exact ⟨_, _, ok_keyspan_Iter_Next, m_ItNext _, (c_ItNext χ _ c a cc W T hn x 0 (by omega) (by omega) (ItB.some (c := c) hW) Bc).mono (itBE_post (p := pNext W .ahead) hW hG hF hl b1 b2 b3)⟩
    | behind => simp [canNext] at hc
    | nowhere => simp [canNext] at hc
  prev := fun {p F h} hI hc => by
    obtain ⟨x, G, Bc, hp, hW, hG, hF, hl, Gb, b1, b2, b3⟩ := hI
    cases p with
    | pt j =>
      obtain ⟨h1, h2⟩ := hp
      subst h1
      exact ⟨_, _, ok_keyspan_Iter_Prev, m_ItPrev _, (c_ItPrev χ _ c a cc W T hn j (by omega) (ItB.some (c := c) hW) Bc).mono (itBE_post (p := pPrev W (.pt j)) hW hG hF hl b1 b2 b3)⟩
    | behind =>
      have h1 : x = W.length := hp
      subst h1
      exact ⟨_, _, ok_keyspan_Iter_Prev, m_ItPrev _, (c_ItPrev χ _ c a cc W T hn W.length (by omega) (ItB.some (c := c) hW) Bc).mono (itBE_post (p := pPrev W .behind) hW hG hF hl b1 b2 b3)⟩
    | ahead => simp [canPrev] at hc
    | nowhere => simp [canPrev] at hc
  ge := fun {p F h kv key} hI hk => by
    obtain ⟨x, G, Bc, hp, hW, hG, hF, hl, Gb, b1, b2, b3⟩ := hI
    exact ⟨_, _, ok_keyspan_Iter_SeekGE, m_ItSeekGE _, (c_ItSeekGE χ _ c a cc W T hn x Bc G hW (fun b hb => ⟨hl b (hG b hb).1, (hG b hb).2⟩) hO kv key (hk.mono (fun b hb e => hb (by rw [e]; exact hF)))).mono (itBE_post hW hG hF hl b1 b2 b3)⟩
  lt := fun {p F h kv key} hI hk => by
    obtain ⟨x, G, Bc, hp, hW, hG, hF, hl, Gb, b1, b2, b3⟩ := hI
    exact ⟨_, _, ok_keyspan_Iter_SeekLT, m_ItSeekLT _, (c_ItSeekLT χ _ c a cc W T hn x Bc G hW (fun b hb => ⟨hl b (hG b hb).1, (hG b hb).2⟩) hO kv key (hk.mono (fun b hb e => hb (by rw [e]; exact hF)))).mono (itBE_post hW hG hF hl b1 b2 b3)⟩
  err := fun hI => ⟨_, _, ok_keyspan_Iter_Error, m_ItError _, c_ItError χ _ _⟩
/-- A block of an iterator holds no bytes. -/
theorem RBytes.ne {G : Nat → Prop} {h : Heap} {v : Value} {s : ByteArray} {c : Nat} {sv : Value} {x : Int} {T : TypeId} (hr : RBytes G h v s) (hsv : ∃ a n k, sv = .slice a n k) (B : Blk h c (itL sv x) T) : RBytes (fun b => G b ∧ b ≠ c) h v s := by
  obtain ⟨a', n', k', rfl⟩ := hsv
  obtain ⟨hl, a, k, e, hx⟩ := hr
  refine ⟨hl, a, k, e, fun i y hi => ?_⟩
  obtain ⟨b, o, e1, e2, e3⟩ := hx i y hi
  refine ⟨b, o, e1, ⟨⟨e2.1, fun hbc => ?_⟩, e2.2⟩, e3⟩
  subst hbc
  unfold cellH at e3
  have hB := B
  unfold Blk at hB
  rw [hB] at e3
  simp only [itL, cmpF] at e3
  match hj : o + i * 1, e3 with
  | 0, e3 => simp at e3
  | 1, e3 => simp at e3
  | 2, e3 => simp at e3
  | n + 3, e3 => simp at e3
theorem RBnd.ne {G : Nat → Prop} {h : Heap} {v : Value} {b : Option ByteArray} {c : Nat} {sv : Value} {x : Int} {T : TypeId} (hr : RBnd G h v b) (hsv : ∃ a n k, sv = .slice a n k) (B : Blk h c (itL sv x) T) : RBnd (fun b => G b ∧ b ≠ c) h v b := by
  cases b with
  | none => exact hr
  | some u => obtain ⟨g, o, n, k, e, h1⟩ := hr; exact ⟨g, o, n, k, e, RBytes.ne h1 hsv B⟩
theorem bld_bi0 (x0t : TypeId) (x0 : Value) (x2 : FuncId) (x2a x2b : Array Value) (x4 : Option Addr) (x4n x4c : Nat) (x5 : Option Addr) (x5n x5c : Nat) (x6 : Option Addr) (x7 : Option Addr) : ∀ w, (Instr.build 145 #[(0, .iface x0t x0), (2, .func (.func x2) x2a x2b), (3, .nilFunc), (4, .slice x4 x4n x4c), (5, .slice x5 x5n x5c), (6, .pointer x6), (7, .pointer x7)]).run Try.prog w = .ok (.agg #[.iface x0t x0, .pointer none, .func (.func x2) x2a x2b, .nilFunc, .slice x4 x4n x4c, .slice x5 x5n x5c, .pointer x6, .pointer x7, .int .i8 0]) w := fun _ => by kernel_rfl
def cmpL (s : ByteArray) : List Value := [cmpF, .func (.func 78) #[] #[], .func (.func 79) #[] #[], .nilFunc, .func (.func 81) #[] #[], .nilFunc, .func (.func 83) #[] #[], .func (.func 84) #[] #[], .string s]

theorem c_DefaultComparer2 (χ : Chi) (h : Heap) :
    Cl Try.prog χ 54 #[] h (fun r h' => r = .pointer (some ⟨h.size, 0, none⟩) ∧ (∃ s, Blk h' h.size (cmpL s) 119) ∧ Keep [] h h') := by
  refine cl_intro Try.func54 rfl rfl rfl ?_
  have K : Keep [] h h := Keep.refl _ _
  refine tr_seq ?_
  refine tr_reg ?_
  refine rs_v (v_assign rfl) rfl ?_
  refine rs_nil ?_
  refine q_thn ?_
  refine tr_seq ?_
  refine tr_reg ?_
  refine rs_v (v_buildN (us := [_, _, _, _, _, _, _]) ⟨rfl, rfl, rfl, rfl, rfl, rfl, rfl, trivial⟩ (bld_base_Comparer_0_1_2_4_6_7_8 _ _ _ _ _ _ _ _ _ _ _ _ _ _ _ _ _ _ _)) rfl ?_
  refine rs_w (w_newbox rfl) rfl ?_
  rintro _ h1 ⟨rfl, B1, K1, Z1⟩
  have S1 := K.1; have K := K.new0 K1
  refine rs_v (v_assign rfl) rfl ?_
  refine rs_nil ?_
  refine q_thn ?_
  refine tr_ret ?_
  refine q_ret (res_tmp rfl rfl) ?_
  exact ⟨rfl, ⟨_, B1⟩, K⟩
theorem c_Bound_bytes (χ : Chi) (h : Heap) (b : BndD) (hb : b.key.size ≤ 9223372036854775807) :
    Cl Try.prog χ 62 #[b.v] h (fun r h' => RBnd (fun x => h.size ≤ x ∧ x < h'.size) h' r b.opt ∧ Keep [] h h') := by
  unfold BndD.v
  refine cl_intro Try.func62 rfl rfl rfl ?_
  have K : Keep [] h h := Keep.refl _ _
  refine tr_seq ?_
  refine tr_reg ?_
  refine rs_w (w_newbox rfl) rfl ?_
  rintro _ h1 ⟨rfl, B1, K1, Z1⟩
  have S1 := K.1; have K := K.new0 K1
  refine rs_v (v_assign rfl) rfl ?_
  refine rs_nil ?_
  refine q_thn ?_
  refine tr_seq ?_
  refine tr_seq ?_
  refine tr_reg ?_
  refine rs_v (v_fieldAddr fa_impl_Bound_1 rfl) rfl ?_
  refine rs_v (v_load one_bool rfl (by exact B1.cell _ rfl)) rfl ?_
  refine rs_v (v_not rfl) rfl ?_
  refine rs_nil ?_
  refine q_thn ?_
  refine tr_if rfl (fun hif => ?_) (fun hif => ?_)
  · -- yes
    skip
    refine tr_seq ?_
    refine tr_reg ?_
    refine rs_v (v_assign rfl) rfl ?_
    refine rs_nil ?_
    refine q_thn ?_
    refine tr_ret ?_
    refine q_thn_ret ?_
    refine q_ret (res_tmp rfl rfl) ?_
    exact ⟨by rw [show b.opt = none from by unfold BndD.opt; rw [if_neg (by simpa using hif)]]; exact rfl, K⟩
  -- no
  skip
  refine tr_skip ?_
  refine q_thn ?_
  refine tr_seq ?_
  refine tr_reg ?_
  refine rs_v (v_fieldAddr fa_impl_Bound_0 rfl) rfl ?_
  refine rs_v (v_load one_string rfl (by exact B1.cell _ rfl)) rfl ?_
  refine rs_w (w_bytes u_string u_sl_uint8 u_uint8 rfl (by omega)) rfl ?_
  rintro _ h2 ⟨cb, rfl, K2, hby⟩
  have B1 := K2.blk (by simp) B1
  have K := K.new0 K2; have Z2 := K2.1
  refine rs_v (v_assign rfl) rfl ?_
  refine rs_nil ?_
  refine q_thn ?_
  refine tr_ret ?_
  refine q_ret (res_tmp rfl rfl) ?_
  exact ⟨by rw [show b.opt = some b.key from by unfold BndD.opt; rw [if_pos (by simpa using hif)]]; exact ⟨_, _, _, _, rfl, hby.mono fun x hx => ⟨by have := hx.1; omega, hx.2⟩⟩, K⟩
theorem c_BiInit (χ : Chi) (h : Heap) (c : Nat) (t : TypeId) (v0 : Value) (al : Option Addr) (nl cl : Nat) (au : Option Addr) (nu cu : Nat) (ph pp : Option Addr) (y0 y1 y2 y3 y4 y5 y6 y7 y8 : Value) (Bc : Blk h c [y0, y1, y2, y3, y4, y5, y6, y7, y8] bT) :
    Cl Try.prog χ 61 #[.pointer (some ⟨c, 0, none⟩), cmpF, .nilFunc, .iface t v0, .slice al nl cl, .slice au nu cu, .pointer ph, .pointer pp] h (fun r h' => r = .tuple #[] ∧ Blk h' c (biL t v0 none .nilFunc (.slice al nl cl) (.slice au nu cu) (.pointer ph) (.pointer pp) 0) bT ∧ Keep [c] h h') := by
  unfold cmpF
  refine cl_intro Try.func61 rfl rfl rfl ?_
  have K : Keep [c] h h := Keep.refl _ _
  refine tr_reg ?_
  refine rs_v (v_move rfl) rfl ?_
  refine rs_v (v_move rfl) rfl ?_
  refine rs_v (v_move rfl) rfl ?_
  refine rs_v (v_move rfl) rfl ?_
  refine rs_v (v_move rfl) rfl ?_
  refine rs_v (v_move rfl) rfl ?_
  refine rs_v (v_move rfl) rfl ?_
  refine rs_v (v_move rfl) rfl ?_
  refine rs_v (v_buildN (us := [_, _, _, _, _, _, _]) ⟨rfl, rfl, rfl, rfl, rfl, rfl, rfl, trivial⟩ (bld_bi0 _ _ _ _ _ _ _ _ _ _ _ _ _)) rfl ?_
  refine rs_v (v_nilCheck_ptr rfl) rfl ?_
  refine rs_w0 (w_put siz_keyspan_BoundedIter rfl rfl rfl rfl Bc rfl) ?_
  rintro _ h1 ⟨B1, K1⟩
  have Bc := B1; have K := K.new1 K1 (by first | (right; omega) | (left; simp; done)); have Z1 := K1.1
  refine rs_nil ?_
  refine q_end (res_none rfl) ?_
  exact ⟨rfl, Bc, K⟩
theorem c_implSpanBounded (χ : Chi) (h : Heap) (A : Nat → Prop) (hA : Low A h) (v sv : Value) (W : List SpanD) (steps : List StepD) (lo up : BndD) (hW : RSpans A h v W) (hn : W.length ≤ 100000) (hm : ∀ s, s ∈ W → SpanD.small s) (hO : Tess.Ord W)
    (hlo : lo.key.size ≤ 9223372036854775807) (hup : up.key.size ≤ 9223372036854775807) (hord : ordB lo.opt up.opt) (hS : RSteps A h sv steps) (hsn : steps.length ≤ 1000) (hz : ∀ s, s ∈ steps → s.key.size ≤ 9223372036854775807) (hAl : ∀ s, s ∈ steps → AlB lo.opt up.opt s) :
    Cl Try.prog χ 27 #[v, lo.v, up.v, sv] h (fun r h' => RAnss (Up N0 h h') h' r (walkP (W.filter (fun s => LoC lo.opt s && UpC up.opt s)) .nowhere steps) ∧ Keep [] h h') := by
  obtain ⟨i0, i1, hsg⟩ := seg_ex hO hord
  rw [seg_filter hsg]
  unfold BndD.v
  refine cl_intro Try.func27 rfl rfl rfl ?_
  have K : Keep [] h h := Keep.refl _ _
  refine tr_seq ?_
  refine tr_reg ?_
  refine rs_w (w_newbox rfl) rfl ?_
  rintro _ h1 ⟨rfl, B1, K1, Z1⟩
  have S1 := K.1; have K := K.new0 K1
  refine rs_w (w_newbox rfl) rfl ?_
  rintro _ h2 ⟨rfl, B2, K2, Z2⟩
  have B1 := K2.blk (by simp) B1
  have S2 := K.1; have K := K.new0 K2
  refine rs_v (v_assign rfl) rfl ?_
  refine rs_nil ?_
  refine q_thn ?_
  refine tr_seq ?_
  refine tr_reg ?_
  refine rs_w (w_call (vs := []) ok_base_DefaultComparer rfl trivial (c_DefaultComparer2 χ _)) rfl ?_
  rintro _ h3 ⟨rfl, ⟨rest, Bq⟩, K3⟩
  have B1 := K3.blk (by simp) B1
  have B2 := K3.blk (by simp) B2
  have K := K.new0 K3; have Z3 := K3.1
  refine rs_v (v_assign rfl) rfl ?_
  refine rs_nil ?_
  refine q_thn ?_
  refine tr_seq ?_
  refine tr_reg ?_
  refine rs_w (w_new zero_keyspan_BoundedIter) rfl ?_
  rintro _ h4 ⟨rfl, B4, K4, Z4⟩
  have B1 := K4.blk (by simp) B1
  have B2 := K4.blk (by simp) B2
  try have Bq := (K4).blk (by simp) Bq
  have S4 := K.1; have K := K.new0 K4
  refine rs_nil ?_
  refine q_thn ?_
  refine tr_seq ?_
  refine tr_draw [(true, 20), (false, 1)] _ (by kernel_rfl) (by kernel_rfl) (by kernel_rfl) ?_
  refine rx_any (Keep []) (keep_pre _) ?_
  refine rm_v (keep_pre _) (fun h' hk => v_move rfl) ?_
  refine rm_v (keep_pre _) (fun h' hk => v_nilCheck_ptr rfl) ?_
  refine rm_v (keep_pre _) (fun h' hk => v_fieldAddr fa_base_Comparer_0 rfl) ?_
  refine rm_v (keep_pre _) (fun h' hk => v_load one_base_Compare rfl (Blk.cell (hk.blk (by simp) Bq) _ rfl)) ?_
  refine rm_v (keep_pre _) (fun h' hk => v_move rfl) ?_
  refine rm_v (keep_pre _) (fun h' hk => v_nilCheck_ptr rfl) ?_
  refine rm_v (keep_pre _) (fun h' hk => v_fieldAddr fa_base_Comparer_5 rfl) ?_
  refine rm_v (keep_pre _) (fun h' hk => v_load one_base_Split rfl (Blk.cell (hk.blk (by simp) Bq) _ rfl)) ?_
  refine rm_v (keep_pre _) (fun h' hk => v_move rfl) ?_
  refine rm_v (keep_pre _) (fun h' hk => v_nilCheck_ptr rfl) ?_
  refine rm_v (keep_pre _) (fun h' hk => v_fieldAddr fa_base_Comparer_0 rfl) ?_
  refine rm_v (keep_pre _) (fun h' hk => v_load one_base_Compare rfl (Blk.cell (hk.blk (by simp) Bq) _ rfl)) ?_
  refine rm_v (keep_pre _) (fun h' hk => v_move rfl) ?_
  refine rm_w (fun v h' => PSpans (Up N0 h4 h') h' v W) (fun v _ _ k1 k2 hr => (hr.stab (k2.st ((n0low _).up k1.1))).mono (Up.grow k2.1)) (fun h' hk => OpW.mono (w_call (vs := [_]) ok_impl_spans rfl ⟨rfl, trivial⟩ (c_spans χ h' A (hA.mono (K.new0 hk).1) _ W (hW.stab ((K.new0 hk).st hA)) hn hm)) (fun v h'' hv => ⟨hv.2, hv.1.mono (Up.trans2 hk.1 (Nat.le_refl _))⟩)) ?_
  refine rm_o 25 (fun v h' => ∃ b a c, v = .pointer (some ⟨b, 0, none⟩) ∧ h4.size ≤ b ∧ Blk h' b (itL (.slice a W.length c) (-1)) 187 ∧ PSpans (fun x => h4.size ≤ x ∧ x < b) h' (.slice a W.length c) W) rfl (by kernel_rfl) (fun v _ _ k1 k2 hr => by obtain ⟨b, a, c, e, hb, B, hp⟩ := hr; exact ⟨b, a, c, e, hb, k2.blk (by simp) B, hp.stab (k2.stab fun x hx => ⟨by have := B.lt; have := hx.2; omega, by simp⟩)⟩) (fun u h' hk hu => by
    obtain ⟨a, c, rfl⟩ := SlR.form2 hu
    exact OpW.mono (w_call (vs := [_, _]) ok_keyspan_NewIter rfl ⟨rfl, rfl, trivial⟩ (c_NewIter χ h' a W.length c)) (fun v h'' hv => by
      obtain ⟨e, B, Kn⟩ := hv
      exact ⟨Kn, _, a, c, e, hk.1, B, (PSpans.stab hu (Kn.st ((n0low _).up hk.1))).mono (fun x hx => hx.elim (fun e => e.elim) id)⟩)) ?_
  refine rm_o 26 (fun v h' => ∃ b a c, v = .iface 136 (.pointer (some ⟨b, 0, none⟩)) ∧ h4.size ≤ b ∧ Blk h' b (itL (.slice a W.length c) (-1)) 187 ∧ PSpans (fun x => h4.size ≤ x ∧ x < b) h' (.slice a W.length c) W) rfl (by kernel_rfl) (fun v _ _ k1 k2 hr => by obtain ⟨b, a, c, e, hb, B, hp⟩ := hr; exact ⟨b, a, c, e, hb, k2.blk (by simp) B, hp.stab (k2.stab fun x hx => ⟨by have := B.lt; have := hx.2; omega, by simp⟩)⟩) (fun u h' hk hu => by
    obtain ⟨b, a, c, rfl, hb, B, hp⟩ := hu
    exact (v_makeIface u_p_keyspan_Iter rfl).w.mono (fun _ _ e => by obtain ⟨e1, e2⟩ := e; subst e1; subst e2; exact ⟨Keep.refl _ _, b, a, c, rfl, hb, B, hp⟩)) ?_
  refine rm_v (keep_pre _) (fun h' hk => v_loadAgg (vs := [_, _]) many_impl_Bound rfl (Blk.sub (hk.blk (by simp) B1) 0 2 rfl)) ?_
  refine rm_w (fun v h' => RBnd (fun x => h4.size ≤ x ∧ x < h'.size) h' v lo.opt) (fun v _ _ k1 k2 hr => (hr.stab (k2.stab fun x hx => ⟨hx.2, by simp⟩)).mono fun x hx => ⟨hx.1, Nat.lt_of_lt_of_le hx.2 k2.1⟩) (fun h' hk => OpW.mono (w_call (vs := [_]) ok_impl_Bound_bytes rfl ⟨rfl, trivial⟩ (c_Bound_bytes χ h' lo hlo)) (fun v h'' hv => ⟨hv.2, hv.1.mono fun x hx => ⟨Nat.le_trans hk.1 hx.1, hx.2⟩⟩)) ?_
  refine rm_v (keep_pre _) (fun h' hk => v_loadAgg (vs := [_, _]) many_impl_Bound rfl (Blk.sub (hk.blk (by simp) B2) 0 2 rfl)) ?_
  refine rm_w (fun v h' => RBnd (fun x => h4.size ≤ x ∧ x < h'.size) h' v up.opt) (fun v _ _ k1 k2 hr => (hr.stab (k2.stab fun x hx => ⟨hx.2, by simp⟩)).mono fun x hx => ⟨hx.1, Nat.lt_of_lt_of_le hx.2 k2.1⟩) (fun h' hk => OpW.mono (w_call (vs := [_]) ok_impl_Bound_bytes rfl ⟨rfl, trivial⟩ (c_Bound_bytes χ h' up hup)) (fun v h'' hv => ⟨hv.2, hv.1.mono fun x hx => ⟨Nat.le_trans hk.1 hx.1, hx.2⟩⟩)) ?_
  refine rm_end ?_; intro ha Ka; simp only [endM, hypF, ofE, argE, List.nil_append]
  intro v31 h31 v29 h29 v27 h27 v26 _ v25 _
  obtain ⟨bi, wa, wc, rfl, hbi, Bi, hPW⟩ := h27
  obtain ⟨ual, unl, ucl, rfl⟩ := h31.form
  obtain ⟨lal, lnl, lcl, rfl⟩ := h29.form
  have B4 := Ka.blk (by simp) B4
  have K := K.new0 Ka; have Za := Ka.1
  have hbl := Bi.lt
  refine rx_seq ?_
  refine rs_w (w_call (vs := [_, _, _, _, _, _, _, _]) ok_keyspan_BoundedIter_Init rfl ⟨rfl, rfl, rfl, rfl, rfl, rfl, rfl, rfl, trivial⟩ (c_BiInit χ _ _ _ _ _ _ _ _ _ _ none none _ _ _ _ _ _ _ _ _ B4)) rfl ?_
  rintro _ h5 ⟨rfl, Bc, K5⟩
  have Z5 := K5.1
  have hne3 : ∀ x, h4.size ≤ x → x ∉ [h3.size] := fun x hx hm => by rw [List.mem_singleton] at hm; omega
  have Bi := K5.blk (hne3 _ hbi) Bi
  have hPW := hPW.stab (K5.stab fun x hx => ⟨by have := hx.2; omega, hne3 _ hx.1⟩)
  have hup9 := RBnd.ne (h31.stab (K5.stab fun x hx => ⟨hx.2, hne3 _ hx.1⟩)) ⟨_, _, _, rfl⟩ Bi
  have hlo9 := RBnd.ne (h29.stab (K5.stab fun x hx => ⟨hx.2, hne3 _ hx.1⟩)) ⟨_, _, _, rfl⟩ Bi
  have K := K.new1 K5 (.inr (by omega))
  refine rs_nil ?_
  refine q_con ?_
  refine rx_nil ?_
  refine q_thn ?_
  refine tr_seq ?_
  refine tr_reg ?_
  refine rs_v (v_makeIface u_p_keyspan_BoundedIter rfl) rfl ?_
  refine rs_v (v_move rfl) rfl ?_
  refine rs_w (w_call (vs := [_, _]) ok_impl_walkSpans rfl ⟨rfl, rfl, trivial⟩ (c_walkSpansA χ h5 A (hA.mono K.1) (segL W i0 i1) _ _ _ _
    (bi_ok h3.size _ _ _ _ (fun hI => itBE_env hI) (itBE_ok _ _ lo.opt up.opt χ bi wa wc W 187 hn hO) hO hsg)
    (fun b => h.size ≤ b ∧ b < h5.size)
    ⟨.nowhere, (fun x => h4.size ≤ x ∧ x < h5.size), none, none, 0, ⟨⟨-1, (fun x => h4.size ≤ x ∧ x < bi), Bi, trivial, hPW, (fun x hx => ⟨⟨hx.1, by have := hx.2; omega⟩, by have := hx.2; omega⟩), ⟨hbi, by omega⟩, (fun x hx => hx.2),
        (fun x => (h4.size ≤ x ∧ x < ha.size) ∧ x ≠ bi), (fun x hx => ⟨⟨hx.1.1, by have := hx.1.2; omega⟩, hx.2⟩), hlo9, hup9⟩, Bc, rfl, (fun hb => by have := hb.1; omega), (fun x hx => ⟨by have := hx.1; omega, hx.2⟩), ⟨by omega, by omega⟩, (fun x hx => hx.2)⟩, trivial⟩
    (fun b hb hf => by have := hA b hb; have := hf.1; omega) sv steps (hS.stab (K.st hA)) hsn hz hAl (fun s hs => by rw [← seg_filter hsg] at hs; exact (hm s (List.mem_filter.1 hs).1).2.2.1))) rfl ?_
  rintro r9 h6 ⟨hans, KP⟩
  refine rs_v (v_assign rfl) rfl ?_
  refine rs_nil ?_
  refine q_thn ?_
  refine tr_ret ?_
  refine q_ret (res_tmp rfl rfl) ?_
  have h60 := K.1
  exact ⟨hans.mono (n0up h60 (Nat.le_refl _)), keep_of_p K KP (fun b hb => hb.1)⟩
end Go.Proofs.Ytgebfbnndgjkiaa

/- Forty-second part: the specification's spans within bounds; what a script obeys. Conditions: those that each theorem names. -/
namespace Go.Proofs.Ytgebfbnndgjkiaa
open Go.Tess Go.RowKit
set_option maxRecDepth 100000
set_option maxHeartbeats 1000000
def ffB (lo up : Option ByteArray) (s : SpanD) : Option SpanD := if LoC lo s && UpC up s then some s else none
theorem ffB_filter (lo up : Option ByteArray) (W : List SpanD) : W.filterMap (ffB lo up) = W.filter (fun s => LoC lo s && UpC up s) := by
  induction W with
  | nil => rfl
  | cons s r ih =>
    cases h : (LoC lo s && UpC up s) with
    | true => rw [List.filterMap_cons, List.filter_cons, if_pos h, ← ih, show ffB lo up s = some s from by unfold ffB; rw [if_pos h]]
    | false => rw [List.filterMap_cons, List.filter_cons, if_neg (by rw [h]; decide), ← ih, show ffB lo up s = none from by unfold ffB; rw [if_neg (by rw [h]; decide)]]
theorem opt_none {b : BndD} (h : b.has = false) : b.opt = none := by unfold BndD.opt; rw [h]; rfl
theorem opt_some {b : BndD} (h : b.has = true) : b.opt = some b.key := by unfold BndD.opt; rw [h]; rfl
theorem bb_split (a b c : Bool) : (a = false ∧ b = false) ∨ (a = false ∧ b = true) ∨ (a = true ∧ c = true ∧ b = false) ∨ (a = true ∧ c = true ∧ b = true) ∨ (a = true ∧ c = false) := by cases a <;> cases b <;> cases c <;> simp
theorem cc_split (a b c : Bool) : (a = false ∧ b = false) ∨ (a = false ∧ b = true) ∨ (a = true ∧ b = false) ∨ (a = true ∧ b = true ∧ c = true) ∨ (a = true ∧ b = true ∧ c = false) := by cases a <;> cases b <;> cases c <;> simp
theorem dd_split (a b c : Bool) : (a = false ∧ b = false) ∨ (a = false ∧ b = true) ∨ (a = true ∧ c = true) ∨ (a = true ∧ c = false ∧ b = false) ∨ (a = true ∧ c = false ∧ b = true) := by cases a <;> cases b <;> cases c <;> simp
theorem nb {b : Bool} (h : b = false) : (!b) = true := by rw [h]; rfl
theorem nb2 {b : Bool} (h : b = true) : (!b) = false := by rw [h]; rfl

theorem c_SpanBounded (χ : Chi) (h : Heap) (A : Nat → Prop) (hA : Low A h) (v : Value) (W : List SpanD) (lo up : BndD) (hW : RSpans A h v W) (hn : W.length ≤ 100000) :
    Cl Try.prog χ 26 #[v, lo.v, up.v] h (fun r h' => RSpans (Up A h h') h' r (W.filter (fun s => LoC lo.opt s && UpC up.opt s)) ∧ Keep [] h h') := by
  obtain ⟨hlen, a, c, rfl, hx⟩ := hW.form
  rw [← ffB_filter]
  unfold BndD.v
  refine cl_intro Try.func26 rfl rfl rfl ?_
  have K : Keep [] h h := Keep.refl _ _
  refine tr_seq ?_
  refine tr_reg ?_
  refine rs_w (w_newbox rfl) rfl ?_
  rintro _ h1 ⟨rfl, B1, K1, Z1⟩
  have S1 := K.1; have K := K.new0 K1
  refine rs_w (w_newbox rfl) rfl ?_
  rintro _ h2 ⟨rfl, B2, K2, Z2⟩
  have B1 := K2.blk (by simp) B1
  have S2 := K.1; have K := K.new0 K2
  refine rs_v (v_assign rfl) rfl ?_
  refine rs_nil ?_
  refine q_thn ?_
  refine tr_seq ?_
  refine tr_reg ?_
  refine rs_v (v_assign rfl) rfl ?_
  refine rs_nil ?_
  refine q_thn ?_
  refine tr_seq ?_
  refine tr_seq ?_
  refine tr_reg ?_
  refine rs_v (v_move rfl) rfl ?_
  refine rs_v (v_len u_sl_spec_Span rfl) rfl ?_
  refine rs_v (v_move rfl) rfl ?_
  refine rs_nil ?_
  refine q_thn ?_
  refine tr_block ?_
  refine tr_loop (fun m E h' => ∃ k v n, k ≤ W.length ∧ m = W.length - k ∧ E = [(7, v), (4, .pointer (some ⟨h.size, 0, none⟩)), (5, .pointer (some ⟨h1.size, 0, none⟩)), (10, .slice a W.length c), (11, .int .i64 (W.length : Int)), (12, .int .i64 (k : Int))] ∧ Keep [] h h' ∧ n = ((W.take k).filterMap (ffB lo.opt up.opt)).length ∧ OutR A h h' h2.size 55 3 cSpan v n ((W.take k).filterMap (ffB lo.opt up.opt)) ∧ Blk h' h.size [.string lo.key, .bool lo.has] 43 ∧ Blk h' h1.size [.string up.key, .bool up.has] 43 ∧ h2.size ≤ h'.size) W.length [(7, _), (4, _), (5, _), (10, _), (11, _), (12, _)] ⟨rfl, rfl, rfl, rfl, rfl, rfl, trivial⟩ ⟨0, _, 0, Nat.zero_le _, rfl, rfl, K, rfl, OutR.nil _ _ _ _ _ _ _, B1, B2, Nat.le_refl _⟩ ?_
  rintro m E hL3 ⟨k, v, n, hk, rfl, rfl, K, hn, hout, B1, B2, hz2⟩
  have hout0 := hout
  obtain ⟨xs, F, O, hrow, hF⟩ := hout
  have KL0 := K.1
  have hl1 := B1.lt
  have hl2 := B2.lt
  have hob := own_ne O; have KL := Keep.refl [] hL3
  refine tr_seq ?_
  refine tr_reg ?_
  refine rs_v (v_lt rfl rfl) rfl ?_
  refine rs_nil ?_
  refine q_thn ?_
  refine tr_seq ?_
  refine tr_ifn rfl (fun hif => ?_) (fun hif => ?_)
  · -- no
    simp only [decide_eq_true_eq, decide_eq_false_iff_not] at hif
    have hkk : k = W.length := by omega
    subst hkk
    refine tr_exit ?_
    refine q_thn_exit ?_
    refine q_lp_exit ?_
    refine q_blk_hit ?_
    refine q_thn ?_
    refine tr_seq ?_
    refine tr_reg ?_
    refine rs_v (v_move rfl) rfl ?_
    refine rs_v (v_assign rfl) rfl ?_
    refine rs_nil ?_
    refine q_thn ?_
    refine tr_ret ?_
    refine q_ret (res_tmp rfl rfl) ?_
    rw [List.take_length] at hout0 hn
    exact ⟨hout0.fin cSpan_st hn (by omega) cSpan_r, K⟩
  -- yes
  simp only [decide_eq_true_eq, decide_eq_false_iff_not] at hif
  rcases hx with rfl | ⟨b, o, rfl, hAb, hR⟩
  · simp at hif; omega
  obtain ⟨x, hsk⟩ := ex_get (L := W) (k := k) (by omega)
  have hkl : k < W.length := (List.getElem?_eq_some_iff.1 hsk).1
  have KL0 := K.1
  obtain ⟨kv, hcc, hkx⟩ := hR k x hsk
  obtain ⟨ka, kc, rfl⟩ := hkx.form2
  have hcells := K.cells (by simp) hcc
  have hnk : n ≤ k := by rw [hn]; exact Nat.le_trans (List.length_filterMap_le _ _) (by rw [List.length_take]; omega)
  refine tr_skip ?_
  refine q_thn ?_
  refine tr_seq ?_
  refine tr_block ?_
  refine tr_seq ?_
  refine tr_reg ?_
  refine rs_v (v_indexAddrN u_sl_spec_Span siz_spec_Span rfl rfl (by omega)) rfl ?_
  refine rs_v (v_loadAgg (vs := [_, _, _]) many_spec_Span rfl (by exact hcells)) rfl ?_
  refine rs_w (w_new zero_spec_Span) rfl ?_
  rintro _ h4 ⟨rfl, B4, K4, Z4⟩
  have B1 := K4.blk (by simp) B1
  have B2 := K4.blk (by simp) B2
  have O := O.keep2 K4 (fun x hm => by have := hob x hm; simp; try omega)
  have S4 := K.1; have K := K.new0 K4; have KL := KL.new0 K4
  refine rs_w0 (w_put siz_spec_Span rfl rfl rfl rfl B4 rfl) ?_
  rintro _ h5 ⟨B5, K5⟩
  have B1 := K5.blk (by simp; omega) B1
  have B2 := K5.blk (by simp; omega) B2
  have O := O.keep2 K5 (fun x hm => by have := hob x hm; simp; try omega)
  have B4 := B5; have K := K.new1 K5 (by first | (right; omega) | (left; simp; done)); have Z5 := K5.1; have KL := KL.new1 K5 (.inr (by omega))
  refine rs_nil ?_
  refine q_thn ?_
  refine tr_cut (fun E h' => h5 = h' ∧ E = [(7, v), (4, .pointer (some ⟨h.size, 0, none⟩)), (5, .pointer (some ⟨h1.size, 0, none⟩)), (10, .slice (some ⟨b, o, none⟩) W.length c), (11, .int .i64 (W.length : Int)), (12, .int .i64 (k : Int)), (9, .pointer (some ⟨hL3.size, 0, none⟩)), (37, .bool (LoC lo.opt x && UpC up.opt x))]) ?_ ?_
  ·
    rcases bb_split lo.has up.has (!(sle x.e lo.key)) with ⟨g1, g2⟩ | ⟨g1, g2⟩ | ⟨g1, g3, g2⟩ | ⟨g1, g3, g2⟩ | ⟨g1, g3⟩
    · skip
      refine tr_reg ?_
      refine rs_v (v_fieldAddr fa_spec_Bound_1 rfl) rfl ?_
      refine rs_v (v_load one_bool rfl (by exact B1.cell _ rfl)) rfl ?_
      refine rs_v (v_not rfl) rfl ?_
      refine rs_v (v_move rfl) rfl ?_
      refine rs_gs rfl (lkb (nb g1)) rfl rfl ?_
      refine rs_gs rfl (lkb (nb g1)) rfl rfl ?_
      refine rs_gs rfl (lkb (nb g1)) rfl rfl ?_
      refine rs_gs rfl (lkb (nb g1)) rfl rfl ?_
      refine rs_gs rfl (lkb (nb g1)) rfl rfl ?_
      refine rs_v (v_pick_t (lkb (nb g1)) rfl) rfl ?_
      refine rs_v (v_move rfl) rfl ?_
      refine rs_gv rfl (rfl) (v_fieldAddr fa_spec_Bound_1 rfl) rfl ?_
      refine rs_gv rfl (rfl) (v_load one_bool rfl (by exact B2.cell _ rfl)) rfl ?_
      refine rs_gv rfl (rfl) (v_not rfl) rfl ?_
      refine rs_gv rfl (rfl) (v_move rfl) rfl ?_
      refine rs_gs rfl (lkb (nb g2)) rfl rfl ?_
      refine rs_gs rfl (lkb (nb g2)) rfl rfl ?_
      refine rs_gs rfl (lkb (nb g2)) rfl rfl ?_
      refine rs_gs rfl (lkb (nb g2)) rfl rfl ?_
      refine rs_gs rfl (lkb (nb g2)) rfl rfl ?_
      refine rs_gv rfl (rfl) (v_pick_t (lkb (nb g2)) rfl) rfl ?_
      refine rs_v (v_pick_t rfl rfl) rfl ?_
      refine rs_nil ?_
      exact q_cut [(7, _), (4, _), (5, _), (10, _), (11, _), (12, _), (9, _), (37, _)] ⟨rfl, rfl, rfl, rfl, rfl, rfl, rfl, rfl, trivial⟩ ⟨rfl, by rw [show (LoC lo.opt x && UpC up.opt x) = true from by rw [opt_none g1, opt_none g2]; rfl]⟩
    · skip
      refine tr_reg ?_
      refine rs_v (v_fieldAddr fa_spec_Bound_1 rfl) rfl ?_
      refine rs_v (v_load one_bool rfl (by exact B1.cell _ rfl)) rfl ?_
      refine rs_v (v_not rfl) rfl ?_
      refine rs_v (v_move rfl) rfl ?_
      refine rs_gs rfl (lkb (nb g1)) rfl rfl ?_
      refine rs_gs rfl (lkb (nb g1)) rfl rfl ?_
      refine rs_gs rfl (lkb (nb g1)) rfl rfl ?_
      refine rs_gs rfl (lkb (nb g1)) rfl rfl ?_
      refine rs_gs rfl (lkb (nb g1)) rfl rfl ?_
      refine rs_v (v_pick_t (lkb (nb g1)) rfl) rfl ?_
      refine rs_v (v_move rfl) rfl ?_
      refine rs_gv rfl (rfl) (v_fieldAddr fa_spec_Bound_1 rfl) rfl ?_
      refine rs_gv rfl (rfl) (v_load one_bool rfl (by exact B2.cell _ rfl)) rfl ?_
      refine rs_gv rfl (rfl) (v_not rfl) rfl ?_
      refine rs_gv rfl (rfl) (v_move rfl) rfl ?_
      refine rs_gv rfl (lkb (nb2 g2)) (v_fieldAddr fa_spec_Span_0 rfl) rfl ?_
      refine rs_gv rfl (lkb (nb2 g2)) (v_load one_string rfl (by exact B4.cell _ rfl)) rfl ?_
      refine rs_gv rfl (lkb (nb2 g2)) (v_fieldAddr fa_spec_Bound_0 rfl) rfl ?_
      refine rs_gv rfl (lkb (nb2 g2)) (v_load one_string rfl (by exact B2.cell _ rfl)) rfl ?_
      refine rs_gv rfl (lkb (nb2 g2)) (v_slt rfl rfl) rfl ?_
      refine rs_gv rfl (rfl) (v_pick_f (lkb (nb2 g2)) rfl) rfl ?_
      refine rs_v (v_pick_t rfl rfl) rfl ?_
      refine rs_nil ?_
      exact q_cut [(7, _), (4, _), (5, _), (10, _), (11, _), (12, _), (9, _), (37, _)] ⟨rfl, rfl, rfl, rfl, rfl, rfl, rfl, rfl, trivial⟩ ⟨rfl, by rw [show (LoC lo.opt x && UpC up.opt x) = slt x.s up.key from by rw [opt_none g1, opt_some g2]; rfl]⟩
    · skip
      refine tr_reg ?_
      refine rs_v (v_fieldAddr fa_spec_Bound_1 rfl) rfl ?_
      refine rs_v (v_load one_bool rfl (by exact B1.cell _ rfl)) rfl ?_
      refine rs_v (v_not rfl) rfl ?_
      refine rs_v (v_move rfl) rfl ?_
      refine rs_gv rfl (lkb (nb2 g1)) (v_fieldAddr fa_spec_Span_1 rfl) rfl ?_
      refine rs_gv rfl (lkb (nb2 g1)) (v_load one_string rfl (by exact B4.cell _ rfl)) rfl ?_
      refine rs_gv rfl (lkb (nb2 g1)) (v_fieldAddr fa_spec_Bound_0 rfl) rfl ?_
      refine rs_gv rfl (lkb (nb2 g1)) (v_load one_string rfl (by exact B1.cell _ rfl)) rfl ?_
      refine rs_gv rfl (lkb (nb2 g1)) (v_sgt rfl rfl) rfl ?_
      refine rs_v (v_pick_f (lkb (nb2 g1)) rfl) rfl ?_
      refine rs_v (v_move rfl) rfl ?_
      refine rs_gv rfl (lkb g3) (v_fieldAddr fa_spec_Bound_1 rfl) rfl ?_
      refine rs_gv rfl (lkb g3) (v_load one_bool rfl (by exact B2.cell _ rfl)) rfl ?_
      refine rs_gv rfl (lkb g3) (v_not rfl) rfl ?_
      refine rs_gv rfl (lkb g3) (v_move rfl) rfl ?_
      refine rs_gs rfl (lkb (nb g2)) rfl rfl ?_
      refine rs_gs rfl (lkb (nb g2)) rfl rfl ?_
      refine rs_gs rfl (lkb (nb g2)) rfl rfl ?_
      refine rs_gs rfl (lkb (nb g2)) rfl rfl ?_
      refine rs_gs rfl (lkb (nb g2)) rfl rfl ?_
      refine rs_gv rfl (lkb g3) (v_pick_t (lkb (nb g2)) rfl) rfl ?_
      refine rs_v (v_pick_t (lkb g3) rfl) rfl ?_
      refine rs_nil ?_
      exact q_cut [(7, _), (4, _), (5, _), (10, _), (11, _), (12, _), (9, _), (37, _)] ⟨rfl, rfl, rfl, rfl, rfl, rfl, rfl, rfl, trivial⟩ ⟨rfl, by rw [show (LoC lo.opt x && UpC up.opt x) = true from by rw [opt_some g1, opt_none g2]; rw [nsle] at g3; simp [LoC, UpC, g3]]⟩
    · skip
      refine tr_reg ?_
      refine rs_v (v_fieldAddr fa_spec_Bound_1 rfl) rfl ?_
      refine rs_v (v_load one_bool rfl (by exact B1.cell _ rfl)) rfl ?_
      refine rs_v (v_not rfl) rfl ?_
      refine rs_v (v_move rfl) rfl ?_
      refine rs_gv rfl (lkb (nb2 g1)) (v_fieldAddr fa_spec_Span_1 rfl) rfl ?_
      refine rs_gv rfl (lkb (nb2 g1)) (v_load one_string rfl (by exact B4.cell _ rfl)) rfl ?_
      refine rs_gv rfl (lkb (nb2 g1)) (v_fieldAddr fa_spec_Bound_0 rfl) rfl ?_
      refine rs_gv rfl (lkb (nb2 g1)) (v_load one_string rfl (by exact B1.cell _ rfl)) rfl ?_
      refine rs_gv rfl (lkb (nb2 g1)) (v_sgt rfl rfl) rfl ?_
      refine rs_v (v_pick_f (lkb (nb2 g1)) rfl) rfl ?_
      refine rs_v (v_move rfl) rfl ?_
      refine rs_gv rfl (lkb g3) (v_fieldAddr fa_spec_Bound_1 rfl) rfl ?_
      refine rs_gv rfl (lkb g3) (v_load one_bool rfl (by exact B2.cell _ rfl)) rfl ?_
      refine rs_gv rfl (lkb g3) (v_not rfl) rfl ?_
      refine rs_gv rfl (lkb g3) (v_move rfl) rfl ?_
      refine rs_gv rfl (lkb (nb2 g2)) (v_fieldAddr fa_spec_Span_0 rfl) rfl ?_
      refine rs_gv rfl (lkb (nb2 g2)) (v_load one_string rfl (by exact B4.cell _ rfl)) rfl ?_
      refine rs_gv rfl (lkb (nb2 g2)) (v_fieldAddr fa_spec_Bound_0 rfl) rfl ?_
      refine rs_gv rfl (lkb (nb2 g2)) (v_load one_string rfl (by exact B2.cell _ rfl)) rfl ?_
      refine rs_gv rfl (lkb (nb2 g2)) (v_slt rfl rfl) rfl ?_
      refine rs_gv rfl (lkb g3) (v_pick_f (lkb (nb2 g2)) rfl) rfl ?_
      refine rs_v (v_pick_t (lkb g3) rfl) rfl ?_
      refine rs_nil ?_
      exact q_cut [(7, _), (4, _), (5, _), (10, _), (11, _), (12, _), (9, _), (37, _)] ⟨rfl, rfl, rfl, rfl, rfl, rfl, rfl, rfl, trivial⟩ ⟨rfl, by rw [show (LoC lo.opt x && UpC up.opt x) = slt x.s up.key from by rw [opt_some g1, opt_some g2]; rw [nsle] at g3; simp [LoC, UpC, g3]]⟩
    · skip
      refine tr_reg ?_
      refine rs_v (v_fieldAddr fa_spec_Bound_1 rfl) rfl ?_
      refine rs_v (v_load one_bool rfl (by exact B1.cell _ rfl)) rfl ?_
      refine rs_v (v_not rfl) rfl ?_
      refine rs_v (v_move rfl) rfl ?_
      refine rs_gv rfl (lkb (nb2 g1)) (v_fieldAddr fa_spec_Span_1 rfl) rfl ?_
      refine rs_gv rfl (lkb (nb2 g1)) (v_load one_string rfl (by exact B4.cell _ rfl)) rfl ?_
      refine rs_gv rfl (lkb (nb2 g1)) (v_fieldAddr fa_spec_Bound_0 rfl) rfl ?_
      refine rs_gv rfl (lkb (nb2 g1)) (v_load one_string rfl (by exact B1.cell _ rfl)) rfl ?_
      refine rs_gv rfl (lkb (nb2 g1)) (v_sgt rfl rfl) rfl ?_
      refine rs_v (v_pick_f (lkb (nb2 g1)) rfl) rfl ?_
      refine rs_v (v_move rfl) rfl ?_
      refine rs_gs rfl (lkb g3) rfl rfl ?_
      refine rs_gs rfl (lkb g3) rfl rfl ?_
      refine rs_gs rfl (lkb g3) rfl rfl ?_
      refine rs_gs rfl (lkb g3) rfl rfl ?_
      refine rs_gu rfl rfl rfl ?_
      refine rs_gu rfl rfl rfl ?_
      refine rs_gu rfl rfl rfl ?_
      refine rs_gu rfl rfl rfl ?_
      refine rs_gu rfl rfl rfl ?_
      refine rs_gs rfl (lkb g3) rfl rfl ?_
      refine rs_v (v_pick_f (lkb g3) rfl) rfl ?_
      refine rs_nil ?_
      exact q_cut [(7, _), (4, _), (5, _), (10, _), (11, _), (12, _), (9, _), (37, _)] ⟨rfl, rfl, rfl, rfl, rfl, rfl, rfl, rfl, trivial⟩ ⟨rfl, by rw [show (LoC lo.opt x && UpC up.opt x) = false from by rw [opt_some g1]; rw [nsle] at g3; simp [LoC, g3]]⟩
  rintro E h99 ⟨hh, rfl⟩
  subst hh
  refine tr_if rfl (fun hif => ?_) (fun hif => ?_)
  · -- yes
    skip
    refine tr_reg ?_
    refine rs_v (v_move rfl) rfl ?_
    refine rs_v (v_loadAgg (vs := [_, _, _]) many_spec_Span rfl (by exact B4.sub _ 3 rfl)) rfl ?_
    refine rs_w (w_new1 u_sl_spec_Span siz_spec_Span zero_spec_Span rfl rfl rfl rfl rfl) rfl ?_
    rintro _ h7 ⟨rfl, B7, K7, Z7⟩
    have B1 := K7.blk (by simp) B1
    have B2 := K7.blk (by simp) B2
    have B4 := K7.blk (by simp) B4
    have O := O.keep2 K7 (fun x hm => by have := hob x hm; simp; try omega)
    have S7 := K.1; have K := K.new0 K7; have KL := KL.new0 K7
    refine rs_w (w_app1 u_sl_spec_Span info_spec_Span rfl rfl rfl O rfl rfl B7 rfl (by omega) (by omega) (by omega)) rfl ?_
    have K70 := K
    have KL70 := KL
    rintro v8 h8 ⟨O8, K8, N8, F8⟩
    have K := K.newX K8 (fun x hm => .inr (by have := hob x hm; omega)); have Z8 := K8.1
    have B1 := K8.blk (fun hm => by have := hob _ hm; omega) B1
    have B2 := K8.blk (fun hm => by have := hob _ hm; omega) B2
    have B4 := K8.blk (fun hm => by have := hob _ hm; omega) B4
    have B7 := K8.blk (fun hm => by have := hob _ hm; omega) B7
    refine rs_v (v_assign rfl) rfl ?_
    refine rs_nil ?_
    refine q_blk_n ?_
    refine q_thn ?_
    refine tr_reg ?_
    refine rs_v (v_add rfl rfl (by omega) (by omega)) rfl ?_
    refine rs_v (v_move rfl) rfl ?_
    refine rs_nil ?_
    have hff : ffB lo.opt up.opt x = some x := by unfold ffB; rw [if_pos hif]
    refine q_lp (W.length - (k + 1)) [(7, _), (4, _), (5, _), (10, _), (11, _), (12, _)] (by omega) ⟨rfl, rfl, rfl, rfl, rfl, rfl, trivial⟩ ⟨k + 1, v8, n + 1, by omega, rfl, rfl, K, ?_, ?_, B1, B2, by omega⟩
    · rw [take_snoc' hsk, fm_snoc1, hff, List.length_append, ← hn]; rfl
    · rw [take_snoc' hsk, fm_snoc1, hff]
      exact OutR.snoc cSpan_st hA (by omega) hob hrow hF KL0 KL70 O8 K8 F8 rfl ⟨_, rfl, (hkx.stab (K70.st hA)).mono Up.old⟩
  -- no
  skip
  refine tr_skip ?_
  refine q_blk_n ?_
  refine q_thn ?_
  refine tr_reg ?_
  refine rs_v (v_add rfl rfl (by omega) (by omega)) rfl ?_
  refine rs_v (v_move rfl) rfl ?_
  refine rs_nil ?_
  have hff : ffB lo.opt up.opt x = none := by unfold ffB; rw [if_neg (by rw [hif]; decide)]
  refine q_lp (W.length - (k + 1)) [(7, _), (4, _), (5, _), (10, _), (11, _), (12, _)] (by omega) ⟨rfl, rfl, rfl, rfl, rfl, rfl, trivial⟩ ⟨k + 1, v, n, by omega, rfl, rfl, K, ?_, ?_, B1, B2, by omega⟩
  · rw [take_snoc' hsk, fm_snoc1, hff, Option.toList_none, List.append_nil]; exact hn
  · rw [take_snoc' hsk, fm_snoc1, hff, Option.toList_none, List.append_nil]
    exact hout0.keep cSpan_st KL
theorem c_zzFits10 (χ : Chi) (h : Heap) (b : BndD) :
    Cl Try.prog χ 24 #[b.v] h (fun r h' => r = .bool (decide (b.key.size ≤ MX)) ∧ Keep [] h h') := by
  unfold BndD.v
  refine cl_intro Try.func24 rfl rfl rfl ?_
  have K : Keep [] h h := Keep.refl _ _
  refine tr_seq ?_
  refine tr_reg ?_
  refine rs_w (w_newbox rfl) rfl ?_
  rintro _ h1 ⟨rfl, B1, K1, Z1⟩
  have S1 := K.1; have K := K.new0 K1
  refine rs_v (v_assign rfl) rfl ?_
  refine rs_nil ?_
  refine q_thn ?_
  refine tr_seq ?_
  refine tr_seq ?_
  refine tr_reg ?_
  refine rs_v (v_fieldAddr fa_spec_Bound_0 rfl) rfl ?_
  refine rs_v (v_load one_string rfl (by exact B1.cell _ rfl)) rfl ?_
  refine rs_v (v_lenStr u_string rfl) rfl ?_
  refine rs_v (v_gt rfl rfl) rfl ?_
  refine rs_nil ?_
  refine q_thn ?_
  refine tr_if rfl (fun hif => ?_) (fun hif => ?_)
  · -- yes
    simp only [decide_eq_true_eq, decide_eq_false_iff_not] at hif
    refine tr_seq ?_
    refine tr_reg ?_
    refine rs_v (v_assign rfl) rfl ?_
    refine rs_nil ?_
    refine q_thn ?_
    refine tr_ret ?_
    refine q_thn_ret ?_
    refine q_ret (res_tmp rfl rfl) ?_
    exact ⟨by rw [ofNat_gt hif], K⟩
  -- no
  simp only [decide_eq_true_eq, decide_eq_false_iff_not] at hif
  refine tr_skip ?_
  refine q_thn ?_
  refine tr_seq ?_
  refine tr_reg ?_
  refine rs_v (v_assign rfl) rfl ?_
  refine rs_nil ?_
  refine q_thn ?_
  refine tr_ret ?_
  refine q_ret (res_tmp rfl rfl) ?_
  exact ⟨by rw [ofNat_le hif], K⟩
theorem c_spanBound (χ : Chi) (h : Heap) (b : BndD) :
    Cl Try.prog χ 28 #[b.v] h (fun r h' => r = b.v ∧ Keep [] h h') := by
  unfold BndD.v
  refine cl_intro Try.func28 rfl rfl rfl ?_
  have K : Keep [] h h := Keep.refl _ _
  refine tr_seq ?_
  refine tr_reg ?_
  refine rs_w (w_newbox rfl) rfl ?_
  rintro _ h1 ⟨rfl, B1, K1, Z1⟩
  have S1 := K.1; have K := K.new0 K1
  refine rs_w (w_new zero_impl_Bound) rfl ?_
  rintro _ h2 ⟨rfl, B2, K2, Z2⟩
  have B1 := K2.blk (by simp) B1
  have S2 := K.1; have K := K.new0 K2
  refine rs_nil ?_
  refine q_thn ?_
  refine tr_seq ?_
  refine tr_reg ?_
  refine rs_v (v_loadAgg (vs := [_, _]) many_spec_Bound rfl (by exact B1.sub _ 2 rfl)) rfl ?_
  refine rs_w0 (w_put siz_impl_Bound rfl rfl rfl rfl B2 rfl) ?_
  rintro _ h3 ⟨B3, K3⟩
  have B1 := K3.blk (by simp; omega) B1
  have B2 := B3; have K := K.new1 K3 (by first | (right; omega) | (left; simp; done)); have Z3 := K3.1
  refine rs_nil ?_
  refine q_thn ?_
  refine tr_ret ?_
  refine q_ret (res_cell (vs := [_, _]) rfl rfl many_impl_Bound (by exact B2.sub 0 2 rfl)) ?_
  exact ⟨rfl, K⟩
theorem c_spanObeys (χ : Chi) (h : Heap) (A : Nat → Prop) (hA : Low A h) (sv : Value) (steps : List StepD) (lo up : BndD) (hS : RSteps A h sv steps) :
    Cl Try.prog χ 25 #[sv, lo.v, up.v] h (fun r h' => ∃ ok, r = .bool ok ∧ (ok = true → ordB lo.opt up.opt ∧ ∀ s, s ∈ steps → AlB lo.opt up.opt s) ∧ Keep [] h h') := by
  obtain ⟨hlen, sa, sc, rfl, hx⟩ := hS.form
  unfold BndD.v
  refine cl_intro Try.func25 rfl rfl rfl ?_
  have K : Keep [] h h := Keep.refl _ _
  refine tr_seq ?_
  refine tr_reg ?_
  refine rs_w (w_newbox rfl) rfl ?_
  rintro _ h1 ⟨rfl, B1, K1, Z1⟩
  have S1 := K.1; have K := K.new0 K1
  refine rs_w (w_newbox rfl) rfl ?_
  rintro _ h2 ⟨rfl, B2, K2, Z2⟩
  have B1 := K2.blk (by simp) B1
  have S2 := K.1; have K := K.new0 K2
  refine rs_v (v_assign rfl) rfl ?_
  refine rs_nil ?_
  refine q_thn ?_
  refine tr_seq ?_
  refine tr_cut (fun E h' => h2 = h' ∧ ∃ bad, E = [(0, .slice sa steps.length sc), (4, .pointer (some ⟨h.size, 0, none⟩)), (5, .pointer (some ⟨h1.size, 0, none⟩)), (30, .bool bad)] ∧ (bad = false → ordB lo.opt up.opt)) ?_ ?_
  ·
    rcases cc_split lo.has up.has (!(sle lo.key up.key)) with ⟨g1, g2⟩ | ⟨g1, g2⟩ | ⟨g1, g2⟩ | ⟨g1, g2, g3⟩ | ⟨g1, g2, g3⟩
    · skip
      refine tr_reg ?_
      refine rs_v (v_fieldAddr fa_spec_Bound_1 rfl) rfl ?_
      refine rs_v (v_load one_bool rfl (by exact B1.cell _ rfl)) rfl ?_
      refine rs_v (v_move rfl) rfl ?_
      refine rs_gs rfl (lkb g1) rfl rfl ?_
      refine rs_gs rfl (lkb g1) rfl rfl ?_
      refine rs_v (v_pick_f (lkb g1) rfl) rfl ?_
      refine rs_v (v_move rfl) rfl ?_
      refine rs_gs rfl (rfl) rfl rfl ?_
      refine rs_gs rfl (rfl) rfl rfl ?_
      refine rs_gs rfl (rfl) rfl rfl ?_
      refine rs_gs rfl (rfl) rfl rfl ?_
      refine rs_gs rfl (rfl) rfl rfl ?_
      refine rs_v (v_pick_f rfl rfl) rfl ?_
      refine rs_v (v_move rfl) rfl ?_
      refine rs_gv rfl (rfl) (v_fieldAddr fa_spec_Bound_1 rfl) rfl ?_
      refine rs_gv rfl (rfl) (v_load one_bool rfl (by exact B2.cell _ rfl)) rfl ?_
      refine rs_gv rfl (rfl) (v_move rfl) rfl ?_
      refine rs_gs rfl (lkb g2) rfl rfl ?_
      refine rs_gs rfl (lkb g2) rfl rfl ?_
      refine rs_gs rfl (lkb g2) rfl rfl ?_
      refine rs_gv rfl (rfl) (v_pick_f (lkb g2) rfl) rfl ?_
      refine rs_v (v_pick_f rfl rfl) rfl ?_
      refine rs_nil ?_
      exact q_cut [(0, _), (4, _), (5, _), (30, _)] ⟨rfl, rfl, rfl, rfl, trivial⟩ ⟨rfl, _, rfl, fun _ l u hl => by rw [opt_none g1] at hl; cases hl⟩
    · skip
      refine tr_reg ?_
      refine rs_v (v_fieldAddr fa_spec_Bound_1 rfl) rfl ?_
      refine rs_v (v_load one_bool rfl (by exact B1.cell _ rfl)) rfl ?_
      refine rs_v (v_move rfl) rfl ?_
      refine rs_gs rfl (lkb g1) rfl rfl ?_
      refine rs_gs rfl (lkb g1) rfl rfl ?_
      refine rs_v (v_pick_f (lkb g1) rfl) rfl ?_
      refine rs_v (v_move rfl) rfl ?_
      refine rs_gs rfl (rfl) rfl rfl ?_
      refine rs_gs rfl (rfl) rfl rfl ?_
      refine rs_gs rfl (rfl) rfl rfl ?_
      refine rs_gs rfl (rfl) rfl rfl ?_
      refine rs_gs rfl (rfl) rfl rfl ?_
      refine rs_v (v_pick_f rfl rfl) rfl ?_
      refine rs_v (v_move rfl) rfl ?_
      refine rs_gv rfl (rfl) (v_fieldAddr fa_spec_Bound_1 rfl) rfl ?_
      refine rs_gv rfl (rfl) (v_load one_bool rfl (by exact B2.cell _ rfl)) rfl ?_
      refine rs_gv rfl (rfl) (v_move rfl) rfl ?_
      refine rs_gv rfl (lkb g2) (v_fieldAddr fa_spec_Bound_0 rfl) rfl ?_
      refine rs_gv rfl (lkb g2) (v_load one_string rfl (by exact B2.cell _ rfl)) rfl ?_
      refine rs_gv rfl (lkb g2) (v_seq rfl rfl) rfl ?_
      refine rs_gv rfl (rfl) (v_pick_t (lkb g2) rfl) rfl ?_
      refine rs_v (v_pick_f rfl rfl) rfl ?_
      refine rs_nil ?_
      exact q_cut [(0, _), (4, _), (5, _), (30, _)] ⟨rfl, rfl, rfl, rfl, trivial⟩ ⟨rfl, _, rfl, fun _ l u hl => by rw [opt_none g1] at hl; cases hl⟩
    · skip
      refine tr_reg ?_
      refine rs_v (v_fieldAddr fa_spec_Bound_1 rfl) rfl ?_
      refine rs_v (v_load one_bool rfl (by exact B1.cell _ rfl)) rfl ?_
      refine rs_v (v_move rfl) rfl ?_
      refine rs_gv rfl (lkb g1) (v_fieldAddr fa_spec_Bound_1 rfl) rfl ?_
      refine rs_gv rfl (lkb g1) (v_load one_bool rfl (by exact B2.cell _ rfl)) rfl ?_
      refine rs_v (v_pick_t (lkb g1) rfl) rfl ?_
      refine rs_v (v_move rfl) rfl ?_
      refine rs_gs rfl (lkb g2) rfl rfl ?_
      refine rs_gs rfl (lkb g2) rfl rfl ?_
      refine rs_gs rfl (lkb g2) rfl rfl ?_
      refine rs_gs rfl (lkb g2) rfl rfl ?_
      refine rs_gs rfl (lkb g2) rfl rfl ?_
      refine rs_v (v_pick_f (lkb g2) rfl) rfl ?_
      refine rs_v (v_move rfl) rfl ?_
      refine rs_gv rfl (rfl) (v_fieldAddr fa_spec_Bound_1 rfl) rfl ?_
      refine rs_gv rfl (rfl) (v_load one_bool rfl (by exact B2.cell _ rfl)) rfl ?_
      refine rs_gv rfl (rfl) (v_move rfl) rfl ?_
      refine rs_gs rfl (lkb g2) rfl rfl ?_
      refine rs_gs rfl (lkb g2) rfl rfl ?_
      refine rs_gs rfl (lkb g2) rfl rfl ?_
      refine rs_gv rfl (rfl) (v_pick_f (lkb g2) rfl) rfl ?_
      refine rs_v (v_pick_f rfl rfl) rfl ?_
      refine rs_nil ?_
      exact q_cut [(0, _), (4, _), (5, _), (30, _)] ⟨rfl, rfl, rfl, rfl, trivial⟩ ⟨rfl, _, rfl, fun _ l u _ hu => by rw [opt_none g2] at hu; cases hu⟩
    · skip
      refine tr_reg ?_
      refine rs_v (v_fieldAddr fa_spec_Bound_1 rfl) rfl ?_
      refine rs_v (v_load one_bool rfl (by exact B1.cell _ rfl)) rfl ?_
      refine rs_v (v_move rfl) rfl ?_
      refine rs_gv rfl (lkb g1) (v_fieldAddr fa_spec_Bound_1 rfl) rfl ?_
      refine rs_gv rfl (lkb g1) (v_load one_bool rfl (by exact B2.cell _ rfl)) rfl ?_
      refine rs_v (v_pick_t (lkb g1) rfl) rfl ?_
      refine rs_v (v_move rfl) rfl ?_
      refine rs_gv rfl (lkb g2) (v_fieldAddr fa_spec_Bound_0 rfl) rfl ?_
      refine rs_gv rfl (lkb g2) (v_load one_string rfl (by exact B1.cell _ rfl)) rfl ?_
      refine rs_gv rfl (lkb g2) (v_fieldAddr fa_spec_Bound_0 rfl) rfl ?_
      refine rs_gv rfl (lkb g2) (v_load one_string rfl (by exact B2.cell _ rfl)) rfl ?_
      refine rs_gv rfl (lkb g2) (v_sgt rfl rfl) rfl ?_
      refine rs_v (v_pick_t (lkb g2) rfl) rfl ?_
      refine rs_v (v_move rfl) rfl ?_
      refine rs_gs rfl (lkb g3) rfl rfl ?_
      refine rs_gs rfl (lkb g3) rfl rfl ?_
      refine rs_gs rfl (lkb g3) rfl rfl ?_
      refine rs_gu rfl rfl rfl ?_
      refine rs_gu rfl rfl rfl ?_
      refine rs_gu rfl rfl rfl ?_
      refine rs_gs rfl (lkb g3) rfl rfl ?_
      refine rs_v (v_pick_t (lkb g3) rfl) rfl ?_
      refine rs_nil ?_
      exact q_cut [(0, _), (4, _), (5, _), (30, _)] ⟨rfl, rfl, rfl, rfl, trivial⟩ ⟨rfl, _, rfl, fun hb => by cases hb⟩
    · skip
      refine tr_reg ?_
      refine rs_v (v_fieldAddr fa_spec_Bound_1 rfl) rfl ?_
      refine rs_v (v_load one_bool rfl (by exact B1.cell _ rfl)) rfl ?_
      refine rs_v (v_move rfl) rfl ?_
      refine rs_gv rfl (lkb g1) (v_fieldAddr fa_spec_Bound_1 rfl) rfl ?_
      refine rs_gv rfl (lkb g1) (v_load one_bool rfl (by exact B2.cell _ rfl)) rfl ?_
      refine rs_v (v_pick_t (lkb g1) rfl) rfl ?_
      refine rs_v (v_move rfl) rfl ?_
      refine rs_gv rfl (lkb g2) (v_fieldAddr fa_spec_Bound_0 rfl) rfl ?_
      refine rs_gv rfl (lkb g2) (v_load one_string rfl (by exact B1.cell _ rfl)) rfl ?_
      refine rs_gv rfl (lkb g2) (v_fieldAddr fa_spec_Bound_0 rfl) rfl ?_
      refine rs_gv rfl (lkb g2) (v_load one_string rfl (by exact B2.cell _ rfl)) rfl ?_
      refine rs_gv rfl (lkb g2) (v_sgt rfl rfl) rfl ?_
      refine rs_v (v_pick_t (lkb g2) rfl) rfl ?_
      refine rs_v (v_move rfl) rfl ?_
      refine rs_gv rfl (lkb g3) (v_fieldAddr fa_spec_Bound_1 rfl) rfl ?_
      refine rs_gv rfl (lkb g3) (v_load one_bool rfl (by exact B2.cell _ rfl)) rfl ?_
      refine rs_gv rfl (lkb g3) (v_move rfl) rfl ?_
      refine rs_gv rfl (lkb g2) (v_fieldAddr fa_spec_Bound_0 rfl) rfl ?_
      refine rs_gv rfl (lkb g2) (v_load one_string rfl (by exact B2.cell _ rfl)) rfl ?_
      refine rs_gv rfl (lkb g2) (v_seq rfl rfl) rfl ?_
      refine rs_gv rfl (lkb g3) (v_pick_t (lkb g2) rfl) rfl ?_
      refine rs_v (v_pick_f (lkb g3) rfl) rfl ?_
      refine rs_nil ?_
      exact q_cut [(0, _), (4, _), (5, _), (30, _)] ⟨rfl, rfl, rfl, rfl, trivial⟩ ⟨rfl, _, rfl, fun _ l u hl hu => by rw [opt_some g1] at hl; rw [opt_some g2] at hu; cases hl; cases hu; simpa using g3⟩
  rintro E h99 ⟨hh, bad, rfl, hord⟩
  subst hh
  refine tr_if rfl (fun hif => ?_) (fun hif => ?_)
  · -- yes
    skip
    refine tr_seq ?_
    refine tr_reg ?_
    refine rs_v (v_assign rfl) rfl ?_
    refine rs_nil ?_
    refine q_thn ?_
    refine tr_ret ?_
    refine q_thn_ret ?_
    refine q_ret (res_tmp rfl rfl) ?_
    exact ⟨false, rfl, (fun e => by cases e), K⟩
  -- no
  have hord := hord hif
  refine tr_skip ?_
  refine q_thn ?_
  refine tr_seq ?_
  refine tr_seq ?_
  refine tr_reg ?_
  refine rs_v (v_move rfl) rfl ?_
  refine rs_v (v_len u_sl_spec_Step rfl) rfl ?_
  refine rs_v (v_move rfl) rfl ?_
  refine rs_nil ?_
  refine q_thn ?_
  refine tr_block ?_
  refine tr_loop (fun m E h' => ∃ k, k ≤ steps.length ∧ m = steps.length - k ∧ E = [(4, .pointer (some ⟨h.size, 0, none⟩)), (5, .pointer (some ⟨h1.size, 0, none⟩)), (31, .slice sa steps.length sc), (32, .int .i64 (steps.length : Int)), (33, .int .i64 (k : Int))] ∧ Keep [] h h' ∧ Blk h' h.size [.string lo.key, .bool lo.has] 43 ∧ Blk h' h1.size [.string up.key, .bool up.has] 43 ∧ ∀ (i : Nat) s, i < k → steps[i]? = some s → AlB lo.opt up.opt s) steps.length [(4, _), (5, _), (31, _), (32, _), (33, _)] ⟨rfl, rfl, rfl, rfl, rfl, trivial⟩ ⟨0, Nat.zero_le _, rfl, rfl, K, B1, B2, fun i s hi => by omega⟩ ?_
  rintro m E hL4 ⟨k, hk, rfl, rfl, K, B1, B2, hall⟩
  have hl1 := B1.lt
  have hl2 := B2.lt
  refine tr_seq ?_
  refine tr_reg ?_
  refine rs_v (v_lt rfl rfl) rfl ?_
  refine rs_nil ?_
  refine q_thn ?_
  refine tr_seq ?_
  refine tr_ifn rfl (fun hif => ?_) (fun hif => ?_)
  · -- no
    simp only [decide_eq_true_eq, decide_eq_false_iff_not] at hif
    have hkk : k = steps.length := by omega
    subst hkk
    refine tr_exit ?_
    refine q_thn_exit ?_
    refine q_lp_exit ?_
    refine q_blk_hit ?_
    refine q_thn ?_
    refine tr_seq ?_
    refine tr_reg ?_
    refine rs_v (v_assign rfl) rfl ?_
    refine rs_nil ?_
    refine q_thn ?_
    refine tr_ret ?_
    refine q_ret (res_tmp rfl rfl) ?_
    exact ⟨true, rfl, fun _ => ⟨hord, fun s hs => by obtain ⟨i, hi⟩ := List.getElem?_of_mem hs; exact hall i s (List.getElem?_eq_some_iff.1 hi).1 hi⟩, K⟩
  -- yes
  simp only [decide_eq_true_eq, decide_eq_false_iff_not] at hif
  rcases hx with rfl | ⟨b, o, rfl, hAb, hR⟩
  · simp at hif; omega
  obtain ⟨x, hsk⟩ := ex_get (L := steps) (k := k) (by omega)
  have hcells := K.cells (by simp) (hR k x hsk)
  refine tr_skip ?_
  refine q_thn ?_
  refine tr_seq ?_
  refine tr_block ?_
  refine tr_seq ?_
  refine tr_reg ?_
  refine rs_v (v_indexAddrN u_sl_spec_Step siz_spec_Step rfl rfl (by omega)) rfl ?_
  refine rs_v (v_loadAgg (vs := [_, _]) many_spec_Step rfl (by exact hcells)) rfl ?_
  refine rs_w (w_new zero_spec_Step) rfl ?_
  rintro _ h5 ⟨rfl, B5, K5, Z5⟩
  have B1 := K5.blk (by simp) B1
  have B2 := K5.blk (by simp) B2
  have S5 := K.1; have K := K.new0 K5
  refine rs_w0 (w_put siz_spec_Step rfl rfl rfl rfl B5 rfl) ?_
  rintro _ h6 ⟨B6, K6⟩
  have B1 := K6.blk (by simp; omega) B1
  have B2 := K6.blk (by simp; omega) B2
  have B5 := B6; have K := K.new1 K6 (by first | (right; omega) | (left; simp; done)); have Z6 := K6.1
  refine rs_nil ?_
  refine q_thn ?_
  refine tr_seq ?_
  refine tr_reg ?_
  refine rs_v (v_fieldAddr fa_spec_Step_0 rfl) rfl ?_
  refine rs_v (v_load one_uint8 rfl (by exact B5.cell _ rfl)) rfl ?_
  refine rs_nil ?_
  refine q_thn ?_
  refine tr_block ?_
  refine tr_seq ?_
  refine tr_reg ?_
  refine rs_v (v_eq rfl rfl) rfl ?_
  refine rs_v (v_assign rfl) rfl ?_
  refine rs_nil ?_
  refine q_thn ?_
  refine tr_if rfl (fun hif => ?_) (fun hif => ?_)
  · -- yes
    simp only [decide_eq_true_eq, decide_eq_false_iff_not] at hif
    refine tr_seq ?_
    refine tr_reg ?_
    refine rs_v (v_fieldAddr fa_spec_Bound_1 rfl) rfl ?_
    refine rs_v (v_load one_bool rfl (by exact B1.cell _ rfl)) rfl ?_
    refine rs_nil ?_
    refine q_thn ?_
    refine tr_if rfl (fun hif => ?_) (fun hif => ?_)
    · -- yes
      skip
      refine tr_seq ?_
      refine tr_reg ?_
      refine rs_v (v_assign rfl) rfl ?_
      refine rs_nil ?_
      refine q_thn ?_
      refine tr_ret ?_
      refine q_blk_ret ?_
      refine q_blk_ret ?_
      refine q_thn_ret ?_
      refine q_lp_ret ?_
      refine q_blk_ret ?_
      refine q_thn_ret ?_
      refine q_ret (res_tmp rfl rfl) ?_
      exact ⟨false, rfl, (fun e => by cases e), K⟩
    -- no
    have hh0 := hif
    refine tr_skip ?_
    refine q_blk_n ?_
    refine q_blk_n ?_
    refine q_thn ?_
    refine tr_reg ?_
    refine rs_v (v_add rfl rfl (by omega) (by omega)) rfl ?_
    refine rs_v (v_move rfl) rfl ?_
    refine rs_nil ?_
    have hal : AlB lo.opt up.opt x := ⟨fun _ => opt_none hh0, fun e => absurd e (by omega), fun e => absurd e (by omega)⟩
    refine q_lp (steps.length - (k + 1)) [(4, _), (5, _), (31, _), (32, _), (33, _)] (by omega) ⟨rfl, rfl, rfl, rfl, rfl, trivial⟩ ⟨k + 1, by omega, rfl, rfl, K, B1, B2, fun i s hi hsi => ?_⟩
    by_cases e : i = k
    · subst e; rw [hsk] at hsi; cases hsi; exact hal
    · exact hall i s (by omega) hsi
  -- no
  simp only [decide_eq_true_eq, decide_eq_false_iff_not] at hif
  have ho0 := hif
  refine tr_seq ?_
  refine tr_reg ?_
  refine rs_v (v_eq rfl rfl) rfl ?_
  refine rs_v (v_assign rfl) rfl ?_
  refine rs_nil ?_
  refine q_thn ?_
  refine tr_if rfl (fun hif => ?_) (fun hif => ?_)
  · -- yes
    simp only [decide_eq_true_eq, decide_eq_false_iff_not] at hif
    refine tr_seq ?_
    refine tr_reg ?_
    refine rs_v (v_fieldAddr fa_spec_Bound_1 rfl) rfl ?_
    refine rs_v (v_load one_bool rfl (by exact B2.cell _ rfl)) rfl ?_
    refine rs_nil ?_
    refine q_thn ?_
    refine tr_if rfl (fun hif => ?_) (fun hif => ?_)
    · -- yes
      skip
      refine tr_seq ?_
      refine tr_reg ?_
      refine rs_v (v_assign rfl) rfl ?_
      refine rs_nil ?_
      refine q_thn ?_
      refine tr_ret ?_
      refine q_blk_ret ?_
      refine q_blk_ret ?_
      refine q_thn_ret ?_
      refine q_lp_ret ?_
      refine q_blk_ret ?_
      refine q_thn_ret ?_
      refine q_ret (res_tmp rfl rfl) ?_
      exact ⟨false, rfl, (fun e => by cases e), K⟩
    -- no
    have hh0 := hif
    refine tr_skip ?_
    refine q_blk_n ?_
    refine q_blk_n ?_
    refine q_thn ?_
    refine tr_reg ?_
    refine rs_v (v_add rfl rfl (by omega) (by omega)) rfl ?_
    refine rs_v (v_move rfl) rfl ?_
    refine rs_nil ?_
    have hal : AlB lo.opt up.opt x := ⟨fun e => absurd e (by omega), fun _ => opt_none hh0, fun e => absurd e (by omega)⟩
    refine q_lp (steps.length - (k + 1)) [(4, _), (5, _), (31, _), (32, _), (33, _)] (by omega) ⟨rfl, rfl, rfl, rfl, rfl, trivial⟩ ⟨k + 1, by omega, rfl, rfl, K, B1, B2, fun i s hi hsi => ?_⟩
    by_cases e : i = k
    · subst e; rw [hsk] at hsi; cases hsi; exact hal
    · exact hall i s (by omega) hsi
  -- no
  simp only [decide_eq_true_eq, decide_eq_false_iff_not] at hif
  have ho1 := hif
  refine tr_seq ?_
  refine tr_seq ?_
  refine tr_reg ?_
  refine rs_v (v_eq rfl rfl) rfl ?_
  refine rs_v (v_assign rfl) rfl ?_
  refine rs_nil ?_
  refine q_thn ?_
  refine tr_if rfl (fun hif => ?_) (fun hif => ?_)
  · -- yes
    simp only [decide_eq_true_eq, decide_eq_false_iff_not] at hif
    refine tr_skip ?_
    refine q_thn ?_
    refine tr_if_t (lkb (decide_eq_true hif)) ?_
    refine tr_cut (fun E h' => h6 = h' ∧ ∃ bad, E = [(4, .pointer (some ⟨h.size, 0, none⟩)), (5, .pointer (some ⟨h1.size, 0, none⟩)), (31, .slice (some ⟨b, o, none⟩) steps.length sc), (32, .int .i64 (steps.length : Int)), (33, .int .i64 (k : Int)), (69, .bool bad)] ∧ (bad = false → (∀ l, lo.opt = some l → sle l x.key = true) ∧ ∀ u, up.opt = some u → sle x.key u = true)) ?_ ?_
    ·
      rcases dd_split lo.has up.has (slt x.key lo.key) with ⟨g1, g2⟩ | ⟨g1, g2⟩ | ⟨g1, g3⟩ | ⟨g1, g3, g2⟩ | ⟨g1, g3, g2⟩
      · skip
        refine tr_reg ?_
        refine rs_v (v_fieldAddr fa_spec_Bound_1 rfl) rfl ?_
        refine rs_v (v_load one_bool rfl (by exact B1.cell _ rfl)) rfl ?_
        refine rs_v (v_move rfl) rfl ?_
        refine rs_gs rfl (lkb g1) rfl rfl ?_
        refine rs_gs rfl (lkb g1) rfl rfl ?_
        refine rs_gs rfl (lkb g1) rfl rfl ?_
        refine rs_gs rfl (lkb g1) rfl rfl ?_
        refine rs_gs rfl (lkb g1) rfl rfl ?_
        refine rs_v (v_pick_f (lkb g1) rfl) rfl ?_
        refine rs_v (v_move rfl) rfl ?_
        refine rs_gv rfl (rfl) (v_fieldAddr fa_spec_Bound_1 rfl) rfl ?_
        refine rs_gv rfl (rfl) (v_load one_bool rfl (by exact B2.cell _ rfl)) rfl ?_
        refine rs_gv rfl (rfl) (v_move rfl) rfl ?_
        refine rs_gs rfl (lkb g2) rfl rfl ?_
        refine rs_gs rfl (lkb g2) rfl rfl ?_
        refine rs_gs rfl (lkb g2) rfl rfl ?_
        refine rs_gs rfl (lkb g2) rfl rfl ?_
        refine rs_gs rfl (lkb g2) rfl rfl ?_
        refine rs_gv rfl (rfl) (v_pick_f (lkb g2) rfl) rfl ?_
        refine rs_v (v_pick_f rfl rfl) rfl ?_
        refine rs_nil ?_
        exact q_cut [(4, _), (5, _), (31, _), (32, _), (33, _), (69, _)] ⟨rfl, rfl, rfl, rfl, rfl, rfl, trivial⟩ ⟨rfl, _, rfl, fun hb9 => ⟨(fun l hl => by rw [opt_none g1] at hl; cases hl), (fun u hu => by rw [opt_none g2] at hu; cases hu)⟩⟩
      · skip
        refine tr_reg ?_
        refine rs_v (v_fieldAddr fa_spec_Bound_1 rfl) rfl ?_
        refine rs_v (v_load one_bool rfl (by exact B1.cell _ rfl)) rfl ?_
        refine rs_v (v_move rfl) rfl ?_
        refine rs_gs rfl (lkb g1) rfl rfl ?_
        refine rs_gs rfl (lkb g1) rfl rfl ?_
        refine rs_gs rfl (lkb g1) rfl rfl ?_
        refine rs_gs rfl (lkb g1) rfl rfl ?_
        refine rs_gs rfl (lkb g1) rfl rfl ?_
        refine rs_v (v_pick_f (lkb g1) rfl) rfl ?_
        refine rs_v (v_move rfl) rfl ?_
        refine rs_gv rfl (rfl) (v_fieldAddr fa_spec_Bound_1 rfl) rfl ?_
        refine rs_gv rfl (rfl) (v_load one_bool rfl (by exact B2.cell _ rfl)) rfl ?_
        refine rs_gv rfl (rfl) (v_move rfl) rfl ?_
        refine rs_gv rfl (lkb g2) (v_fieldAddr fa_spec_Step_1 rfl) rfl ?_
        refine rs_gv rfl (lkb g2) (v_load one_string rfl (by exact B5.cell _ rfl)) rfl ?_
        refine rs_gv rfl (lkb g2) (v_fieldAddr fa_spec_Bound_0 rfl) rfl ?_
        refine rs_gv rfl (lkb g2) (v_load one_string rfl (by exact B2.cell _ rfl)) rfl ?_
        refine rs_gv rfl (lkb g2) (v_sgt rfl rfl) rfl ?_
        refine rs_gv rfl (rfl) (v_pick_t (lkb g2) rfl) rfl ?_
        refine rs_v (v_pick_f rfl rfl) rfl ?_
        refine rs_nil ?_
        exact q_cut [(4, _), (5, _), (31, _), (32, _), (33, _), (69, _)] ⟨rfl, rfl, rfl, rfl, rfl, rfl, trivial⟩ ⟨rfl, _, rfl, fun hb9 => ⟨(fun l hl => by rw [opt_none g1] at hl; cases hl), (fun u hu => by rw [opt_some g2] at hu; cases hu; simpa using hb9)⟩⟩
      · skip
        refine tr_reg ?_
        refine rs_v (v_fieldAddr fa_spec_Bound_1 rfl) rfl ?_
        refine rs_v (v_load one_bool rfl (by exact B1.cell _ rfl)) rfl ?_
        refine rs_v (v_move rfl) rfl ?_
        refine rs_gv rfl (lkb g1) (v_fieldAddr fa_spec_Step_1 rfl) rfl ?_
        refine rs_gv rfl (lkb g1) (v_load one_string rfl (by exact B5.cell _ rfl)) rfl ?_
        refine rs_gv rfl (lkb g1) (v_fieldAddr fa_spec_Bound_0 rfl) rfl ?_
        refine rs_gv rfl (lkb g1) (v_load one_string rfl (by exact B1.cell _ rfl)) rfl ?_
        refine rs_gv rfl (lkb g1) (v_slt rfl rfl) rfl ?_
        refine rs_v (v_pick_t (lkb g1) rfl) rfl ?_
        refine rs_v (v_move rfl) rfl ?_
        refine rs_gs rfl (lkb g3) rfl rfl ?_
        refine rs_gs rfl (lkb g3) rfl rfl ?_
        refine rs_gs rfl (lkb g3) rfl rfl ?_
        refine rs_gu rfl rfl rfl ?_
        refine rs_gu rfl rfl rfl ?_
        refine rs_gu rfl rfl rfl ?_
        refine rs_gu rfl rfl rfl ?_
        refine rs_gu rfl rfl rfl ?_
        refine rs_gs rfl (lkb g3) rfl rfl ?_
        refine rs_v (v_pick_t (lkb g3) rfl) rfl ?_
        refine rs_nil ?_
        exact q_cut [(4, _), (5, _), (31, _), (32, _), (33, _), (69, _)] ⟨rfl, rfl, rfl, rfl, rfl, rfl, trivial⟩ ⟨rfl, _, rfl, fun hb9 => by cases hb9⟩
      · skip
        refine tr_reg ?_
        refine rs_v (v_fieldAddr fa_spec_Bound_1 rfl) rfl ?_
        refine rs_v (v_load one_bool rfl (by exact B1.cell _ rfl)) rfl ?_
        refine rs_v (v_move rfl) rfl ?_
        refine rs_gv rfl (lkb g1) (v_fieldAddr fa_spec_Step_1 rfl) rfl ?_
        refine rs_gv rfl (lkb g1) (v_load one_string rfl (by exact B5.cell _ rfl)) rfl ?_
        refine rs_gv rfl (lkb g1) (v_fieldAddr fa_spec_Bound_0 rfl) rfl ?_
        refine rs_gv rfl (lkb g1) (v_load one_string rfl (by exact B1.cell _ rfl)) rfl ?_
        refine rs_gv rfl (lkb g1) (v_slt rfl rfl) rfl ?_
        refine rs_v (v_pick_t (lkb g1) rfl) rfl ?_
        refine rs_v (v_move rfl) rfl ?_
        refine rs_gv rfl (lkb g3) (v_fieldAddr fa_spec_Bound_1 rfl) rfl ?_
        refine rs_gv rfl (lkb g3) (v_load one_bool rfl (by exact B2.cell _ rfl)) rfl ?_
        refine rs_gv rfl (lkb g3) (v_move rfl) rfl ?_
        refine rs_gs rfl (lkb g2) rfl rfl ?_
        refine rs_gs rfl (lkb g2) rfl rfl ?_
        refine rs_gs rfl (lkb g2) rfl rfl ?_
        refine rs_gs rfl (lkb g2) rfl rfl ?_
        refine rs_gs rfl (lkb g2) rfl rfl ?_
        refine rs_gv rfl (lkb g3) (v_pick_f (lkb g2) rfl) rfl ?_
        refine rs_v (v_pick_f (lkb g3) rfl) rfl ?_
        refine rs_nil ?_
        exact q_cut [(4, _), (5, _), (31, _), (32, _), (33, _), (69, _)] ⟨rfl, rfl, rfl, rfl, rfl, rfl, trivial⟩ ⟨rfl, _, rfl, fun hb9 => ⟨(fun l hl => by rw [opt_some g1] at hl; cases hl; exact not_slt.1 g3), (fun u hu => by rw [opt_none g2] at hu; cases hu)⟩⟩
      · skip
        refine tr_reg ?_
        refine rs_v (v_fieldAddr fa_spec_Bound_1 rfl) rfl ?_
        refine rs_v (v_load one_bool rfl (by exact B1.cell _ rfl)) rfl ?_
        refine rs_v (v_move rfl) rfl ?_
        refine rs_gv rfl (lkb g1) (v_fieldAddr fa_spec_Step_1 rfl) rfl ?_
        refine rs_gv rfl (lkb g1) (v_load one_string rfl (by exact B5.cell _ rfl)) rfl ?_
        refine rs_gv rfl (lkb g1) (v_fieldAddr fa_spec_Bound_0 rfl) rfl ?_
        refine rs_gv rfl (lkb g1) (v_load one_string rfl (by exact B1.cell _ rfl)) rfl ?_
        refine rs_gv rfl (lkb g1) (v_slt rfl rfl) rfl ?_
        refine rs_v (v_pick_t (lkb g1) rfl) rfl ?_
        refine rs_v (v_move rfl) rfl ?_
        refine rs_gv rfl (lkb g3) (v_fieldAddr fa_spec_Bound_1 rfl) rfl ?_
        refine rs_gv rfl (lkb g3) (v_load one_bool rfl (by exact B2.cell _ rfl)) rfl ?_
        refine rs_gv rfl (lkb g3) (v_move rfl) rfl ?_
        refine rs_gv rfl (lkb g2) (v_fieldAddr fa_spec_Step_1 rfl) rfl ?_
        refine rs_gv rfl (lkb g2) (v_load one_string rfl (by exact B5.cell _ rfl)) rfl ?_
        refine rs_gv rfl (lkb g2) (v_fieldAddr fa_spec_Bound_0 rfl) rfl ?_
        refine rs_gv rfl (lkb g2) (v_load one_string rfl (by exact B2.cell _ rfl)) rfl ?_
        refine rs_gv rfl (lkb g2) (v_sgt rfl rfl) rfl ?_
        refine rs_gv rfl (lkb g3) (v_pick_t (lkb g2) rfl) rfl ?_
        refine rs_v (v_pick_f (lkb g3) rfl) rfl ?_
        refine rs_nil ?_
        exact q_cut [(4, _), (5, _), (31, _), (32, _), (33, _), (69, _)] ⟨rfl, rfl, rfl, rfl, rfl, rfl, trivial⟩ ⟨rfl, _, rfl, fun hb9 => ⟨(fun l hl => by rw [opt_some g1] at hl; cases hl; exact not_slt.1 g3), (fun u hu => by rw [opt_some g2] at hu; cases hu; simpa using hb9)⟩⟩
    rintro E h99 ⟨hh, bad, rfl, hbad⟩
    subst hh
    refine tr_if rfl (fun hif => ?_) (fun hif => ?_)
    · -- yes
      skip
      refine tr_seq ?_
      refine tr_reg ?_
      refine rs_v (v_assign rfl) rfl ?_
      refine rs_nil ?_
      refine q_thn ?_
      refine tr_ret ?_
      refine q_blk_ret ?_
      refine q_blk_ret ?_
      refine q_thn_ret ?_
      refine q_lp_ret ?_
      refine q_blk_ret ?_
      refine q_thn_ret ?_
      refine q_ret (res_tmp rfl rfl) ?_
      exact ⟨false, rfl, (fun e => by cases e), K⟩
    -- no
    have hb := hbad hif
    refine tr_skip ?_
    refine q_blk_n ?_
    refine q_blk_n ?_
    refine q_thn ?_
    refine tr_reg ?_
    refine rs_v (v_add rfl rfl (by omega) (by omega)) rfl ?_
    refine rs_v (v_move rfl) rfl ?_
    refine rs_nil ?_
    have hal : AlB lo.opt up.opt x := ⟨fun e => absurd e (by omega), fun e => absurd e (by omega), fun _ => hb⟩
    refine q_lp (steps.length - (k + 1)) [(4, _), (5, _), (31, _), (32, _), (33, _)] (by omega) ⟨rfl, rfl, rfl, rfl, rfl, trivial⟩ ⟨k + 1, by omega, rfl, rfl, K, B1, B2, fun i s hi hsi => ?_⟩
    by_cases e : i = k
    · subst e; rw [hsk] at hsi; cases hsi; exact hal
    · exact hall i s (by omega) hsi
  -- no
  simp only [decide_eq_true_eq, decide_eq_false_iff_not] at hif
  have ho4 := hif
  refine tr_reg ?_
  refine rs_v (v_eq rfl rfl) rfl ?_
  refine rs_v (v_assign rfl) rfl ?_
  refine rs_nil ?_
  refine q_thn ?_
  refine tr_if rfl (fun hif => ?_) (fun hif => ?_)
  · -- yes
    simp only [decide_eq_true_eq, decide_eq_false_iff_not] at hif
    refine tr_cut (fun E h' => h6 = h' ∧ ∃ bad, E = [(4, .pointer (some ⟨h.size, 0, none⟩)), (5, .pointer (some ⟨h1.size, 0, none⟩)), (31, .slice (some ⟨b, o, none⟩) steps.length sc), (32, .int .i64 (steps.length : Int)), (33, .int .i64 (k : Int)), (69, .bool bad)] ∧ (bad = false → (∀ l, lo.opt = some l → sle l x.key = true) ∧ ∀ u, up.opt = some u → sle x.key u = true)) ?_ ?_
    ·
      rcases dd_split lo.has up.has (slt x.key lo.key) with ⟨g1, g2⟩ | ⟨g1, g2⟩ | ⟨g1, g3⟩ | ⟨g1, g3, g2⟩ | ⟨g1, g3, g2⟩
      · skip
        refine tr_reg ?_
        refine rs_v (v_fieldAddr fa_spec_Bound_1 rfl) rfl ?_
        refine rs_v (v_load one_bool rfl (by exact B1.cell _ rfl)) rfl ?_
        refine rs_v (v_move rfl) rfl ?_
        refine rs_gs rfl (lkb g1) rfl rfl ?_
        refine rs_gs rfl (lkb g1) rfl rfl ?_
        refine rs_gs rfl (lkb g1) rfl rfl ?_
        refine rs_gs rfl (lkb g1) rfl rfl ?_
        refine rs_gs rfl (lkb g1) rfl rfl ?_
        refine rs_v (v_pick_f (lkb g1) rfl) rfl ?_
        refine rs_v (v_move rfl) rfl ?_
        refine rs_gv rfl (rfl) (v_fieldAddr fa_spec_Bound_1 rfl) rfl ?_
        refine rs_gv rfl (rfl) (v_load one_bool rfl (by exact B2.cell _ rfl)) rfl ?_
        refine rs_gv rfl (rfl) (v_move rfl) rfl ?_
        refine rs_gs rfl (lkb g2) rfl rfl ?_
        refine rs_gs rfl (lkb g2) rfl rfl ?_
        refine rs_gs rfl (lkb g2) rfl rfl ?_
        refine rs_gs rfl (lkb g2) rfl rfl ?_
        refine rs_gs rfl (lkb g2) rfl rfl ?_
        refine rs_gv rfl (rfl) (v_pick_f (lkb g2) rfl) rfl ?_
        refine rs_v (v_pick_f rfl rfl) rfl ?_
        refine rs_nil ?_
        exact q_cut [(4, _), (5, _), (31, _), (32, _), (33, _), (69, _)] ⟨rfl, rfl, rfl, rfl, rfl, rfl, trivial⟩ ⟨rfl, _, rfl, fun hb9 => ⟨(fun l hl => by rw [opt_none g1] at hl; cases hl), (fun u hu => by rw [opt_none g2] at hu; cases hu)⟩⟩
      · skip
        refine tr_reg ?_
        refine rs_v (v_fieldAddr fa_spec_Bound_1 rfl) rfl ?_
        refine rs_v (v_load one_bool rfl (by exact B1.cell _ rfl)) rfl ?_
        refine rs_v (v_move rfl) rfl ?_
        refine rs_gs rfl (lkb g1) rfl rfl ?_
        refine rs_gs rfl (lkb g1) rfl rfl ?_
        refine rs_gs rfl (lkb g1) rfl rfl ?_
        refine rs_gs rfl (lkb g1) rfl rfl ?_
        refine rs_gs rfl (lkb g1) rfl rfl ?_
        refine rs_v (v_pick_f (lkb g1) rfl) rfl ?_
        refine rs_v (v_move rfl) rfl ?_
        refine rs_gv rfl (rfl) (v_fieldAddr fa_spec_Bound_1 rfl) rfl ?_
        refine rs_gv rfl (rfl) (v_load one_bool rfl (by exact B2.cell _ rfl)) rfl ?_
        refine rs_gv rfl (rfl) (v_move rfl) rfl ?_
        refine rs_gv rfl (lkb g2) (v_fieldAddr fa_spec_Step_1 rfl) rfl ?_
        refine rs_gv rfl (lkb g2) (v_load one_string rfl (by exact B5.cell _ rfl)) rfl ?_
        refine rs_gv rfl (lkb g2) (v_fieldAddr fa_spec_Bound_0 rfl) rfl ?_
        refine rs_gv rfl (lkb g2) (v_load one_string rfl (by exact B2.cell _ rfl)) rfl ?_
        refine rs_gv rfl (lkb g2) (v_sgt rfl rfl) rfl ?_
        refine rs_gv rfl (rfl) (v_pick_t (lkb g2) rfl) rfl ?_
        refine rs_v (v_pick_f rfl rfl) rfl ?_
        refine rs_nil ?_
        exact q_cut [(4, _), (5, _), (31, _), (32, _), (33, _), (69, _)] ⟨rfl, rfl, rfl, rfl, rfl, rfl, trivial⟩ ⟨rfl, _, rfl, fun hb9 => ⟨(fun l hl => by rw [opt_none g1] at hl; cases hl), (fun u hu => by rw [opt_some g2] at hu; cases hu; simpa using hb9)⟩⟩
      · skip
        refine tr_reg ?_
        refine rs_v (v_fieldAddr fa_spec_Bound_1 rfl) rfl ?_
        refine rs_v (v_load one_bool rfl (by exact B1.cell _ rfl)) rfl ?_
        refine rs_v (v_move rfl) rfl ?_
        refine rs_gv rfl (lkb g1) (v_fieldAddr fa_spec_Step_1 rfl) rfl ?_
        refine rs_gv rfl (lkb g1) (v_load one_string rfl (by exact B5.cell _ rfl)) rfl ?_
        refine rs_gv rfl (lkb g1) (v_fieldAddr fa_spec_Bound_0 rfl) rfl ?_
        refine rs_gv rfl (lkb g1) (v_load one_string rfl (by exact B1.cell _ rfl)) rfl ?_
        refine rs_gv rfl (lkb g1) (v_slt rfl rfl) rfl ?_
        refine rs_v (v_pick_t (lkb g1) rfl) rfl ?_
        refine rs_v (v_move rfl) rfl ?_
        refine rs_gs rfl (lkb g3) rfl rfl ?_
        refine rs_gs rfl (lkb g3) rfl rfl ?_
        refine rs_gs rfl (lkb g3) rfl rfl ?_
        refine rs_gu rfl rfl rfl ?_
        refine rs_gu rfl rfl rfl ?_
        refine rs_gu rfl rfl rfl ?_
        refine rs_gu rfl rfl rfl ?_
        refine rs_gu rfl rfl rfl ?_
        refine rs_gs rfl (lkb g3) rfl rfl ?_
        refine rs_v (v_pick_t (lkb g3) rfl) rfl ?_
        refine rs_nil ?_
        exact q_cut [(4, _), (5, _), (31, _), (32, _), (33, _), (69, _)] ⟨rfl, rfl, rfl, rfl, rfl, rfl, trivial⟩ ⟨rfl, _, rfl, fun hb9 => by cases hb9⟩
      · skip
        refine tr_reg ?_
        refine rs_v (v_fieldAddr fa_spec_Bound_1 rfl) rfl ?_
        refine rs_v (v_load one_bool rfl (by exact B1.cell _ rfl)) rfl ?_
        refine rs_v (v_move rfl) rfl ?_
        refine rs_gv rfl (lkb g1) (v_fieldAddr fa_spec_Step_1 rfl) rfl ?_
        refine rs_gv rfl (lkb g1) (v_load one_string rfl (by exact B5.cell _ rfl)) rfl ?_
        refine rs_gv rfl (lkb g1) (v_fieldAddr fa_spec_Bound_0 rfl) rfl ?_
        refine rs_gv rfl (lkb g1) (v_load one_string rfl (by exact B1.cell _ rfl)) rfl ?_
        refine rs_gv rfl (lkb g1) (v_slt rfl rfl) rfl ?_
        refine rs_v (v_pick_t (lkb g1) rfl) rfl ?_
        refine rs_v (v_move rfl) rfl ?_
        refine rs_gv rfl (lkb g3) (v_fieldAddr fa_spec_Bound_1 rfl) rfl ?_
        refine rs_gv rfl (lkb g3) (v_load one_bool rfl (by exact B2.cell _ rfl)) rfl ?_
        refine rs_gv rfl (lkb g3) (v_move rfl) rfl ?_
        refine rs_gs rfl (lkb g2) rfl rfl ?_
        refine rs_gs rfl (lkb g2) rfl rfl ?_
        refine rs_gs rfl (lkb g2) rfl rfl ?_
        refine rs_gs rfl (lkb g2) rfl rfl ?_
        refine rs_gs rfl (lkb g2) rfl rfl ?_
        refine rs_gv rfl (lkb g3) (v_pick_f (lkb g2) rfl) rfl ?_
        refine rs_v (v_pick_f (lkb g3) rfl) rfl ?_
        refine rs_nil ?_
        exact q_cut [(4, _), (5, _), (31, _), (32, _), (33, _), (69, _)] ⟨rfl, rfl, rfl, rfl, rfl, rfl, trivial⟩ ⟨rfl, _, rfl, fun hb9 => ⟨(fun l hl => by rw [opt_some g1] at hl; cases hl; exact not_slt.1 g3), (fun u hu => by rw [opt_none g2] at hu; cases hu)⟩⟩
      · skip
        refine tr_reg ?_
        refine rs_v (v_fieldAddr fa_spec_Bound_1 rfl) rfl ?_
        refine rs_v (v_load one_bool rfl (by exact B1.cell _ rfl)) rfl ?_
        refine rs_v (v_move rfl) rfl ?_
        refine rs_gv rfl (lkb g1) (v_fieldAddr fa_spec_Step_1 rfl) rfl ?_
        refine rs_gv rfl (lkb g1) (v_load one_string rfl (by exact B5.cell _ rfl)) rfl ?_
        refine rs_gv rfl (lkb g1) (v_fieldAddr fa_spec_Bound_0 rfl) rfl ?_
        refine rs_gv rfl (lkb g1) (v_load one_string rfl (by exact B1.cell _ rfl)) rfl ?_
        refine rs_gv rfl (lkb g1) (v_slt rfl rfl) rfl ?_
        refine rs_v (v_pick_t (lkb g1) rfl) rfl ?_
        refine rs_v (v_move rfl) rfl ?_
        refine rs_gv rfl (lkb g3) (v_fieldAddr fa_spec_Bound_1 rfl) rfl ?_
        refine rs_gv rfl (lkb g3) (v_load one_bool rfl (by exact B2.cell _ rfl)) rfl ?_
        refine rs_gv rfl (lkb g3) (v_move rfl) rfl ?_
        refine rs_gv rfl (lkb g2) (v_fieldAddr fa_spec_Step_1 rfl) rfl ?_
        refine rs_gv rfl (lkb g2) (v_load one_string rfl (by exact B5.cell _ rfl)) rfl ?_
        refine rs_gv rfl (lkb g2) (v_fieldAddr fa_spec_Bound_0 rfl) rfl ?_
        refine rs_gv rfl (lkb g2) (v_load one_string rfl (by exact B2.cell _ rfl)) rfl ?_
        refine rs_gv rfl (lkb g2) (v_sgt rfl rfl) rfl ?_
        refine rs_gv rfl (lkb g3) (v_pick_t (lkb g2) rfl) rfl ?_
        refine rs_v (v_pick_f (lkb g3) rfl) rfl ?_
        refine rs_nil ?_
        exact q_cut [(4, _), (5, _), (31, _), (32, _), (33, _), (69, _)] ⟨rfl, rfl, rfl, rfl, rfl, rfl, trivial⟩ ⟨rfl, _, rfl, fun hb9 => ⟨(fun l hl => by rw [opt_some g1] at hl; cases hl; exact not_slt.1 g3), (fun u hu => by rw [opt_some g2] at hu; cases hu; simpa using hb9)⟩⟩
    rintro E h99 ⟨hh, bad, rfl, hbad⟩
    subst hh
    refine tr_if rfl (fun hif => ?_) (fun hif => ?_)
    · -- yes
      skip
      refine tr_seq ?_
      refine tr_reg ?_
      refine rs_v (v_assign rfl) rfl ?_
      refine rs_nil ?_
      refine q_thn ?_
      refine tr_ret ?_
      refine q_blk_ret ?_
      refine q_blk_ret ?_
      refine q_thn_ret ?_
      refine q_lp_ret ?_
      refine q_blk_ret ?_
      refine q_thn_ret ?_
      refine q_ret (res_tmp rfl rfl) ?_
      exact ⟨false, rfl, (fun e => by cases e), K⟩
    -- no
    have hb := hbad hif
    refine tr_skip ?_
    refine q_blk_n ?_
    refine q_blk_n ?_
    refine q_thn ?_
    refine tr_reg ?_
    refine rs_v (v_add rfl rfl (by omega) (by omega)) rfl ?_
    refine rs_v (v_move rfl) rfl ?_
    refine rs_nil ?_
    have hal : AlB lo.opt up.opt x := ⟨fun e => absurd e (by omega), fun e => absurd e (by omega), fun _ => hb⟩
    refine q_lp (steps.length - (k + 1)) [(4, _), (5, _), (31, _), (32, _), (33, _)] (by omega) ⟨rfl, rfl, rfl, rfl, rfl, trivial⟩ ⟨k + 1, by omega, rfl, rfl, K, B1, B2, fun i s hi hsi => ?_⟩
    by_cases e : i = k
    · subst e; rw [hsk] at hsi; cases hsi; exact hal
    · exact hall i s (by omega) hsi
  -- no
  simp only [decide_eq_true_eq, decide_eq_false_iff_not] at hif
  refine tr_skip ?_
  refine q_blk_n ?_
  refine q_blk_n ?_
  refine q_thn ?_
  refine tr_reg ?_
  refine rs_v (v_add rfl rfl (by omega) (by omega)) rfl ?_
  refine rs_v (v_move rfl) rfl ?_
  refine rs_nil ?_
  have hal : AlB lo.opt up.opt x := ⟨fun e => absurd e (by omega), fun e => absurd e (by omega), fun e => absurd e (by omega)⟩
  refine q_lp (steps.length - (k + 1)) [(4, _), (5, _), (31, _), (32, _), (33, _)] (by omega) ⟨rfl, rfl, rfl, rfl, rfl, trivial⟩ ⟨k + 1, by omega, rfl, rfl, K, B1, B2, fun i s hi hsi => ?_⟩
  by_cases e : i = k
  · subst e; rw [hsk] at hsi; cases hsi; exact hal
  · exact hall i s (by omega) hsi
end Go.Proofs.Ytgebfbnndgjkiaa

/- Forty-third part: the law of spans within bounds, walked. Conditions: those that each theorem names. -/
namespace Go.Proofs.Ytgebfbnndgjkiaa
open Go.Tess Go.RowKit
set_option maxRecDepth 100000
set_option maxHeartbeats 2000000
theorem filter_desc {P : SpanD → Bool} {W : List SpanD} (hG : Good W) : ∀ s, s ∈ W.filter P → descB s.ks = true ∧ few s := by
  intro s hs
  have hx := (List.mem_filter.1 hs).1
  exact ⟨(hG.full s hx).2.2.1, hG.few s hx⟩
def noB : BndD := ⟨ByteArray.empty, false⟩
theorem alB_no : ∀ s, s ∈ startS → AlB noB.opt noB.opt s := by
  intro s hs
  simp [startS] at hs
  subst hs
  refine ⟨fun _ => rfl, fun h => ?_, fun h => ?_⟩
  · simp at h
  · rcases h with h | h <;> simp at h
theorem bld_no : ∀ w, (Instr.build 48 #[]).run Try.prog w = .ok noB.v w := fun _ => by kernel_rfl

theorem c_FnSpanBounded (χ : Chi) (h : Heap) (A : Nat → Prop) (hA : Low A h) (v sv : Value) (W : List SpanD) (steps : List StepD) (lo up : BndD) (hW : RSpans A h v W) (hS : RSteps A h sv steps) :
    Cl Try.prog χ 4 #[v, lo.v, up.v, sv] h (fun r h' => r = .bool true ∧ Keep [] h h') := by
  have hW := RSpans.mono hW hA
  have hS := RSteps.mono hS hA
  obtain ⟨a, c, rfl⟩ := SlR.form2 hW
  obtain ⟨a2, c2, rfl⟩ := SlR.form2 hS
  unfold BndD.v
  refine cl_intro Try.func4 rfl rfl rfl ?_
  have K : Keep [] h h := Keep.refl _ _
  refine tr_seq ?_
  refine tr_reg ?_
  refine rs_w (w_newbox rfl) rfl ?_
  rintro _ h1 ⟨rfl, B1, K1, Z1⟩
  have S1 := K.1; have K := K.new0 K1
  refine rs_w (w_newbox rfl) rfl ?_
  rintro _ h2 ⟨rfl, B2, K2, Z2⟩
  have B1 := K2.blk (by simp) B1
  have S2 := K.1; have K := K.new0 K2
  refine rs_v (v_assign rfl) rfl ?_
  refine rs_nil ?_
  refine q_thn ?_
  refine tr_seq ?_
  refine tr_cut (fun E h' => Keep [] h h' ∧ Blk h' h.size [.string lo.key, .bool lo.has] 43 ∧ Blk h' h1.size [.string up.key, .bool up.has] 43 ∧ E = [(0, .slice a W.length c), (5, .pointer (some ⟨h.size, 0, none⟩)), (6, .pointer (some ⟨h1.size, 0, none⟩)), (3, .slice a2 steps.length c2), (8, .bool false), (27, .bool ((!fit4 W) || (!decide (lo.key.size ≤ MX)) || (!decide (up.key.size ≤ MX)) || (!fit8 steps)))]) ?_ ?_
  ·
    rcases bsplit4 (!fit4 W) (!decide (lo.key.size ≤ MX)) (!decide (up.key.size ≤ MX)) with g1 | ⟨g1, g2⟩ | ⟨g1, g2, g3⟩ | ⟨g1, g2, g3⟩
    · skip
      refine tr_reg ?_
      refine rs_v (v_move rfl) rfl ?_
      refine rs_w (w_call (vs := [_]) ok_laws_zzFits4 rfl ⟨rfl, trivial⟩ (c_zzFits4 χ _ _ (all_low _) _ W (RSpans.kk hW K))) rfl ?_
      rintro _ h3 ⟨rfl, K3⟩
      have B1 := K3.blk (by simp) B1
      have B2 := K3.blk (by simp) B2
      have K := K.new0 K3; have Z3 := K3.1
      refine rs_v (v_not rfl) rfl ?_
      refine rs_v (v_move rfl) rfl ?_
      refine rs_gs rfl (lkb g1) rfl rfl ?_
      refine rs_gs rfl (lkb g1) rfl rfl ?_
      refine rs_gs rfl (lkb g1) rfl rfl ?_
      refine rs_v (v_pick_t (lkb g1) rfl) rfl ?_
      refine rs_v (v_move rfl) rfl ?_
      refine rs_gs rfl (rfl) rfl rfl ?_
      refine rs_gs rfl (rfl) rfl rfl ?_
      refine rs_gs rfl (rfl) rfl rfl ?_
      refine rs_v (v_pick_t rfl rfl) rfl ?_
      refine rs_v (v_move rfl) rfl ?_
      refine rs_gs rfl (rfl) rfl rfl ?_
      refine rs_gs rfl (rfl) rfl rfl ?_
      refine rs_gs rfl (rfl) rfl rfl ?_
      refine rs_v (v_pick_t rfl rfl) rfl ?_
      refine rs_nil ?_
      exact q_cut [(0, _), (5, _), (6, _), (3, _), (8, _), (27, _)] ⟨rfl, rfl, rfl, rfl, rfl, rfl, trivial⟩ ⟨K, B1, B2, by rw [show ((!fit4 W) || (!decide (lo.key.size ≤ MX)) || (!decide (up.key.size ≤ MX)) || (!fit8 steps)) = (true) from by simp only [g1, Bool.true_or, Bool.false_or]]⟩
    · skip
      refine tr_reg ?_
      refine rs_v (v_move rfl) rfl ?_
      refine rs_w (w_call (vs := [_]) ok_laws_zzFits4 rfl ⟨rfl, trivial⟩ (c_zzFits4 χ _ _ (all_low _) _ W (RSpans.kk hW K))) rfl ?_
      rintro _ h4 ⟨rfl, K4⟩
      have B1 := K4.blk (by simp) B1
      have B2 := K4.blk (by simp) B2
      have K := K.new0 K4; have Z4 := K4.1
      refine rs_v (v_not rfl) rfl ?_
      refine rs_v (v_move rfl) rfl ?_
      refine rs_gv rfl (lkb g1) (v_loadAgg (vs := [_, _]) many_spec_Bound rfl (by exact B1.sub _ 2 rfl)) rfl ?_
      refine rs_gw rfl (lkb g1) (w_call (vs := [_]) ok_laws_zzFits10 rfl ⟨rfl, trivial⟩ (c_zzFits10 χ _ lo)) rfl ?_
      rintro _ h5 ⟨rfl, K5⟩
      have B1 := K5.blk (by simp) B1
      have B2 := K5.blk (by simp) B2
      have K := K.new0 K5; have Z5 := K5.1
      refine rs_gv rfl (lkb g1) (v_not rfl) rfl ?_
      refine rs_v (v_pick_f (lkb g1) rfl) rfl ?_
      refine rs_v (v_move rfl) rfl ?_
      refine rs_gs rfl (lkb g2) rfl rfl ?_
      refine rs_gs rfl (lkb g2) rfl rfl ?_
      refine rs_gs rfl (lkb g2) rfl rfl ?_
      refine rs_v (v_pick_t (lkb g2) rfl) rfl ?_
      refine rs_v (v_move rfl) rfl ?_
      refine rs_gs rfl (rfl) rfl rfl ?_
      refine rs_gs rfl (rfl) rfl rfl ?_
      refine rs_gs rfl (rfl) rfl rfl ?_
      refine rs_v (v_pick_t rfl rfl) rfl ?_
      refine rs_nil ?_
      exact q_cut [(0, _), (5, _), (6, _), (3, _), (8, _), (27, _)] ⟨rfl, rfl, rfl, rfl, rfl, rfl, trivial⟩ ⟨K, B1, B2, by rw [show ((!fit4 W) || (!decide (lo.key.size ≤ MX)) || (!decide (up.key.size ≤ MX)) || (!fit8 steps)) = (true) from by simp only [g1, g2, Bool.true_or, Bool.false_or]]⟩
    · skip
      refine tr_reg ?_
      refine rs_v (v_move rfl) rfl ?_
      refine rs_w (w_call (vs := [_]) ok_laws_zzFits4 rfl ⟨rfl, trivial⟩ (c_zzFits4 χ _ _ (all_low _) _ W (RSpans.kk hW K))) rfl ?_
      rintro _ h6 ⟨rfl, K6⟩
      have B1 := K6.blk (by simp) B1
      have B2 := K6.blk (by simp) B2
      have K := K.new0 K6; have Z6 := K6.1
      refine rs_v (v_not rfl) rfl ?_
      refine rs_v (v_move rfl) rfl ?_
      refine rs_gv rfl (lkb g1) (v_loadAgg (vs := [_, _]) many_spec_Bound rfl (by exact B1.sub _ 2 rfl)) rfl ?_
      refine rs_gw rfl (lkb g1) (w_call (vs := [_]) ok_laws_zzFits10 rfl ⟨rfl, trivial⟩ (c_zzFits10 χ _ lo)) rfl ?_
      rintro _ h7 ⟨rfl, K7⟩
      have B1 := K7.blk (by simp) B1
      have B2 := K7.blk (by simp) B2
      have K := K.new0 K7; have Z7 := K7.1
      refine rs_gv rfl (lkb g1) (v_not rfl) rfl ?_
      refine rs_v (v_pick_f (lkb g1) rfl) rfl ?_
      refine rs_v (v_move rfl) rfl ?_
      refine rs_gv rfl (lkb g2) (v_loadAgg (vs := [_, _]) many_spec_Bound rfl (by exact B2.sub _ 2 rfl)) rfl ?_
      refine rs_gw rfl (lkb g2) (w_call (vs := [_]) ok_laws_zzFits10 rfl ⟨rfl, trivial⟩ (c_zzFits10 χ _ up)) rfl ?_
      rintro _ h8 ⟨rfl, K8⟩
      have B1 := K8.blk (by simp) B1
      have B2 := K8.blk (by simp) B2
      have K := K.new0 K8; have Z8 := K8.1
      refine rs_gv rfl (lkb g2) (v_not rfl) rfl ?_
      refine rs_v (v_pick_f (lkb g2) rfl) rfl ?_
      refine rs_v (v_move rfl) rfl ?_
      refine rs_gs rfl (lkb g3) rfl rfl ?_
      refine rs_gs rfl (lkb g3) rfl rfl ?_
      refine rs_gs rfl (lkb g3) rfl rfl ?_
      refine rs_v (v_pick_t (lkb g3) rfl) rfl ?_
      refine rs_nil ?_
      exact q_cut [(0, _), (5, _), (6, _), (3, _), (8, _), (27, _)] ⟨rfl, rfl, rfl, rfl, rfl, rfl, trivial⟩ ⟨K, B1, B2, by rw [show ((!fit4 W) || (!decide (lo.key.size ≤ MX)) || (!decide (up.key.size ≤ MX)) || (!fit8 steps)) = (true) from by simp only [g1, g2, g3, Bool.true_or, Bool.false_or]]⟩
    · skip
      refine tr_reg ?_
      refine rs_v (v_move rfl) rfl ?_
      refine rs_w (w_call (vs := [_]) ok_laws_zzFits4 rfl ⟨rfl, trivial⟩ (c_zzFits4 χ _ _ (all_low _) _ W (RSpans.kk hW K))) rfl ?_
      rintro _ h9 ⟨rfl, K9⟩
      have B1 := K9.blk (by simp) B1
      have B2 := K9.blk (by simp) B2
      have K := K.new0 K9; have Z9 := K9.1
      refine rs_v (v_not rfl) rfl ?_
      refine rs_v (v_move rfl) rfl ?_
      refine rs_gv rfl (lkb g1) (v_loadAgg (vs := [_, _]) many_spec_Bound rfl (by exact B1.sub _ 2 rfl)) rfl ?_
      refine rs_gw rfl (lkb g1) (w_call (vs := [_]) ok_laws_zzFits10 rfl ⟨rfl, trivial⟩ (c_zzFits10 χ _ lo)) rfl ?_
      rintro _ h10 ⟨rfl, K10⟩
      have B1 := K10.blk (by simp) B1
      have B2 := K10.blk (by simp) B2
      have K := K.new0 K10; have Z10 := K10.1
      refine rs_gv rfl (lkb g1) (v_not rfl) rfl ?_
      refine rs_v (v_pick_f (lkb g1) rfl) rfl ?_
      refine rs_v (v_move rfl) rfl ?_
      refine rs_gv rfl (lkb g2) (v_loadAgg (vs := [_, _]) many_spec_Bound rfl (by exact B2.sub _ 2 rfl)) rfl ?_
      refine rs_gw rfl (lkb g2) (w_call (vs := [_]) ok_laws_zzFits10 rfl ⟨rfl, trivial⟩ (c_zzFits10 χ _ up)) rfl ?_
      rintro _ h11 ⟨rfl, K11⟩
      have B1 := K11.blk (by simp) B1
      have B2 := K11.blk (by simp) B2
      have K := K.new0 K11; have Z11 := K11.1
      refine rs_gv rfl (lkb g2) (v_not rfl) rfl ?_
      refine rs_v (v_pick_f (lkb g2) rfl) rfl ?_
      refine rs_v (v_move rfl) rfl ?_
      refine rs_gv rfl (lkb g3) (v_move rfl) rfl ?_
      refine rs_gw rfl (lkb g3) (w_call (vs := [_]) ok_laws_zzFits8 rfl ⟨rfl, trivial⟩ (c_zzFits8 χ _ _ _ steps (RSteps.kk hS K))) rfl ?_
      rintro _ h12 ⟨rfl, K12⟩
      have B1 := K12.blk (by simp) B1
      have B2 := K12.blk (by simp) B2
      have K := K.new0 K12; have Z12 := K12.1
      refine rs_gv rfl (lkb g3) (v_not rfl) rfl ?_
      refine rs_v (v_pick_f (lkb g3) rfl) rfl ?_
      refine rs_nil ?_
      exact q_cut [(0, _), (5, _), (6, _), (3, _), (8, _), (27, _)] ⟨rfl, rfl, rfl, rfl, rfl, rfl, trivial⟩ ⟨K, B1, B2, by rw [show ((!fit4 W) || (!decide (lo.key.size ≤ MX)) || (!decide (up.key.size ≤ MX)) || (!fit8 steps)) = (!fit8 steps) from by simp only [g1, g2, g3, Bool.true_or, Bool.false_or]]⟩
  rintro E h99 ⟨K, B1, B2, rfl⟩
  refine tr_if rfl (fun hif => ?_) (fun hif => ?_)
  · -- yes
    skip
    refine tr_seq ?_
    refine tr_reg ?_
    refine rs_v (v_assign rfl) rfl ?_
    refine rs_nil ?_
    refine q_thn ?_
    refine tr_ret ?_
    refine q_thn_ret ?_
    refine q_ret (res_tmp rfl rfl) ?_
    exact ⟨rfl, K⟩
  -- no
  simp only [Bool.or_eq_false_iff, Bool.not_eq_false', decide_eq_true_eq] at hif
  obtain ⟨⟨⟨hf4, hlo⟩, hup⟩, hf8⟩ := hif
  have hMX : MX = 2147483647 := rfl
  refine tr_skip ?_
  refine q_thn ?_
  refine tr_seq ?_
  refine tr_cut (fun E h' => Keep [] h h' ∧ Blk h' h.size [.string lo.key, .bool lo.has] 43 ∧ Blk h' h1.size [.string up.key, .bool up.has] 43 ∧ ∃ bad, E = [(0, .slice a W.length c), (5, .pointer (some ⟨h.size, 0, none⟩)), (6, .pointer (some ⟨h1.size, 0, none⟩)), (3, .slice a2 steps.length c2), (8, .bool false), (42, .bool bad)] ∧ (bad = false → (mostB W 40 && wellB W) = true ∧ ¬ (60 : Int) < (steps.length : Int) ∧ ordB lo.opt up.opt ∧ ∀ s, s ∈ steps → AlB lo.opt up.opt s)) ?_ ?_
  ·
    rcases bsplit3 (!(mostB W 40 && wellB W)) (decide ((60 : Int) < (steps.length : Int))) with g1 | ⟨g1, g2⟩ | ⟨g1, g2⟩
    · skip
      refine tr_reg ?_
      refine rs_v (v_move rfl) rfl ?_
      refine rs_w (w_call (vs := [_, _]) ok_laws_spanWell rfl ⟨rfl, rfl, trivial⟩ (c_spanWell χ _ _ (all_low _) _ W 40 (RSpans.kk hW K))) rfl ?_
      rintro _ h14 ⟨rfl, K14⟩
      have B1 := K14.blk (by simp) B1
      have B2 := K14.blk (by simp) B2
      have K := K.new0 K14; have Z14 := K14.1
      refine rs_v (v_not rfl) rfl ?_
      refine rs_v (v_move rfl) rfl ?_
      refine rs_gs rfl (lkb g1) rfl rfl ?_
      refine rs_gs rfl (lkb g1) rfl rfl ?_
      refine rs_gs rfl (lkb g1) rfl rfl ?_
      refine rs_v (v_pick_t (lkb g1) rfl) rfl ?_
      refine rs_v (v_move rfl) rfl ?_
      refine rs_gs rfl (rfl) rfl rfl ?_
      refine rs_gs rfl (rfl) rfl rfl ?_
      refine rs_gs rfl (rfl) rfl rfl ?_
      refine rs_gs rfl (rfl) rfl rfl ?_
      refine rs_gs rfl (rfl) rfl rfl ?_
      refine rs_v (v_pick_t rfl rfl) rfl ?_
      refine rs_nil ?_
      exact q_cut [(0, _), (5, _), (6, _), (3, _), (8, _), (42, _)] ⟨rfl, rfl, rfl, rfl, rfl, rfl, trivial⟩ ⟨K, B1, B2, true, rfl, fun e => by cases e⟩
    · skip
      refine tr_reg ?_
      refine rs_v (v_move rfl) rfl ?_
      refine rs_w (w_call (vs := [_, _]) ok_laws_spanWell rfl ⟨rfl, rfl, trivial⟩ (c_spanWell χ _ _ (all_low _) _ W 40 (RSpans.kk hW K))) rfl ?_
      rintro _ h15 ⟨rfl, K15⟩
      have B1 := K15.blk (by simp) B1
      have B2 := K15.blk (by simp) B2
      have K := K.new0 K15; have Z15 := K15.1
      refine rs_v (v_not rfl) rfl ?_
      refine rs_v (v_move rfl) rfl ?_
      refine rs_gv rfl (lkb g1) (v_move rfl) rfl ?_
      refine rs_gv rfl (lkb g1) (v_len u_sl_spec_Step rfl) rfl ?_
      refine rs_gv rfl (lkb g1) (v_gt rfl rfl) rfl ?_
      refine rs_v (v_pick_f (lkb g1) rfl) rfl ?_
      refine rs_v (v_move rfl) rfl ?_
      refine rs_gs rfl (lkb g2) rfl rfl ?_
      refine rs_gs rfl (lkb g2) rfl rfl ?_
      refine rs_gs rfl (lkb g2) rfl rfl ?_
      refine rs_gs rfl (lkb g2) rfl rfl ?_
      refine rs_gs rfl (lkb g2) rfl rfl ?_
      refine rs_v (v_pick_t (lkb g2) rfl) rfl ?_
      refine rs_nil ?_
      exact q_cut [(0, _), (5, _), (6, _), (3, _), (8, _), (42, _)] ⟨rfl, rfl, rfl, rfl, rfl, rfl, trivial⟩ ⟨K, B1, B2, true, rfl, fun e => by cases e⟩
    · skip
      refine tr_reg ?_
      refine rs_v (v_move rfl) rfl ?_
      refine rs_w (w_call (vs := [_, _]) ok_laws_spanWell rfl ⟨rfl, rfl, trivial⟩ (c_spanWell χ _ _ (all_low _) _ W 40 (RSpans.kk hW K))) rfl ?_
      rintro _ h16 ⟨rfl, K16⟩
      have B1 := K16.blk (by simp) B1
      have B2 := K16.blk (by simp) B2
      have K := K.new0 K16; have Z16 := K16.1
      refine rs_v (v_not rfl) rfl ?_
      refine rs_v (v_move rfl) rfl ?_
      refine rs_gv rfl (lkb g1) (v_move rfl) rfl ?_
      refine rs_gv rfl (lkb g1) (v_len u_sl_spec_Step rfl) rfl ?_
      refine rs_gv rfl (lkb g1) (v_gt rfl rfl) rfl ?_
      refine rs_v (v_pick_f (lkb g1) rfl) rfl ?_
      refine rs_v (v_move rfl) rfl ?_
      refine rs_gv rfl (lkb g2) (v_move rfl) rfl ?_
      refine rs_gv rfl (lkb g2) (v_loadAgg (vs := [_, _]) many_spec_Bound rfl (by exact B1.sub _ 2 rfl)) rfl ?_
      refine rs_gv rfl (lkb g2) (v_loadAgg (vs := [_, _]) many_spec_Bound rfl (by exact B2.sub _ 2 rfl)) rfl ?_
      refine rs_gw rfl (lkb g2) (w_call (vs := [_, _, _]) ok_laws_spanObeys rfl ⟨rfl, rfl, rfl, trivial⟩ (c_spanObeys χ _ _ (all_low _) _ steps lo up (RSteps.kk hS K))) rfl ?_
      rintro _ h17 ⟨okb, rfl, hokb, K17⟩
      have B1 := K17.blk (by simp) B1
      have B2 := K17.blk (by simp) B2
      have K := K.new0 K17; have Z17 := K17.1
      refine rs_gv rfl (lkb g2) (v_not rfl) rfl ?_
      refine rs_v (v_pick_f (lkb g2) rfl) rfl ?_
      refine rs_nil ?_
      exact q_cut [(0, _), (5, _), (6, _), (3, _), (8, _), (42, _)] ⟨rfl, rfl, rfl, rfl, rfl, rfl, trivial⟩ ⟨K, B1, B2, _, rfl, fun e => ⟨by simpa using g1, of_decide_eq_false g2, hokb (by simpa using e)⟩⟩
  rintro E h99 ⟨K, B1, B2, bad, rfl, hbad⟩
  refine tr_if rfl (fun hif => ?_) (fun hif => ?_)
  · -- yes
    skip
    refine tr_seq ?_
    refine tr_reg ?_
    refine rs_v (v_assign rfl) rfl ?_
    refine rs_nil ?_
    refine q_thn ?_
    refine tr_ret ?_
    refine q_thn_ret ?_
    refine q_ret (res_tmp rfl rfl) ?_
    exact ⟨rfl, K⟩
  -- no
  obtain ⟨hw, hl6, hord, hal⟩ := hbad hif
  obtain ⟨hG, _⟩ := good_of (by decide) hf4 hw
  have hk8 := fit8_small hf8
  refine tr_skip ?_
  refine q_thn ?_
  refine tr_seq ?_
  refine tr_reg ?_
  refine rs_v (v_move rfl) rfl ?_
  refine rs_v (v_loadAgg (vs := [_, _]) many_spec_Bound rfl (by exact B1.sub _ 2 rfl)) rfl ?_
  refine rs_v (v_loadAgg (vs := [_, _]) many_spec_Bound rfl (by exact B2.sub _ 2 rfl)) rfl ?_
  refine rs_w (w_call (vs := [_, _, _]) ok_spec_SpanBounded rfl ⟨rfl, rfl, rfl, trivial⟩ (c_SpanBounded χ _ _ (all_low _) _ W lo up (RSpans.kk hW K) hG.n)) rfl ?_
  rintro hFv h19 ⟨hF, K19⟩
  have hF := RSpans.mono hF (upA K19)
  obtain ⟨hFa, hFc, rfl⟩ := SlR.form2 hF
  have B1 := K19.blk (by simp) B1
  have B2 := K19.blk (by simp) B2
  have K := K.new0 K19; have Z19 := K19.1
  refine rs_v (v_move rfl) rfl ?_
  refine rs_w (w_call (vs := [_, _]) ok_spec_SpanWalk rfl ⟨rfl, rfl, trivial⟩ (c_SpanWalk χ _ _ (all_low _) _ _ _ steps hF (RSteps.kk hS K) (by omega))) rfl ?_
  rintro hwantv h20 ⟨hwant, K20⟩
  have hwant := RAnss.mono hwant (upA K20)
  obtain ⟨hwanta, hwantc, rfl⟩ := SlR.form2 hwant
  have B1 := K20.blk (by simp) B1
  have B2 := K20.blk (by simp) B2
  have hF := RSpans.kk hF K20
  have K := K.new0 K20; have Z20 := K20.1
  refine rs_v (v_assign rfl) rfl ?_
  refine rs_nil ?_
  refine q_thn ?_
  refine tr_seq ?_
  refine tr_any (Keep []) (keep_pre _) (by kernel_rfl) (by kernel_rfl) ?_
  refine rm_v (keep_pre _) (fun h' hk => v_move rfl) ?_
  refine rm_w (fun v h' => RSpans (All h') h' v W) (fun v _ _ _ k2 hr => RSpans.kk hr k2) (fun h' hk => OpW.mono (w_call (vs := [_]) ok_laws_toSpans rfl ⟨rfl, trivial⟩ (c_toSpans χ h' _ (all_low _) _ W (RSpans.kk hW (K.new0 hk)) hG.n hG.few)) (fun v h'' hv => ⟨hv.2, RSpans.mono hv.1 (upA hv.2)⟩)) ?_
  refine rm_v (keep_pre _) (fun h' hk => v_loadAgg (vs := [_, _]) many_spec_Bound rfl (Blk.sub (hk.blk (by simp) B1) 0 2 rfl)) ?_
  refine rm_c (fun h' hk => w_call (vs := [_]) ok_laws_spanBound rfl ⟨rfl, trivial⟩ (c_spanBound χ h' lo)) ?_
  refine rm_v (keep_pre _) (fun h' hk => v_loadAgg (vs := [_, _]) many_spec_Bound rfl (Blk.sub (hk.blk (by simp) B2) 0 2 rfl)) ?_
  refine rm_c (fun h' hk => w_call (vs := [_]) ok_laws_spanBound rfl ⟨rfl, trivial⟩ (c_spanBound χ h' up)) ?_
  refine rm_v (keep_pre _) (fun h' hk => v_move rfl) ?_
  refine rm_w (fun v h' => RSteps (All h') h' v steps) (fun v _ _ _ k2 hr => RSteps.kk hr k2) (fun h' hk => OpW.mono (w_call (vs := [_]) ok_laws_toSteps rfl ⟨rfl, trivial⟩ (c_toSteps χ h' _ (all_low _) _ steps (RSteps.kk hS (K.new0 hk)) (by omega))) (fun v h'' hv => ⟨hv.2, RSteps.mono hv.1 (upA hv.2)⟩)) ?_
  refine rm_o2 50 56 (fun v h' => RAnss (All h') h' v (walkP (W.filter (fun s => LoC lo.opt s && UpC up.opt s)) .nowhere steps)) rfl rfl rfl (by kernel_rfl) (by kernel_rfl) (fun v _ _ _ k2 hr => RAnss.kk hr k2) (fun u u2 h' hk hu hu2 => OpW.mono (w_call (vs := [_, _, _, _]) ok_impl_SpanBounded rfl ⟨rfl, rfl, rfl, rfl, trivial⟩ (c_implSpanBounded χ h' _ (all_low _) _ _ W steps lo up hu hG.n hG.small hG.ord (by omega) (by omega) hord hu2 (by omega) hk8 hal)) (fun v h'' hv => ⟨hv.2, RAnss.mono hv.1 (upN hv.2)⟩)) ?_
  refine rm_v (keep_pre _) (fun h' hk => v_move rfl) ?_
  refine rm_mk (.val (.bool true)) (fun _ _ _ _ _ h => h) (fun h' hk => om_open 57 rfl (by kernel_rfl) fun u hu => om_w (by simp) rfl (OpW.mono (w_call (vs := [_, _]) ok_laws_spanAnswers rfl ⟨rfl, rfl, trivial⟩ (c_spanAnswers χ h' _ _ (all_low _) (all_low _) _ _ _ _ hu (RAnss.kk hwant hk) (ansLike_walk (filter_desc hG) _ _))) (fun v h'' hv => ⟨hv.2, hv.1⟩))) ?_
  refine rm_v (keep_pre _) (fun h' hk => v_move rfl) ?_
  refine rm_mk (.loose (fun v h' => RSpans (All h') h' v someW)) (fun v _ _ _ k2 hr => RSpans.kk hr k2) (fun h' hk => om_gt (by simp) rfl rfl rfl (OpW.mono (w_call (vs := []) ok_laws_spanSome rfl trivial (c_spanSome χ h')) (fun v h'' hv => ⟨hv.2, RSpans.mono hv.1 (upN hv.2)⟩))) ?_
  refine rm_gv (keep_pre _) rfl rfl (fun h' hk => v_build0 bld_no) ?_
  refine rm_gv (keep_pre _) rfl rfl (fun h' hk => v_build0 bld_no) ?_
  refine rm_mk (.loose (fun v h' => RSteps (All h') h' v startS)) (fun v _ _ _ k2 hr => RSteps.kk hr k2) (fun h' hk => om_gt (by simp) rfl rfl rfl (OpW.mono (w_call (vs := []) ok_laws_spanStart rfl trivial (c_spanStart χ h')) (fun v h'' hv => ⟨hv.2, RSteps.mono hv.1 (upN hv.2)⟩))) ?_
  refine rm_mk (.loose (fun v h' => RAnss (All h') h' v [⟨true, true, ⟨⟨#[97]⟩, ⟨#[98]⟩, [⟨256, ByteArray.empty, ByteArray.empty⟩]⟩⟩])) (fun v _ _ _ k2 hr => RAnss.kk hr k2) (fun h' hk => om_open 61 rfl (by kernel_rfl) fun u hu => om_open 64 rfl (by kernel_rfl) fun u2 hu2 => om_gt (by simp) rfl rfl rfl (OpW.mono (w_call (vs := [_, _, _, _]) ok_impl_SpanBounded rfl ⟨rfl, rfl, rfl, rfl, trivial⟩ (c_implSpanBounded χ h' _ (all_low _) _ _ someW startS noB noB hu some_good.n some_good.small some_good.ord (by decide) (by decide) (fun l u hl => by cases hl) hu2 (by decide) start_small alB_no)) (fun v h'' hv => ⟨hv.2, RAnss.mono hv.1 (upN hv.2)⟩))) ?_
  refine rm_mk (.val (.bool true)) (fun _ _ _ _ _ h => h) (fun h' hk => om_open 65 rfl (by kernel_rfl) fun u hu => om_gt (by simp) rfl rfl rfl (OpW.mono (w_call (vs := [_]) ok_laws_spanFound rfl ⟨rfl, trivial⟩ (c_spanFound χ h' _ _ _ hu)) (fun v h'' hv => ⟨hv.2, hv.1⟩))) ?_
  refine rm_v (keep_pre _) (fun h' hk => v_pick_t rfl rfl) ?_
  refine rm_v (keep_pre _) (fun h' hk => v_assign rfl) ?_
  refine rm_end ?_; intro h21 K21; simp only [endM, hypF, ofE, argE, List.nil_append]
  intro v65 _ v64 _ v61 _ v57 _ v56 _ v50 _
  have K := K.new0 K21
  refine q_thn ?_
  refine tr_ret ?_
  refine q_ret (res_tmp rfl rfl) ?_
  exact ⟨rfl, K⟩
end Go.Proofs.Ytgebfbnndgjkiaa

/- Forty-fourth part: arguments that are bounds, internal keys with values, bools. Conditions: those that each theorem names. -/
namespace Go.Proofs.Ytgebfbnndgjkiaa
open Go.Tess Go.ChangeShapes Go.WideShapes Go.ChangeAt Go.RowKit
set_option maxRecDepth 100000
theorem okWide_agg {P : Program} {W : World} {r : Reach} {b0 : Nat} {t : TypeId} {v : Value} {fs : Array Field} (ht : P.underlying t = some (.struct fs)) (h : Value.okWide P W r b0 t v) : ∃ cs, v = .agg cs := by
  unfold Value.okWide at h
  rw [ht] at h
  obtain ⟨cs, e, _⟩ := h
  exact ⟨cs, e⟩
theorem st_bound : Try.prog.underlying 43 = some (.struct (Try.prog.fieldsOf 43)) := by kernel_rfl
theorem st_entry : Try.prog.underlying 81 = some (.struct (Try.prog.fieldsOf 81)) := by kernel_rfl
theorem open_bound {H : Type} {enc : TypeId × Value → H} {W : World} {r : Reach} {b0 : Nat} {v : Value} {d : DataW H} {ps : List MemPlace} (hv : Value.okWide Try.prog W r b0 43 v) (h : DataW.Trod enc Try.prog W 0 (fun _ => true) true 43 v d ps) : ∃ b : BndD, v = b.v := by
  obtain ⟨cs, rfl⟩ := okWide_agg st_bound hv
  obtain ⟨n, hx⟩ := h
  simp only [Value.cells] at hx
  have hl := struct_len st_bound hx (sz := 2) (by kernel_rfl)
  obtain ⟨l⟩ := cs
  match l, hl with
  | [c0, c1], _ =>
    obtain ⟨_, _, y0⟩ := field_open st_bound hx 0 9 0 1 (by kernel_rfl) (by kernel_rfl)
    obtain ⟨_, _, y1⟩ := field_open st_bound hx 1 4 1 1 (by kernel_rfl) (by kernel_rfl)
    obtain ⟨s, e1, _⟩ := DataW.trod_string u_string y0
    obtain ⟨b, e2, _⟩ := DataW.trod_bool u_bool y1
    cases e1; cases e2
    exact ⟨⟨s, b⟩, rfl⟩
theorem open_entry {H : Type} {enc : TypeId × Value → H} {W : World} {r : Reach} {b0 : Nat} {v : Value} {d : DataW H} {ps : List MemPlace} (hv : Value.okWide Try.prog W r b0 81 v) (h : DataW.Trod enc Try.prog W 0 (fun _ => true) true 81 v d ps) : ∃ b : EntD, v = b.v := by
  obtain ⟨cs, rfl⟩ := okWide_agg st_entry hv
  obtain ⟨n, hx⟩ := h
  simp only [Value.cells] at hx
  have hl := struct_len st_entry hx (sz := 3) (by kernel_rfl)
  obtain ⟨l⟩ := cs
  match l, hl with
  | [c0, c1, c2], _ =>
    obtain ⟨_, _, y0⟩ := field_open st_entry hx 0 9 0 1 (by kernel_rfl) (by kernel_rfl)
    obtain ⟨_, _, y1⟩ := field_open st_entry hx 1 23 1 1 (by kernel_rfl) (by kernel_rfl)
    obtain ⟨_, _, y2⟩ := field_open st_entry hx 2 9 2 1 (by kernel_rfl) (by kernel_rfl)
    obtain ⟨s, e1, _⟩ := DataW.trod_string u_string y0
    obtain ⟨i, e2, _⟩ := DataW.trod_int u_uint64 y1
    obtain ⟨s2, e3, _⟩ := DataW.trod_string u_string y2
    cases e1; cases e2; cases e3
    exact ⟨⟨s, i, s2⟩, rfl⟩

end Go.Proofs.Ytgebfbnndgjkiaa
