/- Walks, fifth part: a script over a list of spans. Conditions: those that each theorem names. -/
import Derived.Test.YtgebfbnndgjkiaaW4
set_option linter.unusedVariables false
set_option linter.unusedSimpArgs false
namespace Go.Proofs.Ytgebfbnndgjkiaa
open Go.Tess Go.RowKit
set_option maxRecDepth 100000
theorem RCur.keep {h h' : Heap} {c : Nat} {n : Int} {p : Pos} {T : TypeId} {X : List Nat} (hr : RCur h c n p T) (k : Keep X h h') (hx : c ∉ X) : RCur h' c n p T := by
  obtain ⟨x, B, hp⟩ := hr
  exact ⟨x, k.blk hx B, hp⟩
theorem RCur.lt {h : Heap} {c : Nat} {n : Int} {p : Pos} {T : TypeId} (hr : RCur h c n p T) : c < h.size := by
  obtain ⟨x, B, hp⟩ := hr
  exact B.lt
def ansR (A : Nat → Prop) (h : Heap) (c : List Value) (a : AnsD) : Prop := ∃ kv, c = [.bool a.done, .bool a.ok, .string a.sp.s, .string a.sp.e, kv] ∧ RKeys A h kv a.sp.ks
theorem ans_ok {W : List SpanD} {q : Option Pos} (ho : (ansOf W q).ok = true) : ∃ j sp, q = some (.pt j) ∧ W[j]? = some sp ∧ ansOf W q = ⟨true, true, sp⟩ := by
  cases q with
  | none => simp [ansOf] at ho
  | some p =>
    cases p with
    | pt j =>
      simp only [ansOf, cur] at ho ⊢
      cases hj : W[j]? with
      | none => rw [hj] at ho; simp at ho
      | some sp => exact ⟨j, sp, rfl, hj, by simp⟩
    | _ => simp [ansOf, cur] at ho
theorem ans_no {W : List SpanD} {q : Option Pos} (ho : (ansOf W q).ok = false) : ansOf W q = ⟨(ansOf W q).done, false, zeroSpan⟩ := by
  cases q with
  | none => simp [ansOf]
  | some p =>
    simp only [ansOf] at ho ⊢
    cases hc : cur W p with
    | none => simp
    | some sp => rw [hc] at ho; simp at ho
theorem ansR_zero (A : Nat → Prop) (h : Heap) (d : Bool) : ansR A h [.bool d, .bool false, .string ByteArray.empty, .string ByteArray.empty, .slice none 0 0] ⟨d, false, zeroSpan⟩ := ⟨_, rfl, SlR.nil _ _ _ _⟩

theorem c_SpanWalk (χ : Chi) (h : Heap) (A : Nat → Prop) (hA : Low A h) (wv sv : Value) (W : List SpanD) (steps : List StepD) (hW : RSpans A h wv W) (hS : RSteps A h sv steps) (hn : steps.length ≤ 1000) :
    Cl Try.prog χ 15 #[wv, sv] h (fun r h' => RAnss (Up A h h') h' r (walkP W .nowhere steps) ∧ Keep [] h h') := by
  obtain ⟨hlW, wa, wc, rfl, hxW⟩ := hW.form
  obtain ⟨hlen, a, c, rfl, hx⟩ := hS.form
  refine cl_intro Try.func15 rfl rfl rfl ?_
  have K : Keep [] h h := Keep.refl _ _
  refine tr_seq ?_
  refine tr_reg ?_
  refine rs_v (v_assign rfl) rfl ?_
  refine rs_nil ?_
  refine q_thn ?_
  refine tr_seq ?_
  refine tr_reg ?_
  refine rs_v (v_assign rfl) rfl ?_
  refine rs_nil ?_
  refine q_thn ?_
  refine tr_seq ?_
  refine tr_reg ?_
  refine rs_v (v_move rfl) rfl ?_
  refine rs_v (v_len u_sl_spec_Span rfl) rfl ?_
  refine rs_v (v_build1 rfl (bld_spec_SpanCursor_0 _)) rfl ?_
  refine rs_w (w_newbox rfl) rfl ?_
  rintro _ h1 ⟨rfl, B1, K1, Z1⟩
  have S1 := K.1; have K := K.new0 K1
  refine rs_v (v_assign rfl) rfl ?_
  refine rs_nil ?_
  refine q_thn ?_
  refine tr_seq ?_
  refine tr_seq ?_
  refine tr_reg ?_
  refine rs_v (v_move rfl) rfl ?_
  refine rs_v (v_len u_sl_spec_Step rfl) rfl ?_
  refine rs_v (v_move rfl) rfl ?_
  refine rs_nil ?_
  refine q_thn ?_
  refine tr_block ?_
  refine tr_loop (fun m E h' => ∃ k v xs, k ≤ steps.length ∧ m = steps.length - k ∧ E = [(0, .slice wa W.length wc), (5, v), (6, .pointer (some ⟨h.size, 0, none⟩)), (14, .slice a steps.length c), (15, .int .i64 (steps.length : Int)), (16, .int .i64 (k : Int))] ∧ Keep [] h h' ∧ RCur h' h.size W.length (endP W .nowhere (steps.take k)) 98 ∧ h1.size ≤ h'.size ∧ Own h' h1.size 75 5 v k xs ∧ RowsR 5 (ansR A h) xs (walkP W .nowhere (steps.take k))) steps.length [(0, _), (5, _), (6, _), (14, _), (15, _), (16, _)] ⟨rfl, rfl, rfl, rfl, rfl, rfl, trivial⟩ ⟨0, _, [], Nat.zero_le _, rfl, rfl, K, ⟨_, B1, trivial⟩, Nat.le_refl _, Own.nil _ _ _ _, RowsR.nil _ _⟩ ?_
  rintro m E hL2 ⟨k, v, xs, hk, rfl, rfl, K, hc, hZ, O, hrow⟩
  have hob := own_ne O; have KL := Keep.refl [] hL2
  refine tr_seq ?_
  refine tr_reg ?_
  refine rs_v (v_lt rfl rfl) rfl ?_
  refine rs_nil ?_
  refine q_thn ?_
  refine tr_seq ?_
  refine tr_ifn rfl (fun hif => ?_) (fun hif => ?_)
  · -- no
    simp only [decide_eq_true_eq, decide_eq_false_iff_not] at hif
    have hkk : k = steps.length := by omega
    subst hkk
    refine tr_exit ?_
    refine q_thn_exit ?_
    refine q_lp_exit ?_
    refine q_blk_hit ?_
    refine q_thn ?_
    refine tr_seq ?_
    refine tr_reg ?_
    refine rs_v (v_move rfl) rfl ?_
    refine rs_v (v_assign rfl) rfl ?_
    refine rs_nil ?_
    refine q_thn ?_
    refine tr_ret ?_
    refine q_ret (res_tmp rfl rfl) ?_
    rw [List.take_length] at hrow
    exact ⟨SlR.of_rows O (by rw [walkP_len]) hrow (fun b h1 h2 => Up.new b (by omega) h2) (fun b o c a hc he => by obtain ⟨kv, rfl, hk⟩ := he; exact ⟨kv, hc, (hk.stab (K.st hA)).mono Up.old⟩), K⟩
  -- yes
  simp only [decide_eq_true_eq, decide_eq_false_iff_not] at hif
  rcases hx with rfl | ⟨b, o, rfl, hAb, hR⟩
  · simp at hif; omega
  obtain ⟨s, hsk⟩ := ex_get (L := steps) (k := k) (by omega)
  have hcells := K.cells (by simp) (hR k s hsk)
  have hcl := hc.lt
  refine tr_skip ?_
  refine q_thn ?_
  refine tr_seq ?_
  refine tr_block ?_
  refine tr_seq ?_
  refine tr_reg ?_
  refine rs_v (v_indexAddrN u_sl_spec_Step siz_spec_Step rfl rfl (by omega)) rfl ?_
  refine rs_v (v_loadAgg (vs := [_, _]) many_spec_Step rfl (by exact hcells)) rfl ?_
  refine rs_w (w_new zero_spec_Step) rfl ?_
  rintro _ h3 ⟨rfl, B3, K3, Z3⟩
  have hc := hc.keep K3 (by simp)
  have O := O.keep2 K3 (fun x hm => by have := hob x hm; simp; try omega)
  have S3 := K.1; have K := K.new0 K3
  refine rs_w0 (w_put siz_spec_Step rfl rfl rfl rfl B3 rfl) ?_
  rintro _ h4 ⟨B4, K4⟩
  have hc := hc.keep K4 (by simp; omega)
  have O := O.keep2 K4 (fun x hm => by have := hob x hm; simp; try omega)
  have B3 := B4; have K := K.new1 K4 (by first | (right; omega) | (left; simp; done)); have Z4 := K4.1
  refine rs_nil ?_
  refine q_thn ?_
  refine tr_seq ?_
  refine tr_reg ?_
  refine rs_w (w_new zero_spec_SpanAnswer) rfl ?_
  rintro _ h5 ⟨rfl, B5, K5, Z5⟩
  have B3 := K5.blk (by simp) B3
  have hc := hc.keep K5 (by simp)
  have O := O.keep2 K5 (fun x hm => by have := hob x hm; simp; try omega)
  have S5 := K.1; have K := K.new0 K5
  refine rs_nil ?_
  refine q_thn ?_
  refine tr_seq ?_
  refine tr_draw [(true, 11), (false, 1), (true, 5), (false, 2)] _ (by kernel_rfl) (by kernel_rfl) (by kernel_rfl) ?_
  refine rx_any (Keep []) (keep_pre _) ?_
  refine rm_v (keep_pre _) (fun h' hk => v_move rfl) ?_
  refine rm_v (keep_pre _) (fun h' hk => v_fieldAddr fa_spec_Step_0 rfl) ?_
  refine rm_v (keep_pre _) (fun h' hk => v_load one_uint8 rfl (Blk.cell (hk.blk (by simp) B3) _ rfl)) ?_
  refine rm_v (keep_pre _) (fun h' hk => v_move rfl) ?_
  refine rm_v (keep_pre _) (fun h' hk => v_fieldAddr fa_spec_Step_1 rfl) ?_
  refine rm_v (keep_pre _) (fun h' hk => v_load one_string rfl (Blk.cell (hk.blk (by simp) B3) _ rfl)) ?_
  refine rm_c (fun h' hk => w_call (vs := [_, _]) ok_spec_SpanSeekGE rfl ⟨rfl, rfl, trivial⟩ (c_SpanSeekGE χ h' A _ W s.key (hW.stab ((K.new0 hk).st hA)))) ?_
  refine rm_v (keep_pre _) (fun h' hk => v_move rfl) ?_
  refine rm_v (keep_pre _) (fun h' hk => v_fieldAddr fa_spec_Step_1 rfl) ?_
  refine rm_v (keep_pre _) (fun h' hk => v_load one_string rfl (Blk.cell (hk.blk (by simp) B3) _ rfl)) ?_
  refine rm_c (fun h' hk => w_call (vs := [_, _]) ok_spec_SpanSeekLT rfl ⟨rfl, rfl, trivial⟩ (c_SpanSeekLT χ h' A _ W s.key (hW.stab ((K.new0 hk).st hA)))) ?_
  refine rm_end ?_; intro ha Ka; simp only [endM, hypF, ofE, argE, List.nil_append]
  have B3 := Ka.blk (by simp) B3
  have B5 := Ka.blk (by simp) B5
  have K := K.new0 Ka; have Za := Ka.1
  have hc := hc.keep Ka (by simp)
  have O := O.keep2 Ka (by simp)
  refine rx_seq ?_
  refine rs_w (w_call (vs := [_, _, _, _]) ok_spec_SpanCursor_Step rfl ⟨rfl, rfl, rfl, rfl, trivial⟩ (c_Step χ ha _ W _ s _ hW.1 hc)) rfl ?_
  rintro _ hq ⟨rfl, hc, Kb⟩
  have O := O.keep2 Kb (fun x hm => by have := hob x hm; simp; omega)
  have Zb := Kb.1
  have B3 := Kb.blk (by simp; omega) B3
  have B5 := Kb.blk (by simp; omega) B5
  have K := K.new1 Kb (.inr (Nat.le_refl _))
  generalize hans : ansOf W (stepP W (endP W .nowhere (steps.take k)) s) = ans at *
  refine rs_nil ?_
  refine q_con ?_
  refine rx_any (KeepB h4.size [.bool ans.done, .bool false, .string ByteArray.empty, .string ByteArray.empty, .slice none 0 0] 75) (keepB_pre _ _ _) ?_
  refine rm_v (keepB_pre _ _ _) (fun h' hk => v_move rfl) ?_
  refine rm_v (keepB_pre _ _ _) (fun h' hk => v_extract rfl rfl) ?_
  refine rm_v (keepB_pre _ _ _) (fun h' hk => v_extract rfl rfl) ?_
  refine rm_v (keepB_pre _ _ _) (fun h' hk => v_fieldAddr fa_spec_SpanAnswer_0 rfl) ?_
  refine rm_w0 _ keepB_stab (fun h' hk => w_putB siz_bool rfl rfl rfl rfl B5 hk rfl rfl rfl rfl) ?_
  refine rm_end ?_; intro hd Kd; simp only [endM, hypF, ofE, argE, List.nil_append]; intro B5
  have Zd := Kd.1.1
  have B3 := Kd.1.blk (by simp; omega) B3
  have K := K.new1 Kd.1 (.inr (by omega))
  have hc := hc.keep Kd.1 (by simp; omega)
  have O := O.keep2 Kd.1 (fun x hm => by have := hob x hm; simp; omega)
  refine rx_seq ?_
  refine rs_v (v_fieldAddr fa_spec_SpanAnswer_1 rfl) rfl ?_
  refine rs_w0 (w_put siz_bool rfl rfl rfl rfl B5 rfl) ?_
  rintro _ h6 ⟨B6, K6⟩
  have Z6 := K6.1
  have B3 := K6.blk (by simp; omega) B3
  have K := K.new1 K6 (.inr (by omega))
  have hc := hc.keep K6 (by simp; omega)
  have O := O.keep2 K6 (fun x hm => by have := hob x hm; simp; omega)
  have B5 := B6
  refine rs_nil ?_
  refine q_con ?_
  refine rx_nil ?_
  refine q_thn ?_
  refine tr_seq ?_
  refine tr_seq ?_
  refine tr_reg ?_
  refine rs_v (v_fieldAddr fa_spec_SpanAnswer_1 rfl) rfl ?_
  refine rs_v (v_load one_bool rfl (by exact B5.cell _ rfl)) rfl ?_
  refine rs_nil ?_
  refine q_thn ?_
  refine tr_if rfl (fun hif => ?_) (fun hif => ?_)
  · -- yes
    obtain ⟨j, sp, hq, hj, ha⟩ := ans_ok (by rw [hans]; exact hif)
    rw [hq] at hc
    obtain ⟨x, Bc, hxj, hxn⟩ := hc
    subst hxj
    have hjl : j < W.length := (List.getElem?_eq_some_iff.1 hj).1
    rcases hxW with rfl | ⟨wb, wo, rfl, hAw, hRw⟩
    · simp at hj
    obtain ⟨kv, hck, hkk⟩ := hRw j sp hj
    obtain ⟨ka, kc, rfl⟩ := hkk.form2
    have hck := K.cells (by simp) hck
    rw [hans] at ha
    have hc : RCur h6 h.size W.length (Option.getD (stepP W (endP W .nowhere (steps.take k)) s) (endP W .nowhere (steps.take k))) 98 := by rw [hq]; exact ⟨_, Bc, rfl, hxn⟩
    refine tr_reg ?_
    refine rs_v (v_move rfl) rfl ?_
    refine rs_v (v_move rfl) rfl ?_
    refine rs_v (v_nilCheck_ptr rfl) rfl ?_
    refine rs_v (v_fieldAddr fa_spec_SpanCursor_1 rfl) rfl ?_
    refine rs_v (v_load one_int rfl (by exact Bc.cell _ rfl)) rfl ?_
    refine rs_v (v_indexAddrN u_sl_spec_Span siz_spec_Span rfl rfl (by omega)) rfl ?_
    refine rs_v (v_loadAgg (vs := [_, _, _]) many_spec_Span rfl (by exact hck)) rfl ?_
    refine rs_v (v_fieldAddr fa_spec_SpanAnswer_2 rfl) rfl ?_
    refine rs_w0 (w_put siz_spec_Span rfl rfl rfl rfl B5 rfl) ?_
    rintro _ h7 ⟨B7, K7⟩
    have B3 := K7.blk (by simp; omega) B3
    have hc := hc.keep K7 (by simp; omega)
    have O := O.keep2 K7 (fun x hm => by have := hob x hm; simp; try omega)
    have B5 := B7; have K := K.new1 K7 (by first | (right; omega) | (left; simp; done)); have Z7 := K7.1
    refine rs_nil ?_
    refine q_thn ?_
    refine tr_reg ?_
    refine rs_v (v_move rfl) rfl ?_
    refine rs_v (v_loadAgg (vs := [_, _, _, _, _]) many_spec_SpanAnswer rfl (by exact B5.sub _ 5 rfl)) rfl ?_
    refine rs_w (w_new1 u_sl_spec_SpanAnswer siz_spec_SpanAnswer zero_spec_SpanAnswer rfl rfl rfl rfl rfl) rfl ?_
    rintro _ h8 ⟨rfl, B8, K8, Z8⟩
    have B3 := K8.blk (by simp) B3
    have B5 := K8.blk (by simp) B5
    have hc := hc.keep K8 (by simp)
    have O := O.keep2 K8 (fun x hm => by have := hob x hm; simp; try omega)
    have S8 := K.1; have K := K.new0 K8
    refine rs_w (w_app1 u_sl_spec_SpanAnswer info_spec_SpanAnswer rfl rfl rfl O rfl rfl B8 rfl (by omega) (by omega) (by omega)) rfl ?_
    rintro v9 h9 ⟨O9, K9, N9, F9⟩
    have K := K.newX K9 (fun x hm => .inr (by have := hob x hm; omega)); have Z9 := K9.1
    have B3 := K9.blk (fun hm => by have := hob _ hm; omega) B3
    have B5 := K9.blk (fun hm => by have := hob _ hm; omega) B5
    have B8 := K9.blk (fun hm => by have := hob _ hm; omega) B8
    have hc := hc.keep K9 (fun hm => by have := hob _ hm; omega)
    refine rs_v (v_assign rfl) rfl ?_
    refine rs_nil ?_
    refine q_blk_n ?_
    refine q_thn ?_
    refine tr_reg ?_
    refine rs_v (v_add rfl rfl (by omega) (by omega)) rfl ?_
    refine rs_v (v_move rfl) rfl ?_
    refine rs_nil ?_
    refine q_lp (steps.length - (k + 1)) [(0, _), (5, _), (6, _), (14, _), (15, _), (16, _)] (by omega) ⟨rfl, rfl, rfl, rfl, rfl, rfl, trivial⟩ ⟨k + 1, v9, _, by omega, rfl, rfl, K, ?_, by omega, O9, ?_⟩
    · rw [take_snoc' hsk, endP_snoc]; exact hc
    · rw [take_snoc' hsk, walkP_snoc]
      refine hrow.snoc rfl ?_
      rw [hans]
      rw [ha]
      exact ⟨_, rfl, hkk⟩
  -- no
  skip
  refine tr_skip ?_
  refine q_thn ?_
  refine tr_reg ?_
  refine rs_v (v_move rfl) rfl ?_
  refine rs_v (v_loadAgg (vs := [_, _, _, _, _]) many_spec_SpanAnswer rfl (by exact B5.sub _ 5 rfl)) rfl ?_
  refine rs_w (w_new1 u_sl_spec_SpanAnswer siz_spec_SpanAnswer zero_spec_SpanAnswer rfl rfl rfl rfl rfl) rfl ?_
  rintro _ h10 ⟨rfl, B10, K10, Z10⟩
  have B3 := K10.blk (by simp) B3
  have B5 := K10.blk (by simp) B5
  have hc := hc.keep K10 (by simp)
  have O := O.keep2 K10 (fun x hm => by have := hob x hm; simp; try omega)
  have S10 := K.1; have K := K.new0 K10
  refine rs_w (w_app1 u_sl_spec_SpanAnswer info_spec_SpanAnswer rfl rfl rfl O rfl rfl B10 rfl (by omega) (by omega) (by omega)) rfl ?_
  rintro v11 h11 ⟨O11, K11, N11, F11⟩
  have K := K.newX K11 (fun x hm => .inr (by have := hob x hm; omega)); have Z11 := K11.1
  have B3 := K11.blk (fun hm => by have := hob _ hm; omega) B3
  have B5 := K11.blk (fun hm => by have := hob _ hm; omega) B5
  have B10 := K11.blk (fun hm => by have := hob _ hm; omega) B10
  have hc := hc.keep K11 (fun hm => by have := hob _ hm; omega)
  refine rs_v (v_assign rfl) rfl ?_
  refine rs_nil ?_
  refine q_blk_n ?_
  refine q_thn ?_
  refine tr_reg ?_
  refine rs_v (v_add rfl rfl (by omega) (by omega)) rfl ?_
  refine rs_v (v_move rfl) rfl ?_
  refine rs_nil ?_
  refine q_lp (steps.length - (k + 1)) [(0, _), (5, _), (6, _), (14, _), (15, _), (16, _)] (by omega) ⟨rfl, rfl, rfl, rfl, rfl, rfl, trivial⟩ ⟨k + 1, v11, _, by omega, rfl, rfl, K, ?_, by omega, O11, ?_⟩
  · rw [take_snoc' hsk, endP_snoc]; exact hc
  · rw [take_snoc' hsk, walkP_snoc]
    refine hrow.snoc rfl ?_
    rw [hans]
    have hn := ans_no (by rw [hans]; exact hif)
    rw [hans] at hn
    rw [hn]
    exact ansR_zero _ _ _
end Go.Proofs.Ytgebfbnndgjkiaa
