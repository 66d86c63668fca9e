/- Thirty-third part: the specification's truncated spans, and those within two internal keys. Conditions: those that each theorem names. -/
import Derived.Test.YtgebfbnndgjkiaaW32
set_option linter.unusedVariables false
set_option linter.unusedSimpArgs false
namespace Go.Proofs.Ytgebfbnndgjkiaa
open Go.Tess Go.RowKit
set_option maxRecDepth 100000
set_option maxHeartbeats 1000000
structure EntD where
  user : ByteArray
  tr : Int
  val : ByteArray
def EntD.v (e : EntD) : Value := .agg #[.string e.user, .int .u64 e.tr, .string e.val]
def ffW (st en : ByteArray) (s : SpanD) : Option SpanD := if sle s.e st || slt en s.s then none else some s
theorem nsle (a b : ByteArray) : (!(sle a b)) = slt b a := by
  cases h : sle a b with
  | false => rw [not_sle.1 h]; rfl
  | true =>
    cases h2 : slt b a with
    | false => rfl
    | true => rw [not_sle.2 h2] at h; cases h
theorem ffT_both (st en lo up : ByteArray) (W : List SpanD) : (W.filterMap (ffW st en)).filterMap (ffT none none lo up) = W.filterMap (ffT (some st) (some en) lo up) := by
  rw [List.filterMap_filterMap]
  congr 1
  funext s
  simp only [ffW, ffT, stB, enB]
  rcases Bool.eq_false_or_eq_true (sle s.e st) with h1 | h1 <;> rcases Bool.eq_false_or_eq_true (slt en s.s) with h2 | h2 <;> simp [h1, h2, ffT, stB, enB]
theorem ffT_plain (lo up : ByteArray) (s : SpanD) : ffT none none lo up s = if slt (cutLo lo s) (cutUp up s) then some ⟨cutLo lo s, cutUp up s, s.ks⟩ else none := by simp [ffT, stB, enB]
theorem cutUp_sle (up : ByteArray) (s : SpanD) : (if sle s.e up then s.e else up) = cutUp up s := by
  unfold cutUp
  cases h : slt up s.e with
  | true => rw [if_neg (by rw [not_sle.2 h]; decide)]; rfl
  | false => rw [if_pos (not_slt.1 h)]; rfl

theorem c_SpanTruncated (χ : Chi) (h : Heap) (A : Nat → Prop) (hA : Low A h) (v : Value) (W : List SpanD) (lo up : ByteArray) (hW : RSpans A h v W) (hn : W.length ≤ 100000) :
    Cl Try.prog χ 38 #[v, .string lo, .string up] h (fun r h' => RSpans (Up A h h') h' r (W.filterMap (ffT none none lo up)) ∧ Keep [] h h') := by
  obtain ⟨hlen, a, c, rfl, hx⟩ := hW.form
  refine cl_intro Try.func38 rfl rfl rfl ?_
  have K : Keep [] h h := Keep.refl _ _
  refine tr_seq ?_
  refine tr_reg ?_
  refine rs_v (v_assign rfl) rfl ?_
  refine rs_nil ?_
  refine q_thn ?_
  refine tr_seq ?_
  refine tr_reg ?_
  refine rs_v (v_assign rfl) rfl ?_
  refine rs_nil ?_
  refine q_thn ?_
  refine tr_seq ?_
  refine tr_seq ?_
  refine tr_reg ?_
  refine rs_v (v_move rfl) rfl ?_
  refine rs_v (v_len u_sl_spec_Span rfl) rfl ?_
  refine rs_v (v_move rfl) rfl ?_
  refine rs_nil ?_
  refine q_thn ?_
  refine tr_block ?_
  refine tr_loop (fun m E h' => ∃ k v n, k ≤ W.length ∧ m = W.length - k ∧ E = [(7, v), (1, .string lo), (2, .string up), (10, .slice a W.length c), (11, .int .i64 (W.length : Int)), (12, .int .i64 (k : Int))] ∧ Keep [] h h' ∧ n = ((W.take k).filterMap (ffT none none lo up)).length ∧ OutR A h h' h.size 55 3 cSpan v n ((W.take k).filterMap (ffT none none lo up))) W.length [(7, _), (1, _), (2, _), (10, _), (11, _), (12, _)] ⟨rfl, rfl, rfl, rfl, rfl, rfl, trivial⟩ ⟨0, _, 0, Nat.zero_le _, rfl, rfl, K, rfl, OutR.nil _ _ _ _ _ _ _⟩ ?_
  rintro m E hL1 ⟨k, v, n, hk, rfl, rfl, K, hn, hout⟩
  have hout0 := hout
  obtain ⟨xs, F, O, hrow, hF⟩ := hout
  have KL0 := K.1
  have hob := own_ne O; have KL := Keep.refl [] hL1
  refine tr_seq ?_
  refine tr_reg ?_
  refine rs_v (v_lt rfl rfl) rfl ?_
  refine rs_nil ?_
  refine q_thn ?_
  refine tr_seq ?_
  refine tr_ifn rfl (fun hif => ?_) (fun hif => ?_)
  · -- no
    simp only [decide_eq_true_eq, decide_eq_false_iff_not] at hif
    have hkk : k = W.length := by omega
    subst hkk
    refine tr_exit ?_
    refine q_thn_exit ?_
    refine q_lp_exit ?_
    refine q_blk_hit ?_
    refine q_thn ?_
    refine tr_seq ?_
    refine tr_reg ?_
    refine rs_v (v_move rfl) rfl ?_
    refine rs_v (v_assign rfl) rfl ?_
    refine rs_nil ?_
    refine q_thn ?_
    refine tr_ret ?_
    refine q_ret (res_tmp rfl rfl) ?_
    rw [List.take_length] at hout0 hn
    exact ⟨hout0.fin cSpan_st hn (Nat.le_refl _) cSpan_r, K⟩
  -- yes
  simp only [decide_eq_true_eq, decide_eq_false_iff_not] at hif
  rcases hx with rfl | ⟨b, o, rfl, hAb, hR⟩
  · simp at hif; omega
  obtain ⟨x, hsk⟩ := ex_get (L := W) (k := k) (by omega)
  have hkl : k < W.length := (List.getElem?_eq_some_iff.1 hsk).1
  have KL0 := K.1
  obtain ⟨kv, hcc, hkx⟩ := hR k x hsk
  obtain ⟨ka, kc, rfl⟩ := hkx.form2
  have hcells := K.cells (by simp) hcc
  have hnk : n ≤ k := by rw [hn]; exact Nat.le_trans (List.length_filterMap_le _ _) (by rw [List.length_take]; omega)
  refine tr_skip ?_
  refine q_thn ?_
  refine tr_seq ?_
  refine tr_block ?_
  refine tr_seq ?_
  refine tr_reg ?_
  refine rs_v (v_indexAddrN u_sl_spec_Span siz_spec_Span rfl rfl (by omega)) rfl ?_
  refine rs_v (v_loadAgg (vs := [_, _, _]) many_spec_Span rfl (by exact hcells)) rfl ?_
  refine rs_w (w_new zero_spec_Span) rfl ?_
  rintro _ h2 ⟨rfl, B2, K2, Z2⟩
  have O := O.keep2 K2 (fun x hm => by have := hob x hm; simp; try omega)
  have S2 := K.1; have K := K.new0 K2; have KL := KL.new0 K2
  refine rs_w0 (w_put siz_spec_Span rfl rfl rfl rfl B2 rfl) ?_
  rintro _ h3 ⟨B3, K3⟩
  have O := O.keep2 K3 (fun x hm => by have := hob x hm; simp; try omega)
  have B2 := B3; have K := K.new1 K3 (by first | (right; omega) | (left; simp; done)); have Z3 := K3.1; have KL := KL.new1 K3 (.inr (by omega))
  refine rs_nil ?_
  refine q_thn ?_
  refine tr_seq ?_
  refine tr_reg ?_
  refine rs_v (v_fieldAddr fa_spec_Span_0 rfl) rfl ?_
  refine rs_v (v_load one_string rfl (by exact B2.cell _ rfl)) rfl ?_
  refine rs_v (v_move rfl) rfl ?_
  refine rs_v (v_smax rfl rfl) rfl ?_
  refine rs_v (v_fieldAddr fa_spec_Span_1 rfl) rfl ?_
  refine rs_v (v_load one_string rfl (by exact B2.cell _ rfl)) rfl ?_
  refine rs_v (v_move rfl) rfl ?_
  refine rs_v (v_smin rfl rfl) rfl ?_
  refine rs_v (v_fieldAddr fa_spec_Span_0 rfl) rfl ?_
  refine rs_w0 (w_put siz_string rfl rfl rfl rfl B2 rfl) ?_
  rintro _ h4 ⟨B4, K4⟩
  have O := O.keep2 K4 (fun x hm => by have := hob x hm; simp; try omega)
  have B2 := B4; have K := K.new1 K4 (by first | (right; omega) | (left; simp; done)); have Z4 := K4.1; have KL := KL.new1 K4 (.inr (by omega))
  refine rs_v (v_fieldAddr fa_spec_Span_1 rfl) rfl ?_
  refine rs_w0 (w_put siz_string rfl rfl rfl rfl B2 rfl) ?_
  rintro _ h5 ⟨B5, K5⟩
  have O := O.keep2 K5 (fun x hm => by have := hob x hm; simp; try omega)
  have B2 := B5; have K := K.new1 K5 (by first | (right; omega) | (left; simp; done)); have Z5 := K5.1; have KL := KL.new1 K5 (.inr (by omega))
  refine rs_nil ?_
  refine q_thn ?_
  refine tr_seq ?_
  refine tr_reg ?_
  refine rs_v (v_fieldAddr fa_spec_Span_0 rfl) rfl ?_
  refine rs_v (v_load one_string rfl (by exact B2.cell _ rfl)) rfl ?_
  refine rs_v (v_fieldAddr fa_spec_Span_1 rfl) rfl ?_
  refine rs_v (v_load one_string rfl (by exact B2.cell _ rfl)) rfl ?_
  refine rs_v (v_slt rfl rfl) rfl ?_
  refine rs_nil ?_
  refine q_thn ?_
  refine tr_if rfl (fun hif => ?_) (fun hif => ?_)
  · -- yes
    skip
    refine tr_reg ?_
    refine rs_v (v_move rfl) rfl ?_
    refine rs_v (v_loadAgg (vs := [_, _, _]) many_spec_Span rfl (by exact B2.sub _ 3 rfl)) rfl ?_
    refine rs_w (w_new1 u_sl_spec_Span siz_spec_Span zero_spec_Span rfl rfl rfl rfl rfl) rfl ?_
    rintro _ h6 ⟨rfl, B6, K6, Z6⟩
    have B2 := K6.blk (by simp) B2
    have O := O.keep2 K6 (fun x hm => by have := hob x hm; simp; try omega)
    have S6 := K.1; have K := K.new0 K6; have KL := KL.new0 K6
    refine rs_w (w_app1 u_sl_spec_Span info_spec_Span rfl rfl rfl O rfl rfl B6 rfl (by omega) (by omega) (by omega)) rfl ?_
    have K70 := K
    have KL70 := KL
    rintro v7 h7 ⟨O7, K7, N7, F7⟩
    have K := K.newX K7 (fun x hm => .inr (by have := hob x hm; omega)); have Z7 := K7.1
    have B2 := K7.blk (fun hm => by have := hob _ hm; omega) B2
    have B6 := K7.blk (fun hm => by have := hob _ hm; omega) B6
    refine rs_v (v_assign rfl) rfl ?_
    refine rs_nil ?_
    refine q_blk_n ?_
    refine q_thn ?_
    refine tr_reg ?_
    refine rs_v (v_add rfl rfl (by omega) (by omega)) rfl ?_
    refine rs_v (v_move rfl) rfl ?_
    refine rs_nil ?_
    rw [cutUp_sle] at hif O7
    have hff : ffT none none lo up x = some ⟨cutLo lo x, cutUp up x, x.ks⟩ := by rw [ffT_plain]; exact if_pos hif
    refine q_lp (W.length - (k + 1)) [(7, _), (1, _), (2, _), (10, _), (11, _), (12, _)] (by omega) ⟨rfl, rfl, rfl, rfl, rfl, rfl, trivial⟩ ⟨k + 1, v7, n + 1, by omega, rfl, rfl, K, ?_, ?_⟩
    · rw [take_snoc' hsk, fm_snoc1, hff, List.length_append, ← hn]; rfl
    · rw [take_snoc' hsk, fm_snoc1, hff]
      exact OutR.snoc cSpan_st hA (by omega) hob hrow hF KL0 KL70 O7 K7 F7 rfl ⟨_, rfl, (hkx.stab (K70.st hA)).mono Up.old⟩
  -- no
  skip
  refine tr_skip ?_
  refine q_blk_n ?_
  refine q_thn ?_
  refine tr_reg ?_
  refine rs_v (v_add rfl rfl (by omega) (by omega)) rfl ?_
  refine rs_v (v_move rfl) rfl ?_
  refine rs_nil ?_
  rw [cutUp_sle] at hif
  have hff : ffT none none lo up x = none := by rw [ffT_plain]; exact if_neg (by rw [show cutLo lo x = (if slt x.s lo then lo else x.s) from rfl, hif]; decide)
  refine q_lp (W.length - (k + 1)) [(7, _), (1, _), (2, _), (10, _), (11, _), (12, _)] (by omega) ⟨rfl, rfl, rfl, rfl, rfl, rfl, trivial⟩ ⟨k + 1, v, n, by omega, rfl, rfl, K, ?_, ?_⟩
  · rw [take_snoc' hsk, fm_snoc1, hff, Option.toList_none, List.append_nil]; exact hn
  · rw [take_snoc' hsk, fm_snoc1, hff, Option.toList_none, List.append_nil]
    exact hout0.keep cSpan_st KL
theorem c_SpanWithin (χ : Chi) (h : Heap) (A : Nat → Prop) (hA : Low A h) (v : Value) (W : List SpanD) (st en : EntD) (hW : RSpans A h v W) (hn : W.length ≤ 100000) :
    Cl Try.prog χ 40 #[v, st.v, en.v] h (fun r h' => RSpans (Up A h h') h' r (W.filterMap (ffW st.user en.user)) ∧ Keep [] h h') := by
  obtain ⟨hlen, a, c, rfl, hx⟩ := hW.form
  unfold EntD.v
  refine cl_intro Try.func40 rfl rfl rfl ?_
  have K : Keep [] h h := Keep.refl _ _
  refine tr_seq ?_
  refine tr_reg ?_
  refine rs_w (w_newbox rfl) rfl ?_
  rintro _ h1 ⟨rfl, B1, K1, Z1⟩
  have S1 := K.1; have K := K.new0 K1
  refine rs_w (w_newbox rfl) rfl ?_
  rintro _ h2 ⟨rfl, B2, K2, Z2⟩
  have B1 := K2.blk (by simp) B1
  have S2 := K.1; have K := K.new0 K2
  refine rs_v (v_assign rfl) rfl ?_
  refine rs_nil ?_
  refine q_thn ?_
  refine tr_seq ?_
  refine tr_reg ?_
  refine rs_v (v_assign rfl) rfl ?_
  refine rs_nil ?_
  refine q_thn ?_
  refine tr_seq ?_
  refine tr_seq ?_
  refine tr_reg ?_
  refine rs_v (v_move rfl) rfl ?_
  refine rs_v (v_len u_sl_spec_Span rfl) rfl ?_
  refine rs_v (v_move rfl) rfl ?_
  refine rs_nil ?_
  refine q_thn ?_
  refine tr_block ?_
  refine tr_loop (fun m E h' => ∃ k v n, k ≤ W.length ∧ m = W.length - k ∧ E = [(7, v), (4, .pointer (some ⟨h.size, 0, none⟩)), (5, .pointer (some ⟨h1.size, 0, none⟩)), (10, .slice a W.length c), (11, .int .i64 (W.length : Int)), (12, .int .i64 (k : Int))] ∧ Keep [] h h' ∧ n = ((W.take k).filterMap (ffW st.user en.user)).length ∧ OutR A h h' h2.size 55 3 cSpan v n ((W.take k).filterMap (ffW st.user en.user)) ∧ Blk h' h.size [.string st.user, .int .u64 st.tr, .string st.val] 81 ∧ Blk h' h1.size [.string en.user, .int .u64 en.tr, .string en.val] 81 ∧ h2.size ≤ h'.size) W.length [(7, _), (4, _), (5, _), (10, _), (11, _), (12, _)] ⟨rfl, rfl, rfl, rfl, rfl, rfl, trivial⟩ ⟨0, _, 0, Nat.zero_le _, rfl, rfl, K, rfl, OutR.nil _ _ _ _ _ _ _, B1, B2, Nat.le_refl _⟩ ?_
  rintro m E hL3 ⟨k, v, n, hk, rfl, rfl, K, hn, hout, B1, B2, hz2⟩
  have hout0 := hout
  obtain ⟨xs, F, O, hrow, hF⟩ := hout
  have KL0 := K.1
  have hl1 := B1.lt
  have hl2 := B2.lt
  have hob := own_ne O; have KL := Keep.refl [] hL3
  refine tr_seq ?_
  refine tr_reg ?_
  refine rs_v (v_lt rfl rfl) rfl ?_
  refine rs_nil ?_
  refine q_thn ?_
  refine tr_seq ?_
  refine tr_ifn rfl (fun hif => ?_) (fun hif => ?_)
  · -- no
    simp only [decide_eq_true_eq, decide_eq_false_iff_not] at hif
    have hkk : k = W.length := by omega
    subst hkk
    refine tr_exit ?_
    refine q_thn_exit ?_
    refine q_lp_exit ?_
    refine q_blk_hit ?_
    refine q_thn ?_
    refine tr_seq ?_
    refine tr_reg ?_
    refine rs_v (v_move rfl) rfl ?_
    refine rs_v (v_assign rfl) rfl ?_
    refine rs_nil ?_
    refine q_thn ?_
    refine tr_ret ?_
    refine q_ret (res_tmp rfl rfl) ?_
    rw [List.take_length] at hout0 hn
    exact ⟨hout0.fin cSpan_st hn (by omega) cSpan_r, K⟩
  -- yes
  simp only [decide_eq_true_eq, decide_eq_false_iff_not] at hif
  rcases hx with rfl | ⟨b, o, rfl, hAb, hR⟩
  · simp at hif; omega
  obtain ⟨x, hsk⟩ := ex_get (L := W) (k := k) (by omega)
  have hkl : k < W.length := (List.getElem?_eq_some_iff.1 hsk).1
  have KL0 := K.1
  obtain ⟨kv, hcc, hkx⟩ := hR k x hsk
  obtain ⟨ka, kc, rfl⟩ := hkx.form2
  have hcells := K.cells (by simp) hcc
  have hnk : n ≤ k := by rw [hn]; exact Nat.le_trans (List.length_filterMap_le _ _) (by rw [List.length_take]; omega)
  refine tr_skip ?_
  refine q_thn ?_
  refine tr_seq ?_
  refine tr_block ?_
  refine tr_seq ?_
  refine tr_reg ?_
  refine rs_v (v_indexAddrN u_sl_spec_Span siz_spec_Span rfl rfl (by omega)) rfl ?_
  refine rs_v (v_loadAgg (vs := [_, _, _]) many_spec_Span rfl (by exact hcells)) rfl ?_
  refine rs_w (w_new zero_spec_Span) rfl ?_
  rintro _ h4 ⟨rfl, B4, K4, Z4⟩
  have B1 := K4.blk (by simp) B1
  have B2 := K4.blk (by simp) B2
  have O := O.keep2 K4 (fun x hm => by have := hob x hm; simp; try omega)
  have S4 := K.1; have K := K.new0 K4; have KL := KL.new0 K4
  refine rs_w0 (w_put siz_spec_Span rfl rfl rfl rfl B4 rfl) ?_
  rintro _ h5 ⟨B5, K5⟩
  have B1 := K5.blk (by simp; omega) B1
  have B2 := K5.blk (by simp; omega) B2
  have O := O.keep2 K5 (fun x hm => by have := hob x hm; simp; try omega)
  have B4 := B5; have K := K.new1 K5 (by first | (right; omega) | (left; simp; done)); have Z5 := K5.1; have KL := KL.new1 K5 (.inr (by omega))
  refine rs_nil ?_
  refine q_thn ?_
  refine tr_seq ?_
  refine tr_cut (fun E h' => h5 = h' ∧ E = [(7, v), (4, .pointer (some ⟨h.size, 0, none⟩)), (5, .pointer (some ⟨h1.size, 0, none⟩)), (10, .slice (some ⟨b, o, none⟩) W.length c), (11, .int .i64 (W.length : Int)), (12, .int .i64 (k : Int)), (9, .pointer (some ⟨hL3.size, 0, none⟩)), (27, .bool ((sle x.e st.user) || (!(sle x.s en.user))))]) ?_ ?_
  ·
    rcases bsplit2 (sle x.e st.user) with g1 | g1
    · skip
      refine tr_reg ?_
      refine rs_v (v_fieldAddr fa_spec_Span_1 rfl) rfl ?_
      refine rs_v (v_load one_string rfl (by exact B4.cell _ rfl)) rfl ?_
      refine rs_v (v_fieldAddr fa_spec_Entry_0 rfl) rfl ?_
      refine rs_v (v_load one_string rfl (by exact B1.cell _ rfl)) rfl ?_
      refine rs_v (v_sle rfl rfl) rfl ?_
      refine rs_v (v_move rfl) rfl ?_
      refine rs_gs rfl (lkb g1) rfl rfl ?_
      refine rs_gs rfl (lkb g1) rfl rfl ?_
      refine rs_gs rfl (lkb g1) rfl rfl ?_
      refine rs_gs rfl (lkb g1) rfl rfl ?_
      refine rs_gs rfl (lkb g1) rfl rfl ?_
      refine rs_v (v_pick_t (lkb g1) rfl) rfl ?_
      refine rs_nil ?_
      exact q_cut [(7, _), (4, _), (5, _), (10, _), (11, _), (12, _), (9, _), (27, _)] ⟨rfl, rfl, rfl, rfl, rfl, rfl, rfl, rfl, trivial⟩ ⟨rfl, by rw [show ((sle x.e st.user) || (!(sle x.s en.user))) = (true) from by simp only [g1, Bool.true_or, Bool.false_or]]⟩
    · skip
      refine tr_reg ?_
      refine rs_v (v_fieldAddr fa_spec_Span_1 rfl) rfl ?_
      refine rs_v (v_load one_string rfl (by exact B4.cell _ rfl)) rfl ?_
      refine rs_v (v_fieldAddr fa_spec_Entry_0 rfl) rfl ?_
      refine rs_v (v_load one_string rfl (by exact B1.cell _ rfl)) rfl ?_
      refine rs_v (v_sle rfl rfl) rfl ?_
      refine rs_v (v_move rfl) rfl ?_
      refine rs_gv rfl (lkb g1) (v_fieldAddr fa_spec_Span_0 rfl) rfl ?_
      refine rs_gv rfl (lkb g1) (v_load one_string rfl (by exact B4.cell _ rfl)) rfl ?_
      refine rs_gv rfl (lkb g1) (v_fieldAddr fa_spec_Entry_0 rfl) rfl ?_
      refine rs_gv rfl (lkb g1) (v_load one_string rfl (by exact B2.cell _ rfl)) rfl ?_
      refine rs_gv rfl (lkb g1) (v_sgt rfl rfl) rfl ?_
      refine rs_v (v_pick_f (lkb g1) rfl) rfl ?_
      refine rs_nil ?_
      exact q_cut [(7, _), (4, _), (5, _), (10, _), (11, _), (12, _), (9, _), (27, _)] ⟨rfl, rfl, rfl, rfl, rfl, rfl, rfl, rfl, trivial⟩ ⟨rfl, by rw [show ((sle x.e st.user) || (!(sle x.s en.user))) = (!(sle x.s en.user)) from by simp only [g1, Bool.true_or, Bool.false_or]]⟩
  rintro E h99 ⟨hh, rfl⟩
  subst hh
  refine tr_if rfl (fun hif => ?_) (fun hif => ?_)
  · -- yes
    skip
    refine tr_exit ?_
    refine q_thn_exit ?_
    refine q_blk_hit ?_
    refine q_thn ?_
    refine tr_reg ?_
    refine rs_v (v_add rfl rfl (by omega) (by omega)) rfl ?_
    refine rs_v (v_move rfl) rfl ?_
    refine rs_nil ?_
    rw [nsle] at hif
    have hff : ffW st.user en.user x = none := by simp only [ffW, hif, if_true]
    refine q_lp (W.length - (k + 1)) [(7, _), (4, _), (5, _), (10, _), (11, _), (12, _)] (by omega) ⟨rfl, rfl, rfl, rfl, rfl, rfl, trivial⟩ ⟨k + 1, v, n, by omega, rfl, rfl, K, ?_, ?_, B1, B2, by omega⟩
    · rw [take_snoc' hsk, fm_snoc1, hff, Option.toList_none, List.append_nil]; exact hn
    · rw [take_snoc' hsk, fm_snoc1, hff, Option.toList_none, List.append_nil]
      exact hout0.keep cSpan_st KL
  -- no
  skip
  refine tr_skip ?_
  refine q_thn ?_
  refine tr_reg ?_
  refine rs_v (v_move rfl) rfl ?_
  refine rs_v (v_loadAgg (vs := [_, _, _]) many_spec_Span rfl (by exact B4.sub _ 3 rfl)) rfl ?_
  refine rs_w (w_new1 u_sl_spec_Span siz_spec_Span zero_spec_Span rfl rfl rfl rfl rfl) rfl ?_
  rintro _ h7 ⟨rfl, B7, K7, Z7⟩
  have B1 := K7.blk (by simp) B1
  have B2 := K7.blk (by simp) B2
  have B4 := K7.blk (by simp) B4
  have O := O.keep2 K7 (fun x hm => by have := hob x hm; simp; try omega)
  have S7 := K.1; have K := K.new0 K7; have KL := KL.new0 K7
  refine rs_w (w_app1 u_sl_spec_Span info_spec_Span rfl rfl rfl O rfl rfl B7 rfl (by omega) (by omega) (by omega)) rfl ?_
  have K70 := K
  have KL70 := KL
  rintro v8 h8 ⟨O8, K8, N8, F8⟩
  have K := K.newX K8 (fun x hm => .inr (by have := hob x hm; omega)); have Z8 := K8.1
  have B1 := K8.blk (fun hm => by have := hob _ hm; omega) B1
  have B2 := K8.blk (fun hm => by have := hob _ hm; omega) B2
  have B4 := K8.blk (fun hm => by have := hob _ hm; omega) B4
  have B7 := K8.blk (fun hm => by have := hob _ hm; omega) B7
  refine rs_v (v_assign rfl) rfl ?_
  refine rs_nil ?_
  refine q_blk_n ?_
  refine q_thn ?_
  refine tr_reg ?_
  refine rs_v (v_add rfl rfl (by omega) (by omega)) rfl ?_
  refine rs_v (v_move rfl) rfl ?_
  refine rs_nil ?_
  rw [nsle] at hif
  have hff : ffW st.user en.user x = some x := by simp [ffW, hif]
  refine q_lp (W.length - (k + 1)) [(7, _), (4, _), (5, _), (10, _), (11, _), (12, _)] (by omega) ⟨rfl, rfl, rfl, rfl, rfl, rfl, trivial⟩ ⟨k + 1, v8, n + 1, by omega, rfl, rfl, K, ?_, ?_, B1, B2, by omega⟩
  · rw [take_snoc' hsk, fm_snoc1, hff, List.length_append, ← hn]; rfl
  · rw [take_snoc' hsk, fm_snoc1, hff]
    exact OutR.snoc cSpan_st hA (by omega) hob hrow hF KL0 KL70 O8 K8 F8 rfl ⟨_, rfl, (hkx.stab (K70.st hA)).mono Up.old⟩
end Go.Proofs.Ytgebfbnndgjkiaa
