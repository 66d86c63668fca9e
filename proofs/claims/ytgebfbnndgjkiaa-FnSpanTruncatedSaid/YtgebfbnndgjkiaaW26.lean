/- Twenty-sixth part: the specification's filtered spans. Conditions: those that each theorem names. -/
import Derived.Test.YtgebfbnndgjkiaaW25
set_option linter.unusedVariables false
set_option linter.unusedSimpArgs false
namespace Go.Proofs.Ytgebfbnndgjkiaa
open Go.Tess Go.RowKit
set_option maxRecDepth 100000
set_option maxHeartbeats 1000000
theorem fm_snoc1 {α β : Type} {f : α → Option β} {l : List α} {x : α} : (l ++ [x]).filterMap f = l.filterMap f ++ (f x).toList := by
  rw [List.filterMap_append]
  cases h : f x <;> simp [h]

theorem c_SpanFiltered (χ : Chi) (h : Heap) (A : Nat → Prop) (hA : Low A h) (v : Value) (W : List SpanD) (low high : Int) (hW : RSpans A h v W) (hn : W.length ≤ 100000) (hm : ∀ s, s ∈ W → s.ks.length ≤ 100000) :
    Cl Try.prog χ 16 #[v, .int .u64 low, .int .u64 high] h (fun r h' => RSpans (Up N0 h h') h' r (W.filterMap (ffS low high)) ∧ Keep [] h h') := by
  obtain ⟨hlen, a, c, rfl, hx⟩ := hW.form
  refine cl_intro Try.func16 rfl rfl rfl ?_
  have K : Keep [] h h := Keep.refl _ _
  refine tr_seq ?_
  refine tr_reg ?_
  refine rs_v (v_assign rfl) rfl ?_
  refine rs_nil ?_
  refine q_thn ?_
  refine tr_seq ?_
  refine tr_reg ?_
  refine rs_v (v_assign rfl) rfl ?_
  refine rs_nil ?_
  refine q_thn ?_
  refine tr_seq ?_
  refine tr_seq ?_
  refine tr_reg ?_
  refine rs_v (v_move rfl) rfl ?_
  refine rs_v (v_len u_sl_spec_Span rfl) rfl ?_
  refine rs_v (v_move rfl) rfl ?_
  refine rs_nil ?_
  refine q_thn ?_
  refine tr_block ?_
  refine tr_loop (fun m E h' => ∃ k v n, k ≤ W.length ∧ m = W.length - k ∧ E = [(7, v), (1, .int .u64 low), (2, .int .u64 high), (13, .slice a W.length c), (14, .int .i64 (W.length : Int)), (15, .int .i64 (k : Int))] ∧ Keep [] h h' ∧ n = ((W.take k).filterMap (ffS low high)).length ∧ OutR N0 h h' h.size 55 3 cSpan v n ((W.take k).filterMap (ffS low high))) W.length [(7, _), (1, _), (2, _), (13, _), (14, _), (15, _)] ⟨rfl, rfl, rfl, rfl, rfl, rfl, trivial⟩ ⟨0, _, 0, Nat.zero_le _, rfl, rfl, K, rfl, OutR.nil _ _ _ _ _ _ _⟩ ?_
  rintro m E hL1 ⟨k, v, n, hk, rfl, rfl, K, hn, hout⟩
  have hout0 := hout
  obtain ⟨xs, F, O, hrow, hF⟩ := hout
  have O0 := O
  have KL0 := K.1
  have hob := own_ne O; have KL := Keep.refl [] hL1
  refine tr_seq ?_
  refine tr_reg ?_
  refine rs_v (v_lt rfl rfl) rfl ?_
  refine rs_nil ?_
  refine q_thn ?_
  refine tr_seq ?_
  refine tr_ifn rfl (fun hif => ?_) (fun hif => ?_)
  · -- no
    simp only [decide_eq_true_eq, decide_eq_false_iff_not] at hif
    have hkk : k = W.length := by omega
    subst hkk
    refine tr_exit ?_
    refine q_thn_exit ?_
    refine q_lp_exit ?_
    refine q_blk_hit ?_
    refine q_thn ?_
    refine tr_seq ?_
    refine tr_reg ?_
    refine rs_v (v_move rfl) rfl ?_
    refine rs_v (v_assign rfl) rfl ?_
    refine rs_nil ?_
    refine q_thn ?_
    refine tr_ret ?_
    refine q_ret (res_tmp rfl rfl) ?_
    rw [List.take_length] at hout0 hn
    exact ⟨hout0.fin cSpan_st hn (Nat.le_refl _) cSpan_r, K⟩
  -- yes
  simp only [decide_eq_true_eq, decide_eq_false_iff_not] at hif
  rcases hx with rfl | ⟨b, o, rfl, hAb, hR⟩
  · simp at hif; omega
  obtain ⟨x, hsk⟩ := ex_get (L := W) (k := k) (by omega)
  have hkl : k < W.length := (List.getElem?_eq_some_iff.1 hsk).1
  have KL0 := K.1
  obtain ⟨kv9, hcc, hkx⟩ := hR k x hsk
  obtain ⟨hlk, ak, ck, rfl, hxk⟩ := hkx.form
  have hcells := K.cells (by simp) hcc
  have hnk : n ≤ k := by rw [hn]; exact Nat.le_trans (List.length_filterMap_le _ _) (by rw [List.length_take]; omega)
  refine tr_skip ?_
  refine q_thn ?_
  refine tr_seq ?_
  refine tr_block ?_
  refine tr_seq ?_
  refine tr_reg ?_
  refine rs_v (v_indexAddrN u_sl_spec_Span siz_spec_Span rfl rfl (by omega)) rfl ?_
  refine rs_v (v_loadAgg (vs := [_, _, _]) many_spec_Span rfl (by exact hcells)) rfl ?_
  refine rs_w (w_new zero_spec_Span) rfl ?_
  rintro _ h2 ⟨rfl, B2, K2, Z2⟩
  have O := O.keep2 K2 (fun x hm => by have := hob x hm; simp; try omega)
  have S2 := K.1; have K := K.new0 K2; have KL := KL.new0 K2
  refine rs_w0 (w_put siz_spec_Span rfl rfl rfl rfl B2 rfl) ?_
  rintro _ h3 ⟨B3, K3⟩
  have O := O.keep2 K3 (fun x hm => by have := hob x hm; simp; try omega)
  have B2 := B3; have K := K.new1 K3 (by first | (right; omega) | (left; simp; done)); have Z3 := K3.1; have KL := KL.new1 K3 (.inr (by omega))
  refine rs_nil ?_
  refine q_thn ?_
  refine tr_seq ?_
  refine tr_reg ?_
  refine rs_v (v_fieldAddr fa_spec_Span_0 rfl) rfl ?_
  refine rs_v (v_load one_string rfl (by exact B2.cell _ rfl)) rfl ?_
  refine rs_v (v_fieldAddr fa_spec_Span_1 rfl) rfl ?_
  refine rs_v (v_load one_string rfl (by exact B2.cell _ rfl)) rfl ?_
  refine rs_v (v_build2 rfl rfl (bld_spec_Span_0_1 _ _)) rfl ?_
  refine rs_w (w_new zero_spec_Span) rfl ?_
  rintro _ h4 ⟨rfl, B4, K4, Z4⟩
  have B2 := K4.blk (by simp) B2
  have O := O.keep2 K4 (fun x hm => by have := hob x hm; simp; try omega)
  have S4 := K.1; have K := K.new0 K4; have KL := KL.new0 K4
  refine rs_w0 (w_put siz_spec_Span rfl rfl rfl rfl B4 rfl) ?_
  rintro _ h5 ⟨B5, K5⟩
  have B2 := K5.blk (by simp; omega) B2
  have O := O.keep2 K5 (fun x hm => by have := hob x hm; simp; try omega)
  have B4 := B5; have K := K.new1 K5 (by first | (right; omega) | (left; simp; done)); have Z5 := K5.1; have KL := KL.new1 K5 (.inr (by omega))
  refine rs_nil ?_
  refine q_thn ?_
  refine tr_seq ?_
  refine tr_seq ?_
  refine tr_reg ?_
  refine rs_v (v_fieldAddr fa_spec_Span_2 rfl) rfl ?_
  refine rs_v (v_load one_sl_spec_SpanKey rfl (by exact B2.cell _ rfl)) rfl ?_
  refine rs_v (v_len u_sl_spec_SpanKey rfl) rfl ?_
  refine rs_v (v_move rfl) rfl ?_
  refine rs_nil ?_
  refine q_thn ?_
  refine tr_block ?_
  refine tr_loop (fun m E h' => ∃ j kv n2 xs2, j ≤ x.ks.length ∧ m = x.ks.length - j ∧ E = [(7, v), (1, .int .u64 low), (2, .int .u64 high), (13, .slice (some ⟨b, o, none⟩) W.length c), (14, .int .i64 (W.length : Int)), (15, .int .i64 (k : Int)), (10, .pointer (some ⟨h3.size, 0, none⟩)), (25, .slice ak x.ks.length ck), (26, .int .i64 (x.ks.length : Int)), (27, .int .i64 (j : Int))] ∧ Keep [] h h' ∧ Keep [] hL1 h' ∧ h5.size ≤ h'.size ∧ Blk h' h3.size [.string x.s, .string x.e, kv] 55 ∧ n2 = ((x.ks.take j).filter (passK low high)).length ∧ Own h' h5.size 102 3 kv n2 xs2 ∧ RowsR 3 (cKey N0 h) xs2 ((x.ks.take j).filter (passK low high))) x.ks.length [(7, _), (1, _), (2, _), (13, _), (14, _), (15, _), (10, _), (25, _), (26, _), (27, _)] ⟨rfl, rfl, rfl, rfl, rfl, rfl, rfl, rfl, rfl, rfl, trivial⟩ ⟨0, _, 0, [], Nat.zero_le _, rfl, rfl, K, KL, Nat.le_refl _, B4, rfl, Own.nil _ _ _ _, RowsR.nil _ _⟩ ?_
  rintro m E hL6 ⟨j, kv, n2, xs2, hj, rfl, rfl, K, KLo, hz5, B4, hn2, O2, hrow2⟩
  have hobO := hob
  obtain ⟨a8, c8, rfl⟩ := Own.form3 O2
  have hob := own_ne O2; have KL := Keep.refl [] hL6
  refine tr_seq ?_
  refine tr_reg ?_
  refine rs_v (v_lt rfl rfl) rfl ?_
  refine rs_nil ?_
  refine q_thn ?_
  refine tr_seq ?_
  refine tr_ifn rfl (fun hif => ?_) (fun hif => ?_)
  · -- no
    simp only [decide_eq_true_eq, decide_eq_false_iff_not] at hif
    have hjj : j = x.ks.length := by omega
    subst hjj
    refine tr_exit ?_
    refine q_thn_exit ?_
    refine q_lp_exit ?_
    refine q_blk_hit ?_
    refine q_thn ?_
    refine tr_seq ?_
    refine tr_reg ?_
    refine rs_v (v_fieldAddr fa_spec_Span_2 rfl) rfl ?_
    refine rs_v (v_load one_sl_spec_SpanKey rfl (by exact B4.cell _ rfl)) rfl ?_
    refine rs_v (v_len u_sl_spec_SpanKey rfl) rfl ?_
    refine rs_v (v_gt rfl rfl) rfl ?_
    refine rs_nil ?_
    refine q_thn ?_
    refine tr_if rfl (fun hif => ?_) (fun hif => ?_)
    · -- yes
      simp only [decide_eq_true_eq, decide_eq_false_iff_not] at hif
      refine tr_reg ?_
      refine rs_v (v_move rfl) rfl ?_
      refine rs_v (v_loadAgg (vs := [_, _, _]) many_spec_Span rfl (by exact B4.sub _ 3 rfl)) rfl ?_
      refine rs_w (w_new1 u_sl_spec_Span siz_spec_Span zero_spec_Span rfl rfl rfl rfl rfl) rfl ?_
      rintro _ h7 ⟨rfl, B7, K7, Z7⟩
      have B4 := K7.blk (by simp) B4
      try have KLo := KLo.newX K7 (fun x hx => .inr (by first | (simp at hx; done) | (simp at hx; omega) | (have := hob x hx; omega)))
      have O2 := O2.keep2 K7 (fun x hm => by have := hob x hm; simp; try omega)
      have S7 := K.1; have K := K.new0 K7
      refine rs_w (w_app1 u_sl_spec_Span info_spec_Span rfl rfl rfl (O0.keep2 KLo (by simp)) rfl rfl B7 rfl (by omega) (by omega) (by omega)) rfl ?_
      rintro v8 h8 ⟨O8, K8, N8, F8⟩
      have KL7 := KLo
      have O27 := O2
      have hobI := hob
      have hob := hobO
      have K := K.newX K8 (fun x hm => .inr (by have := hob x hm; omega)); have Z8 := K8.1
      have B4 := K8.blk (fun hm => by have := hob _ hm; omega) B4
      have B7 := K8.blk (fun hm => by have := hob _ hm; omega) B7
      try have KLo := KLo.newX K8 (fun x hx => .inr (by first | (simp at hx; done) | (simp at hx; omega) | (have := hob x hx; omega)))
      refine rs_v (v_assign rfl) rfl ?_
      refine rs_nil ?_
      refine q_blk_n ?_
      refine q_thn ?_
      refine tr_reg ?_
      refine rs_v (v_add rfl rfl (by omega) (by omega)) rfl ?_
      refine rs_v (v_move rfl) rfl ?_
      refine rs_nil ?_
      have hff : ffS low high x = some ⟨x.s, x.e, x.ks.filter (passK low high)⟩ := by
        rw [List.take_length] at hn2
        simp only [ffS]
        rw [if_neg (fun e => by rw [e] at hn2; simp at hn2; omega)]
      rw [List.take_length] at hrow2 hn2
      refine q_lp (W.length - (k + 1)) [(7, _), (1, _), (2, _), (13, _), (14, _), (15, _)] (by omega) ⟨rfl, rfl, rfl, rfl, rfl, rfl, trivial⟩ ⟨k + 1, _, n + 1, by omega, rfl, rfl, K, ?_, ?_⟩
      · rw [take_snoc' hsk, fm_snoc1, hff, List.length_append, ← hn]; rfl
      · rw [take_snoc' hsk, fm_snoc1, hff]
        exact OutR.snoc cSpan_st (n0low h) (by omega) hobO hrow hF KL0 KL7 O8 K8 F8 rfl (⟨_, rfl, SlR.of_rows2 O27 hn2 hrow2 (fun b hb => .inr ⟨by have := (hobI b hb).1; omega, by have := (own_ne O27 b hb).2; omega⟩) (fun b o c a hc hr => cKey_r N0 _ _ _ _ _ hc hr)⟩)
    -- no
    simp only [decide_eq_true_eq, decide_eq_false_iff_not] at hif
    refine tr_skip ?_
    refine q_blk_n ?_
    refine q_thn ?_
    refine tr_reg ?_
    refine rs_v (v_add rfl rfl (by omega) (by omega)) rfl ?_
    refine rs_v (v_move rfl) rfl ?_
    refine rs_nil ?_
    have hff : ffS low high x = none := by
      rw [List.take_length] at hn2
      simp only [ffS]
      rw [if_pos (List.eq_nil_of_length_eq_zero (by omega))]
    refine q_lp (W.length - (k + 1)) [(7, _), (1, _), (2, _), (13, _), (14, _), (15, _)] (by omega) ⟨rfl, rfl, rfl, rfl, rfl, rfl, trivial⟩ ⟨k + 1, _, n, by omega, rfl, rfl, K, ?_, ?_⟩
    · rw [take_snoc' hsk, fm_snoc1, hff, Option.toList_none, List.append_nil]; exact hn
    · rw [take_snoc' hsk, fm_snoc1, hff, Option.toList_none, List.append_nil]
      exact hout0.keep cSpan_st KLo
  -- yes
  simp only [decide_eq_true_eq, decide_eq_false_iff_not] at hif
  rcases hxk with e | ⟨b9, o9, rfl, hAb9, hRk⟩
  · rw [e] at hif; simp at hif; omega
  obtain ⟨y, hyk⟩ := ex_get (L := x.ks) (k := j) (by omega)
  have hjl : j < x.ks.length := (List.getElem?_eq_some_iff.1 hyk).1
  have hkc := K.cells (by simp) (hRk j y hyk)
  have hxm := hm x (List.mem_of_getElem? hsk)
  have hn2j : n2 ≤ j := by rw [hn2]; exact Nat.le_trans (List.length_filter_le _ _) (by rw [List.length_take]; omega)
  refine tr_skip ?_
  refine q_thn ?_
  refine tr_seq ?_
  refine tr_block ?_
  refine tr_seq ?_
  refine tr_reg ?_
  refine rs_v (v_indexAddrN u_sl_spec_SpanKey siz_spec_SpanKey rfl rfl (by omega)) rfl ?_
  refine rs_v (v_loadAgg (vs := [_, _, _]) many_spec_SpanKey rfl (by exact hkc)) rfl ?_
  refine rs_w (w_new zero_spec_SpanKey) rfl ?_
  rintro _ h9 ⟨rfl, B9, K9, Z9⟩
  have B4 := K9.blk (by simp) B4
  try have KLo := KLo.newX K9 (fun x hx => .inr (by first | (simp at hx; done) | (simp at hx; omega) | (have := hob x hx; omega)))
  have O2 := O2.keep2 K9 (fun x hm => by have := hob x hm; simp; try omega)
  have S9 := K.1; have K := K.new0 K9
  refine rs_w0 (w_put siz_spec_SpanKey rfl rfl rfl rfl B9 rfl) ?_
  rintro _ h10 ⟨B10, K10⟩
  have B4 := K10.blk (by simp; omega) B4
  try have KLo := KLo.newX K10 (fun x hx => .inr (by first | (simp at hx; done) | (simp at hx; omega) | (have := hob x hx; omega)))
  have O2 := O2.keep2 K10 (fun x hm => by have := hob x hm; simp; try omega)
  have B9 := B10; have K := K.new1 K10 (by first | (right; omega) | (left; simp; done)); have Z10 := K10.1
  refine rs_nil ?_
  refine q_thn ?_
  refine tr_cut (fun E h' => h10 = h' ∧ E = [(7, v), (1, .int .u64 low), (2, .int .u64 high), (13, .slice (some ⟨b, o, none⟩) W.length c), (14, .int .i64 (W.length : Int)), (15, .int .i64 (k : Int)), (10, .pointer (some ⟨h3.size, 0, none⟩)), (25, .slice (some ⟨b9, o9, none⟩) x.ks.length ck), (26, .int .i64 (x.ks.length : Int)), (27, .int .i64 (j : Int)), (12, .pointer (some ⟨hL6.size, 0, none⟩)), (40, .bool (passK low high y))]) ?_ ?_
  ·
    rcases Bool.eq_false_or_eq_true (decide (low ≤ y.tr)) with g0 | g0
    · skip
      refine tr_reg ?_
      refine rs_v (v_move rfl) rfl ?_
      refine rs_v (v_fieldAddr fa_spec_SpanKey_0 rfl) rfl ?_
      refine rs_v (v_load one_uint64 rfl (by exact B9.cell _ rfl)) rfl ?_
      refine rs_v (v_le rfl rfl) rfl ?_
      refine rs_v (v_move rfl) rfl ?_
      refine rs_gv rfl (lkb g0) (v_fieldAddr fa_spec_SpanKey_0 rfl) rfl ?_
      refine rs_gv rfl (lkb g0) (v_load one_uint64 rfl (by exact B9.cell _ rfl)) rfl ?_
      refine rs_gv rfl (lkb g0) (v_move rfl) rfl ?_
      refine rs_gv rfl (lkb g0) (v_le rfl rfl) rfl ?_
      refine rs_v (v_pick_t (lkb g0) rfl) rfl ?_
      refine rs_nil ?_
      refine q_cut [(7, _), (1, _), (2, _), (13, _), (14, _), (15, _), (10, _), (25, _), (26, _), (27, _), (12, _), (40, _)] ⟨rfl, rfl, rfl, rfl, rfl, rfl, rfl, rfl, rfl, rfl, rfl, rfl, trivial⟩ ⟨rfl, ?_⟩
      rw [show passK low high y = decide (y.tr ≤ high) from by simp only [passK, g0, Bool.true_and, Bool.false_and]]
    · skip
      refine tr_reg ?_
      refine rs_v (v_move rfl) rfl ?_
      refine rs_v (v_fieldAddr fa_spec_SpanKey_0 rfl) rfl ?_
      refine rs_v (v_load one_uint64 rfl (by exact B9.cell _ rfl)) rfl ?_
      refine rs_v (v_le rfl rfl) rfl ?_
      refine rs_v (v_move rfl) rfl ?_
      refine rs_gs rfl (lkb g0) rfl rfl ?_
      refine rs_gs rfl (lkb g0) rfl rfl ?_
      refine rs_gs rfl (lkb g0) rfl rfl ?_
      refine rs_gs rfl (lkb g0) rfl rfl ?_
      refine rs_v (v_pick_f (lkb g0) rfl) rfl ?_
      refine rs_nil ?_
      refine q_cut [(7, _), (1, _), (2, _), (13, _), (14, _), (15, _), (10, _), (25, _), (26, _), (27, _), (12, _), (40, _)] ⟨rfl, rfl, rfl, rfl, rfl, rfl, rfl, rfl, rfl, rfl, rfl, rfl, trivial⟩ ⟨rfl, ?_⟩
      rw [show passK low high y = false from by simp only [passK, g0, Bool.true_and, Bool.false_and]]
  rintro E h99 ⟨hh, rfl⟩
  subst hh
  refine tr_if rfl (fun hif => ?_) (fun hif => ?_)
  · -- yes
    skip
    refine tr_reg ?_
    refine rs_v (v_fieldAddr fa_spec_Span_2 rfl) rfl ?_
    refine rs_v (v_load one_sl_spec_SpanKey rfl (by exact B4.cell _ rfl)) rfl ?_
    refine rs_v (v_loadAgg (vs := [_, _, _]) many_spec_SpanKey rfl (by exact B9.sub _ 3 rfl)) rfl ?_
    refine rs_w (w_new1 u_sl_spec_SpanKey siz_spec_SpanKey zero_spec_SpanKey rfl rfl rfl rfl rfl) rfl ?_
    rintro _ h12 ⟨rfl, B12, K12, Z12⟩
    have B4 := K12.blk (by simp) B4
    have B9 := K12.blk (by simp) B9
    try have KLo := KLo.newX K12 (fun x hx => .inr (by first | (simp at hx; done) | (simp at hx; omega) | (have := hob x hx; omega)))
    have O2 := O2.keep2 K12 (fun x hm => by have := hob x hm; simp; try omega)
    have S12 := K.1; have K := K.new0 K12
    refine rs_w (w_app1 u_sl_spec_SpanKey info_spec_SpanKey rfl rfl rfl O2 rfl rfl B12 rfl (by omega) (by omega) (by omega)) rfl ?_
    rintro v13 h13 ⟨O13, K13, N13, F13⟩
    obtain ⟨a9, c9, rfl⟩ := Own.form3 O13
    have K := K.newX K13 (fun x hm => .inr (by have := hob x hm; omega)); have Z13 := K13.1
    have B4 := K13.blk (fun hm => by have := hob _ hm; omega) B4
    have B9 := K13.blk (fun hm => by have := hob _ hm; omega) B9
    have B12 := K13.blk (fun hm => by have := hob _ hm; omega) B12
    try have KLo := KLo.newX K13 (fun x hx => .inr (by first | (simp at hx; done) | (simp at hx; omega) | (have := hob x hx; omega)))
    refine rs_v (v_fieldAddr fa_spec_Span_2 rfl) rfl ?_
    refine rs_w0 (w_put siz_sl_spec_SpanKey rfl rfl rfl rfl B4 rfl) ?_
    rintro _ h14 ⟨B14, K14⟩
    have B9 := K14.blk (by simp; omega) B9
    have B12 := K14.blk (by simp; omega) B12
    try have KLo := KLo.newX K14 (fun x hx => .inr (by first | (simp at hx; done) | (simp at hx; omega) | (have := hob x hx; omega)))
    have B4 := B14; have K := K.new1 K14 (by first | (right; omega) | (left; simp; done)); have Z14 := K14.1
    refine rs_nil ?_
    refine q_blk_n ?_
    refine q_thn ?_
    refine tr_reg ?_
    refine rs_v (v_add rfl rfl (by omega) (by omega)) rfl ?_
    refine rs_v (v_move rfl) rfl ?_
    refine rs_nil ?_
    have O13 := O13.keep2 K14 (fun x9 hx9 hm9 => by
      rcases F13 with e | e
      · rw [e] at hx9; have := hob x9 hx9; simp at hm9; omega
      · rw [e] at hx9; simp at hx9 hm9; omega)
    refine q_lp (x.ks.length - (j + 1)) [(7, _), (1, _), (2, _), (13, _), (14, _), (15, _), (10, _), (25, _), (26, _), (27, _)] (by omega) ⟨rfl, rfl, rfl, rfl, rfl, rfl, rfl, rfl, rfl, rfl, trivial⟩ ⟨j + 1, _, n2 + 1, _, by omega, rfl, rfl, K, KLo, by omega, B4, ?_, O13, ?_⟩
    · rw [take_snoc' hyk, filter_snoc, if_pos hif, List.length_append, ← hn2]; rfl
    · rw [take_snoc' hyk, filter_snoc, if_pos hif]
      exact hrow2.snoc rfl rfl
  -- no
  skip
  refine tr_skip ?_
  refine q_blk_n ?_
  refine q_thn ?_
  refine tr_reg ?_
  refine rs_v (v_add rfl rfl (by omega) (by omega)) rfl ?_
  refine rs_v (v_move rfl) rfl ?_
  refine rs_nil ?_
  refine q_lp (x.ks.length - (j + 1)) [(7, _), (1, _), (2, _), (13, _), (14, _), (15, _), (10, _), (25, _), (26, _), (27, _)] (by omega) ⟨rfl, rfl, rfl, rfl, rfl, rfl, rfl, rfl, rfl, rfl, trivial⟩ ⟨j + 1, _, n2, _, by omega, rfl, rfl, K, KLo, by omega, B4, ?_, O2, ?_⟩
  · rw [take_snoc' hyk, filter_snoc, if_neg (by rw [hif]; decide)]; exact hn2
  · rw [take_snoc' hyk, filter_snoc, if_neg (by rw [hif]; decide)]; exact hrow2
end Go.Proofs.Ytgebfbnndgjkiaa
