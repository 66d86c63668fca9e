/- Texts W115 to W122, as far as the statement reaches them, laid together by a program of ours. Conditions: those that each theorem names. -/
import Derived.Test.YtmckkklhonfmcaaGreatK5
set_option linter.unusedVariables false
set_option linter.unusedSimpArgs false
set_option linter.unusedSectionVars false
namespace Go.Proofs.YtmckkklhonfmcaaGreat
open Go.Tess Go.RowKit
set_option maxRecDepth 100000
set_option maxHeartbeats 1000000
def bndF (W : List SpanD) : List ByteArray := W.foldl (fun l s => addB (addB l s.s) s.e) []
theorem bndF_snoc (W : List SpanD) (s : SpanD) : bndF (W ++ [s]) = addB (addB (bndF W) s.s) s.e := by simp [bndF, List.foldl_append]
theorem addB_len (l : List ByteArray) (key : ByteArray) : (addB l key).length ≤ l.length + 1 := by
  unfold addB
  split
  · omega
  · have := idxB_le l key l.length
    rw [List.length_append, List.length_cons, List.length_take, List.length_drop]; omega
theorem RStrs.of {A : Nat → Prop} {h : Heap} {base : Nat} {T : TypeId} {v : Value} {l : List ByteArray} (O : Own h base T 1 v l.length (stc l)) (hA : ∀ x, base ≤ x → x < h.size → A x) : RStrs A h v l := by
  rcases O.form with ⟨rfl, e, _⟩ | ⟨g, cap, rfl, _, hb, hg, hn, hm, hc⟩
  · exact ⟨by omega, none, 0, by rw [e], fun i x hi => by have := (List.getElem?_eq_some_iff.1 hi).1; omega⟩
  · refine ⟨by unfold maxLen at hm; omega, _, _, rfl, fun i x hi => ⟨g, 0, rfl, hA g hb hg, ?_⟩⟩
    have := hc i (.string x) (by unfold stc; rw [List.getElem?_map, hi]; rfl)
    rw [show 0 + i * 1 = 0 + i from by omega]; exact this
theorem c_spanBounds (χ : Chi) (h : Heap) (A : Nat → Prop) (hA : Low A h) (v : Value) (W : List SpanD) (hW : RSpans A h v W) (hn : W.length ≤ 1000) :
    Cl Tryz.prog χ 40 #[v] h (fun r h' => RStrs (Up N0 h h') h' r (bndF W) ∧ Keep [] h h') := by
  obtain ⟨hlen, a, c, rfl, hx⟩ := hW.form
  refine cl_intro Tryz.func40 rfl rfl rfl ?_
  have K : Keep [] h h := Keep.refl _ _
  refine rG <| rA rfl rfl <| rN <| rG <| rs_w (w_new zero_sl_string) rfl ?_
  rintro _ h1 ⟨rfl, B1, K1, Z1⟩
  have S1 := K.1; have K := K.new0 K1
  refine rN <| rG <| rs_v (v_makeFunc (vs := [_]) ⟨rfl, trivial⟩) rfl ?_
  refine rA rfl rfl <| rN ?_
  refine tr_seq ?_
  refine rG <| rM rfl rfl <| rs_v (v_len u_sl_spec_Span rfl) rfl ?_
  refine rM rfl rfl <| rN <| tr_block ?_
  refine tr_loop (fun m E h' => ∃ k v, k ≤ W.length ∧ m = W.length - k ∧ E = [(3, .pointer (some ⟨h.size, 0, none⟩)), (4, .func (.func 76) #[] #[.pointer (some ⟨h.size, 0, none⟩)]), (8, .slice a W.length c), (9, .int .i64 (W.length : Int)), (10, .int .i64 (k : Int))] ∧ Blk h' h.size [v] 78 ∧ Own h' h.size 9 1 v (bndF (W.take k)).length (stc (bndF (W.take k))) ∧ h.size ∉ v.ownBlock.toList ∧ (bndF (W.take k)).length ≤ 2 * k ∧ Keep [] h h') W.length [(3, _), (4, _), (8, _), (9, _), (10, _)] ⟨rfl, rfl, rfl, rfl, rfl, trivial⟩ ⟨0, _, Nat.zero_le _, rfl, rfl, B1, Own.nil _ _ _ _, by simp [Value.ownBlock], by simp [bndF], K⟩ ?_
  rintro m E hL2 ⟨k, v, hk, rfl, rfl, B1, O, hc, hbl, K⟩
  refine rG <| rs_v (v_lt rfl rfl) rfl ?_
  refine rN ?_
  refine tr_seq ?_
  refine tr_ifn rfl (fun hif => ?_) (fun hif => ?_)
  · -- no
    simp only [dT, dF] at hif
    have hkk : k = W.length := by omega
    subst hkk
    obtain ⟨va, vc, rfl⟩ := Own.form3 O
    refine tr_exit <| q_thn_exit ?_
    refine q_lp_exit ?_
    refine q_blk_hit ?_
    refine q_thn ?_
    refine rG <| rs_v (v_load one_sl_string rfl (by exact B1.cell 0 rfl)) rfl ?_
    refine rA rfl rfl <| rN <| tr_ret <| q_ret (res_tmp rfl rfl) ?_
    rw [List.take_length] at *
    exact ⟨RStrs.of O (fun x h1 h2 => .inr ⟨h1, h2⟩), K⟩
  -- yes
  simp only [dT, dF] at hif
  rcases hx with rfl | ⟨b, o, rfl, hAb, hR⟩
  · simp at hif; omega
  obtain ⟨s, hsk⟩ := ex_get (L := W) (k := k) (by omega)
  have hkl : k < W.length := (List.getElem?_eq_some_iff.1 hsk).1
  have KL0 := K.1
  obtain ⟨kv, hcc, hkx⟩ := hR k s hsk
  obtain ⟨ka, kc, rfl⟩ := hkx.form2
  have hcells := K.cells (by simp) hcc
  have hob1 := B1.lt
  refine tr_skip ?_
  refine q_thn ?_
  refine tr_seq ?_
  refine tr_block <| rG <| rs_v (v_indexAddrN u_sl_spec_Span siz_spec_Span rfl rfl (by omega)) rfl ?_
  refine rs_v (v_loadAgg (vs := [_, _, _]) many_spec_Span rfl (by exact hcells)) rfl ?_
  refine rs_w (w_new zero_spec_Span) rfl ?_
  rintro _ h3 ⟨rfl, B3, K3, Z3⟩
  have B1 := K3.blk (by simp) B1
  have S3 := K.1; have K := K.new0 K3
  refine rs_w0 (w_put siz_spec_Span rfl rfl rfl rfl B3 rfl) ?_
  rintro _ h4 ⟨B2, K4⟩
  have O0 := O
  have B1 := K4.blk (by simp; omega) B1
  have O := (O.keep2 K3 (by simp)).keep2 K4 (fun x hx => by have := (own_ne O x hx).2; simp; omega)
  have K := K.newX K4 (fun x hx => .inr (by rw [List.mem_singleton.1 hx]; omega))
  have hl1 := addB_len (bndF (W.take k)) s.s
  refine rN <| rG <| rM rfl rfl <| rF fa_spec_Span_0 rfl rfl <| rs_v (v_load one_string rfl (by exact B2.cell 0 rfl)) rfl ?_
  refine rs_w (w_callv (first := []) (cap := [.pointer (some ⟨h.size, 0, none⟩)]) (vs := [_]) ok_spec_spanBounds_c1 rfl ⟨rfl, trivial⟩ (c_boundsAdd (key := s.s) B1 O hc K.1 (by omega))) rfl ?_
  rintro _ h5 ⟨rfl, va, B1, Oa, hca, K5, hsa⟩
  have K := K.newX K5 (fun x hx => .inr (by
    rcases List.mem_cons.1 hx with rfl | hx
    · exact Nat.le_refl _
    · exact (own_ne O x hx).1))
  have B2 := K5.blk (fun hm => by
    rcases List.mem_cons.1 hm with e | hm
    · omega
    · have := (own_ne O0 _ hm).2; omega) B2
  refine rN ?_
  refine tr_reg ?_
  refine rM rfl rfl <| rF fa_spec_Span_1 rfl rfl <| rs_v (v_load one_string rfl (by exact B2.cell 1 rfl)) rfl ?_
  refine rs_w (w_callv (first := []) (cap := [.pointer (some ⟨h.size, 0, none⟩)]) (vs := [_]) ok_spec_spanBounds_c1 rfl ⟨rfl, trivial⟩ (c_boundsAdd (key := s.e) B1 Oa hca (by have := K.1; omega) (by omega))) rfl ?_
  rintro _ h6 ⟨rfl, vb, B1, Ob, hcb, K6, hsb⟩
  have K := K.newX K6 (fun x hx => .inr (by
    rcases List.mem_cons.1 hx with rfl | hx
    · exact Nat.le_refl _
    · exact (own_ne Oa x hx).1))
  refine rs_nil ?_
  refine q_blk_n ?_
  refine q_thn ?_
  refine tr_reg ?_
  refine rs_v (v_add rfl rfl (by omega) (by omega)) rfl ?_
  refine rM rfl rfl ?_
  refine rs_nil ?_
  have hl2 := addB_len (addB (bndF (W.take k)) s.s) s.e
  refine q_lp (W.length - (k + 1)) [(3, _), (4, _), (8, _), (9, _), (10, _)] (by omega) ⟨rfl, rfl, rfl, rfl, rfl, trivial⟩ ⟨k + 1, vb, by omega, rfl, rfl, B1, ?_, hcb, ?_, K⟩
  · rw [take_snoc' hsk, bndF_snoc]; exact Ob
  · rw [take_snoc' hsk, bndF_snoc]; omega
end Go.Proofs.YtmckkklhonfmcaaGreat
namespace Go.Tess
open Go.RowKit
theorem OutR.app {α : Type} {A : Nat → Prop} {h0 hL h7 h8 : Heap} {base : Nat} {e : TypeId} {sz : Nat} {R : (Nat → Prop) → Heap → List Value → α → Prop} {v v8 : Value} {m : Nat} {la bs : List α} {xs c : List Value} {F : Nat → Prop}
    (happ : ∀ {xs ys : List Value} {ls ms : List α} {R : List Value → α → Prop}, RowsR sz R xs ls → RowsR sz R ys ms → RowsR sz R (xs ++ ys) (ls ++ ms))
    (hst : RStab R) (hA : Low A h0) (hb : h0.size ≤ base) (hob : ∀ x, x ∈ v.ownBlock.toList → base ≤ x ∧ x < hL.size) (hrow : RowsR sz (R F hL) xs la) (hF : ∀ b, F b → b ∉ v.ownBlock.toList ∧ b < hL.size ∧ (A b ∨ h0.size ≤ b))
    (K0 : h0.size ≤ hL.size) (KL : Keep [] hL h7) (O8 : Own h8 base e sz v8 m (xs ++ c)) (K8 : Keep v.ownBlock.toList h7 h8) (F8 : v8.ownBlock = v.ownBlock ∨ v8.ownBlock = some h7.size)
    (hr : RowsR sz (R (Up A hL h7) h7) c bs) : OutR A h0 h8 base e sz R v8 m (la ++ bs) := by
  have hAown : ∀ b, A b → b ∉ v.ownBlock.toList := fun b ha hm => by have := hA b ha; have := (hob b hm).1; omega
  have hF7 : ∀ b, F b ∨ Up A hL h7 b → b ∉ v.ownBlock.toList ∧ b < h7.size ∧ (A b ∨ h0.size ≤ b) := by
    intro b hb
    have := KL.1
    rcases hb with hb | hb | hb
    · have := hF b hb
      exact ⟨this.1, by omega, this.2.2⟩
    · exact ⟨hAown b hb, by have := hA b hb; omega, .inl hb⟩
    · exact ⟨fun hm => by have := (hob b hm).2; omega, hb.2, .inr (by omega)⟩
  have S8 : Stab (fun b => F b ∨ Up A hL h7 b) h7 h8 := fun b hb => K8.2 b (hF7 b hb).2.1 (hF7 b hb).1
  refine ⟨xs ++ c, fun b => F b ∨ Up A hL h7 b, O8, happ (hrow.mono fun c a hr => ?_) (hr.mono fun c a hr => ?_), fun b hb => ⟨?_, ?_, (hF7 b hb).2.2⟩⟩
  · exact hst.stab _ _ _ _ _ S8 (hst.mono _ _ _ _ _ (fun b hb => .inl hb) (hst.stab _ _ _ _ _ (KL.stab fun b hb => ⟨(hF b hb).2.1, by simp⟩) hr))
  · exact hst.stab _ _ _ _ _ S8 (hst.mono _ _ _ _ _ (fun b hb => .inr hb) hr)
  · have := hF7 b hb
    rcases F8 with e8 | e8
    · rw [e8]; exact this.1
    · rw [e8]; simp; omega
  · have := (hF7 b hb).2.1; have := K8.1; omega
end Go.Tess
namespace Go.Proofs.YtmckkklhonfmcaaGreat
open Go.Tess Go.RowKit
set_option maxRecDepth 100000
set_option maxHeartbeats 1000000
def visSp (n : Nat) (s : SpanD) : SpanD := ⟨s.s, s.e, s.ks.filter (visK n)⟩
theorem take_flat {α : Type} {ws : List (List α)} {k : Nat} {W : List α} (h : ws[k]? = some W) : (ws.take (k + 1)).flatten = (ws.take k).flatten ++ W := by
  rw [take_snoc' h, List.flatten_append]; simp
theorem c_SpanAll (χ : Chi) (h : Heap) (A : Nat → Prop) (hA : Low A h) (v : Value) (ws : List (List SpanD)) (hW : RLevels A h v ws) (hn : ws.length ≤ 10) (hm : ∀ W, W ∈ ws → W.length ≤ 1000) :
    Cl Tryz.prog χ 14 #[v] h (fun r h' => RSpans (Up A h h') h' r ws.flatten ∧ Keep [] h h') := by
  obtain ⟨hlen, a, c, rfl, hx⟩ := hW.form
  refine cl_intro Tryz.func14 rfl rfl rfl ?_
  have K : Keep [] h h := Keep.refl _ _
  refine rG <| rA rfl rfl <| rN <| rG <| rA rfl rfl <| rN ?_
  refine tr_seq ?_
  refine rG <| rM rfl rfl <| rs_v (v_len u_sl_sl_spec_Span rfl) rfl ?_
  refine rM rfl rfl <| rN <| tr_block ?_
  refine tr_loop (fun m E h' => ∃ k v n, k ≤ ws.length ∧ m = ws.length - k ∧ E = [(3, v), (6, .slice a ws.length c), (7, .int .i64 (ws.length : Int)), (8, .int .i64 (k : Int))] ∧ Keep [] h h' ∧ n = ((ws.take k).flatten).length ∧ n ≤ k * 1000 ∧ OutR A h h' h.size 40 3 cSpan v n ((ws.take k).flatten)) ws.length [(3, _), (6, _), (7, _), (8, _)] ⟨rfl, rfl, rfl, rfl, trivial⟩ ⟨0, _, 0, Nat.zero_le _, rfl, rfl, K, rfl, by omega, OutR.nil _ _ _ _ _ _ _⟩ ?_
  rintro m E hL1 ⟨k, v, n, hk, rfl, rfl, K, hn, hnk, hout⟩
  have hout0 := hout
  obtain ⟨xs, F, O, hrow, hF⟩ := hout
  have hob := own_ne O; have KL := Keep.refl [] hL1
  refine rG <| rs_v (v_lt rfl rfl) rfl ?_
  refine rN ?_
  refine tr_seq ?_
  refine tr_ifn rfl (fun hif => ?_) (fun hif => ?_)
  · -- no
    simp only [dT, dF] at hif
    have hkk : k = ws.length := by omega
    subst hkk
    refine tr_exit <| q_thn_exit ?_
    refine q_lp_exit ?_
    refine q_blk_hit ?_
    refine q_thn ?_
    refine rG <| rM rfl rfl <| rA rfl rfl <| rN <| tr_ret <| q_ret (res_tmp rfl rfl) ?_
    rw [List.take_length] at hout0 hn
    exact ⟨hout0.fin cSpan_st hn (Nat.le_refl _) cSpan_r, K⟩
  -- yes
  simp only [dT, dF] at hif
  rcases hx with rfl | ⟨b, o, rfl, hAb, hR⟩
  · simp at hif; omega
  obtain ⟨W, hsk⟩ := ex_get (L := ws) (k := k) (by omega)
  have hkl : k < ws.length := (List.getElem?_eq_some_iff.1 hsk).1
  have KL0 := K.1
  obtain ⟨kv, hcc, hkx⟩ := hR k W hsk
  have hWS := hkx.stab (K.st hA)
  obtain ⟨ka, kc, news, rfl, hnl, hnr, hnc, hn1⟩ := spans_row hWS
  have hcells := K.cells (by simp) hcc
  have hWl := hm W (List.mem_of_getElem? hsk)
  refine tr_skip ?_
  refine q_thn ?_
  refine tr_seq ?_
  refine tr_block <| rG <| rs_v (v_indexAddrN u_sl_sl_spec_Span siz_sl_spec_Span rfl rfl (by omega)) rfl ?_
  refine rs_v (v_load one_sl_spec_Span rfl (by exact hcells 0 _ rfl)) rfl ?_
  refine rA rfl rfl <| rN ?_
  refine tr_reg ?_
  refine rM rfl rfl <| rM rfl rfl <| rs_w (w_appS (news := news) u_sl_spec_Span info_spec_Span rfl rfl rfl O rfl hnl hnc hn1 (by omega) (by omega) (by omega)) rfl ?_
  rintro v2 h2 ⟨O2, K2, F2⟩
  have K := K.newX K2 (fun x hm => .inr (by have := hob x hm; omega)); have Z2 := K2.1
  refine rA rfl rfl ?_
  refine rs_nil ?_
  refine q_blk_n ?_
  refine q_thn ?_
  refine tr_reg ?_
  refine rs_v (v_add rfl rfl (by omega) (by omega)) rfl ?_
  refine rM rfl rfl ?_
  refine rs_nil ?_
  refine q_lp (ws.length - (k + 1)) [(3, _), (6, _), (7, _), (8, _)] (by omega) ⟨rfl, rfl, rfl, rfl, trivial⟩ ⟨k + 1, v2, n + W.length, by omega, rfl, rfl, K, ?_, by omega, ?_⟩
  · rw [take_flat hsk, List.length_append, ← hn]
  · rw [take_flat hsk]
    exact OutR.app RowsR.app cSpan_st hA (Nat.le_refl _) hob hrow hF KL0 KL O2 K2 F2 (hnr.mono fun c a hr => cSpan_st.mono _ _ _ _ _ (fun b hb => .inl hb) hr)
theorem c_SpanSeq {χ : Chi} {h : Heap} {T : Nat} (hT : T < 18446744073709551616) :
    Cl Tryz.prog χ 120 #[.int .u64 (T : Int)] h (fun r h' => r = .int .u64 ((T / 256 : Nat) : Int) ∧ Keep [] h h') := by
  refine cl_intro Tryz.func120 rfl rfl rfl ?_
  have K : Keep [] h h := Keep.refl _ _
  refine rG <| rA rfl rfl <| rN <| rG <| rM rfl rfl <| rs_v (v_shrN (k := 8) (m := 256) rfl rfl rfl rfl (by decide) (by decide)) rfl ?_
  refine rA rfl rfl <| rN <| tr_ret <| q_ret (res_tmp rfl rfl) ?_
  exact ⟨rfl, K⟩
theorem c_SpanKeyVisible {χ : Chi} {h : Heap} {T s n : Nat} (hT : T < 18446744073709551616) (hs : T / 256 = s) :
    Cl Tryz.prog χ 94 #[.int .u64 (T : Int), .int .u64 (n : Int)] h (fun r h' => r = .bool (visS n s) ∧ Keep [] h h') := by
  have hs1 : T / 256 = s := hs
  refine cl_intro Tryz.func94 rfl rfl rfl ?_
  have K : Keep [] h h := Keep.refl _ _
  refine rG <| rA rfl rfl <| rN <| rG <| rM rfl rfl <| rs_w (w_call (vs := [_]) ok_spec_SpanSeq rfl ⟨rfl, trivial⟩ (c_SpanSeq hT)) rfl ?_
  rintro _ h1 ⟨rfl, K1⟩
  rw [hs1]
  have K := K.new0 K1; have Z1 := K1.1
  refine rA rfl rfl <| rN ?_
  refine tr_cut (fun E h' => Keep [] h h' ∧ E = [(4, .bool (visS n s))]) ?_ ?_
  ·
    rcases (show s < n ∨ (¬ s < n ∧ s &&& 36028797018963968 ≠ 0) ∨ (¬ s < n ∧ s &&& 36028797018963968 = 0) by omega) with g0 | ⟨g0, gb⟩ | ⟨g0, gb⟩
    · have g1 : decide ((s : Int) < (n : Int)) = true := decide_eq_true (by omega)
      refine tr_reg ?_
      refine rM rfl rfl <| rM rfl rfl <| rs_v (v_lt rfl rfl) rfl ?_
      refine rM rfl rfl <| rs_gs rfl (lkb g1) rfl rfl <| rs_gs rfl (lkb g1) rfl rfl <| rs_gs rfl (lkb g1) rfl rfl <| rs_v (v_pick_t (lkb g1) rfl) rfl ?_
      refine rA rfl rfl ?_
      refine rs_nil ?_
      refine q_cut [(4, _)] ⟨rfl, trivial⟩ ⟨K, ?_⟩
      rw [show visS n s = true from by simp [visS, g0]]
    · have g1 : decide ((s : Int) < (n : Int)) = false := decide_eq_false (by omega)
      have g2 : decide (((s &&& 36028797018963968 : Nat) : Int) ≠ 0) = true := decide_eq_true (by omega)
      refine tr_reg ?_
      refine rM rfl rfl <| rM rfl rfl <| rs_v (v_lt rfl rfl) rfl ?_
      refine rM rfl rfl <| rs_gv rfl (lkb g1) (v_move rfl) rfl <| rs_gv rfl (lkb g1) (v_andN (b := 36028797018963968) rfl rfl (by omega) (by omega)) rfl ?_
      refine rs_gv rfl (lkb g1) (v_ne rfl rfl) rfl ?_
      refine rs_v (v_pick_f (lkb g1) rfl) rfl ?_
      refine rA rfl rfl ?_
      refine rs_nil ?_
      refine q_cut [(4, _)] ⟨rfl, trivial⟩ ⟨K, ?_⟩
      rw [show visS n s = true from by simp [visS, gb], g2]
    · have g1 : decide ((s : Int) < (n : Int)) = false := decide_eq_false (by omega)
      have g2 : decide (((s &&& 36028797018963968 : Nat) : Int) ≠ 0) = false := decide_eq_false (by omega)
      refine tr_reg ?_
      refine rM rfl rfl <| rM rfl rfl <| rs_v (v_lt rfl rfl) rfl ?_
      refine rM rfl rfl <| rs_gv rfl (lkb g1) (v_move rfl) rfl <| rs_gv rfl (lkb g1) (v_andN (b := 36028797018963968) rfl rfl (by omega) (by omega)) rfl ?_
      refine rs_gv rfl (lkb g1) (v_ne rfl rfl) rfl ?_
      refine rs_v (v_pick_f (lkb g1) rfl) rfl ?_
      refine rA rfl rfl ?_
      refine rs_nil ?_
      refine q_cut [(4, _)] ⟨rfl, trivial⟩ ⟨K, ?_⟩
      rw [show visS n s = false from by simp [visS, gb]; omega, g2]
  rintro E h99 ⟨K, rfl⟩
  refine tr_ret <| q_ret (res_tmp rfl rfl) ?_
  exact ⟨rfl, K⟩
theorem c_specSpanVisible (χ : Chi) (h : Heap) (A : Nat → Prop) (hA : Low A h) (s : SpanD) (kv : Value) (n : Nat) (hks : RKeys A h kv s.ks) (hl : s.ks.length ≤ 100000) (htr : ∀ k, k ∈ s.ks → 0 ≤ k.tr ∧ k.tr < 18446744073709551616) :
    Cl Tryz.prog χ 58 #[.agg #[.string s.s, .string s.e, kv], .int .u64 (n : Int)] h (fun r h' => (∃ kv', r = .agg #[.string s.s, .string s.e, kv'] ∧ RKeys (Up N0 h h') h' kv' (s.ks.filter (visK n))) ∧ Keep [] h h') := by
  obtain ⟨hlk, ak, ck, rfl, hxk⟩ := hks.form
  refine cl_intro Tryz.func58 rfl rfl rfl ?_
  have K : Keep [] h h := Keep.refl _ _
  refine rG <| rs_w (w_newbox rfl) rfl ?_
  rintro _ h1 ⟨rfl, B1, K1, Z1⟩
  have S1 := K.1; have K := K.new0 K1
  refine rs_w (w_new zero_spec_Span) rfl ?_
  rintro _ h2 ⟨rfl, B2, K2, Z2⟩
  have B1 := K2.blk (by simp) B1
  have S2 := K.1; have K := K.new0 K2
  refine rN <| rG <| rF fa_spec_Span_0 rfl rfl <| rs_v (v_load one_string rfl (by exact B1.cell _ rfl)) rfl ?_
  refine rF fa_spec_Span_1 rfl rfl <| rs_v (v_load one_string rfl (by exact B1.cell _ rfl)) rfl ?_
  refine rs_v (v_build2 rfl rfl (bld_spec_Span_0_1 _ _)) rfl ?_
  refine rs_w (w_new zero_spec_Span) rfl ?_
  rintro _ h3 ⟨rfl, B3, K3, Z3⟩
  have B1 := K3.blk (by simp) B1
  have B2 := K3.blk (by simp) B2
  have S3 := K.1; have K := K.new0 K3
  refine rs_w0 (w_put siz_spec_Span rfl rfl rfl rfl B3 rfl) ?_
  rintro _ h4 ⟨B4, K4⟩
  have B1 := K4.blk (by simp; omega) B1
  have B2 := K4.blk (by simp; omega) B2
  have B3 := B4; have K := K.new1 K4 (by first | (right; omega) | (left; simp; done)); have Z4 := K4.1
  refine rN ?_
  refine tr_seq ?_
  refine rG <| rF fa_spec_Span_2 rfl rfl <| rs_v (v_load one_sl_spec_SpanKey rfl (by exact B1.cell _ rfl)) rfl ?_
  refine rs_v (v_len u_sl_spec_SpanKey rfl) rfl ?_
  refine rM rfl rfl <| rN <| tr_block ?_
  refine tr_loop (fun m E h' => ∃ j kv n2 xs2, j ≤ s.ks.length ∧ m = s.ks.length - j ∧ E = [(1, .int .u64 (n : Int)), (4, .pointer (some ⟨h1.size, 0, none⟩)), (5, .pointer (some ⟨h2.size, 0, none⟩)), (14, .slice ak s.ks.length ck), (15, .int .i64 (s.ks.length : Int)), (16, .int .i64 (j : Int))] ∧ Keep [] h h' ∧ h4.size ≤ h'.size ∧ Blk h' h1.size [.string .empty, .string .empty, .slice none 0 0] 40 ∧ Blk h' h2.size [.string s.s, .string s.e, kv] 40 ∧ n2 = ((s.ks.take j).filter (visK n)).length ∧ Own h' h4.size 42 3 kv n2 xs2 ∧ RowsR 3 (cKey N0 h) xs2 ((s.ks.take j).filter (visK n))) s.ks.length [(1, _), (4, _), (5, _), (14, _), (15, _), (16, _)] ⟨rfl, rfl, rfl, rfl, rfl, rfl, trivial⟩ ⟨0, _, 0, [], Nat.zero_le _, rfl, rfl, K, Nat.le_refl _, B2, B3, rfl, Own.nil _ _ _ _, RowsR.nil _ _⟩ ?_
  rintro m E hL5 ⟨j, kv, n2, xs2, hj, rfl, rfl, K, hz5, B2, B3, hn2, O2, hrow2⟩
  obtain ⟨a8, c8, rfl⟩ := Own.form3 O2
  have hb2 := B2.lt
  have hb3 := B3.lt
  have hob := own_ne O2; have KL := Keep.refl [] hL5
  refine rG <| rs_v (v_lt rfl rfl) rfl ?_
  refine rN ?_
  refine tr_seq ?_
  refine tr_ifn rfl (fun hif => ?_) (fun hif => ?_)
  · -- no
    simp only [dT, dF] at hif
    have hjj : j = s.ks.length := by omega
    subst hjj
    rw [List.take_length] at hn2 hrow2
    refine tr_exit <| q_thn_exit ?_
    refine q_lp_exit ?_
    refine q_blk_hit ?_
    refine q_thn ?_
    refine rG <| rs_v (v_loadAgg (vs := [_, _, _]) many_spec_Span rfl (by exact B3.sub _ 3 rfl)) rfl ?_
    refine rs_w0 (w_put siz_spec_Span rfl rfl rfl rfl B2 rfl) ?_
    rintro _ h6 ⟨B6, K6⟩
    have B3 := K6.blk (by simp; omega) B3
    have O2 := O2.keep2 K6 (fun x hm => by have := hob x hm; simp; try omega)
    have B2 := B6; have K := K.new1 K6 (by first | (right; omega) | (left; simp; done)); have Z6 := K6.1
    refine rN <| tr_ret <| q_ret (res_cell (vs := [_, _, _]) rfl rfl many_spec_Span (by exact B2.sub 0 3 rfl)) ?_
    refine ⟨⟨_, rfl, SlR.of_rows2 O2 hn2 hrow2 (fun b hb => .inr ⟨by have := (hob b hb).1; omega, (own_ne O2 b hb).2⟩) (fun b o c a hc hr => cKey_r N0 _ _ _ _ _ hc hr)⟩, K⟩
  -- yes
  simp only [dT, dF] at hif
  rcases hxk with e | ⟨b9, o9, rfl, hAb9, hRk⟩
  · rw [e] at hif; simp at hif; omega
  obtain ⟨y, hyk⟩ := ex_get (L := s.ks) (k := j) (by omega)
  have hjl : j < s.ks.length := (List.getElem?_eq_some_iff.1 hyk).1
  have hkc := K.cells (by simp) (hRk j y hyk)
  obtain ⟨htr1, htr2⟩ := htr y (List.mem_of_getElem? hyk)
  obtain ⟨T, hT⟩ : ∃ T : Nat, y.tr = (T : Int) := ⟨y.tr.toNat, by omega⟩
  have hvk : visK n y = visS n (T / 256) := by unfold visK trN; rw [hT]; rfl
  have hn2j : n2 ≤ j := by rw [hn2]; exact Nat.le_trans (List.length_filter_le _ _) (by rw [List.length_take]; omega)
  have hkc : CellsAt hL5 b9 (o9 + j * 3) [.int .u64 (T : Int), .string y.suf, .string y.val] := by rw [← hT]; exact hkc
  refine tr_skip ?_
  refine q_thn ?_
  refine tr_seq ?_
  refine tr_block <| rG <| rs_v (v_indexAddrN u_sl_spec_SpanKey siz_spec_SpanKey rfl rfl (by omega)) rfl ?_
  refine rs_v (v_loadAgg (vs := [_, _, _]) many_spec_SpanKey rfl (by exact hkc)) rfl ?_
  refine rs_w (w_new zero_spec_SpanKey) rfl ?_
  rintro _ h7 ⟨rfl, B7, K7, Z7⟩
  have B2 := K7.blk (by simp) B2
  have B3 := K7.blk (by simp) B3
  have O2 := O2.keep2 K7 (fun x hm => by have := hob x hm; simp; try omega)
  have S7 := K.1; have K := K.new0 K7
  refine rs_w0 (w_put siz_spec_SpanKey rfl rfl rfl rfl B7 rfl) ?_
  rintro _ h8 ⟨B8, K8⟩
  have B2 := K8.blk (by simp; omega) B2
  have B3 := K8.blk (by simp; omega) B3
  have O2 := O2.keep2 K8 (fun x hm => by have := hob x hm; simp; try omega)
  have B7 := B8; have K := K.new1 K8 (by first | (right; omega) | (left; simp; done)); have Z8 := K8.1
  refine rN <| rG <| rF fa_spec_SpanKey_0 rfl rfl <| rs_v (v_load one_uint64 rfl (by exact B7.cell _ rfl)) rfl ?_
  refine rM rfl rfl <| rs_w (w_call (vs := [_, _]) ok_spec_SpanKeyVisible rfl ⟨rfl, rfl, trivial⟩ (c_SpanKeyVisible (n := n) (by omega) rfl)) rfl ?_
  rintro _ h9 ⟨rfl, K9⟩
  have B2 := K9.blk (by simp) B2
  have B3 := K9.blk (by simp) B3
  have B7 := K9.blk (by simp) B7
  have O2 := O2.keep2 K9 (fun x hm => by have := hob x hm; simp; try omega)
  have K := K.new0 K9; have Z9 := K9.1
  refine rN ?_
  refine tr_if rfl (fun hif => ?_) (fun hif => ?_)
  · -- yes
    skip
    refine tr_reg ?_
    refine rF fa_spec_Span_2 rfl rfl <| rs_v (v_load one_sl_spec_SpanKey rfl (by exact B3.cell _ rfl)) rfl ?_
    refine rs_v (v_loadAgg (vs := [_, _, _]) many_spec_SpanKey rfl (by exact B7.sub _ 3 rfl)) rfl ?_
    refine rs_w (w_new1 u_sl_spec_SpanKey siz_spec_SpanKey zero_spec_SpanKey rfl rfl rfl rfl rfl) rfl ?_
    rintro _ h10 ⟨rfl, B10, K10, Z10⟩
    have B2 := K10.blk (by simp) B2
    have B3 := K10.blk (by simp) B3
    have B7 := K10.blk (by simp) B7
    have O2 := O2.keep2 K10 (fun x hm => by have := hob x hm; simp; try omega)
    have S10 := K.1; have K := K.new0 K10
    refine rs_w (w_app1 u_sl_spec_SpanKey info_spec_SpanKey rfl rfl rfl O2 rfl rfl B10 rfl (by omega) (by omega) (by omega)) rfl ?_
    rintro v11 h11 ⟨O11, K11, N11, F11⟩
    obtain ⟨a9, c9, rfl⟩ := Own.form3 O11
    have K := K.newX K11 (fun x hm => .inr (by have := hob x hm; omega)); have Z11 := K11.1
    have B2 := K11.blk (fun hm => by first | (have := hob _ hm; omega) | exact absurd rfl (hnb _ hm)) B2
    have B3 := K11.blk (fun hm => by first | (have := hob _ hm; omega) | exact absurd rfl (hnb _ hm)) B3
    have B7 := K11.blk (fun hm => by first | (have := hob _ hm; omega) | exact absurd rfl (hnb _ hm)) B7
    have B10 := K11.blk (fun hm => by first | (have := hob _ hm; omega) | exact absurd rfl (hnb _ hm)) B10
    refine rF fa_spec_Span_2 rfl rfl <| rs_w0 (w_put siz_sl_spec_SpanKey rfl rfl rfl rfl B3 rfl) ?_
    rintro _ h12 ⟨B12, K12⟩
    have B2 := K12.blk (by simp; omega) B2
    have B7 := K12.blk (by simp; omega) B7
    have B10 := K12.blk (by simp; omega) B10
    have B3 := B12; have K := K.new1 K12 (by first | (right; omega) | (left; simp; done)); have Z12 := K12.1
    refine rs_nil ?_
    refine q_blk_n ?_
    refine q_thn ?_
    refine tr_reg ?_
    refine rs_v (v_add rfl rfl (by omega) (by omega)) rfl ?_
    refine rM rfl rfl ?_
    refine rs_nil ?_
    have O11 := O11.keep2 K12 (fun x9 hx9 hm9 => by
      rcases F11 with e | e
      · rw [e] at hx9; have := hob x9 hx9; simp at hm9; omega
      · rw [e] at hx9; simp at hx9 hm9; omega)
    refine q_lp (s.ks.length - (j + 1)) [(1, _), (4, _), (5, _), (14, _), (15, _), (16, _)] (by omega) ⟨rfl, rfl, rfl, rfl, rfl, rfl, trivial⟩ ⟨j + 1, _, n2 + 1, _, by omega, rfl, rfl, K, by omega, B2, B3, ?_, O11, ?_⟩
    · rw [take_snoc' hyk, filter_snoc, if_pos (by rw [hvk]; exact hif), List.length_append, ← hn2]; rfl
    · rw [take_snoc' hyk, filter_snoc, if_pos (by rw [hvk]; exact hif)]
      exact hrow2.snoc rfl (show _ = KeyD.cells y by unfold KeyD.cells; rw [hT]; rfl)
  -- no
  skip
  refine tr_skip <| q_blk_n ?_
  refine q_thn ?_
  refine tr_reg ?_
  refine rs_v (v_add rfl rfl (by omega) (by omega)) rfl ?_
  refine rM rfl rfl ?_
  refine rs_nil ?_
  refine q_lp (s.ks.length - (j + 1)) [(1, _), (4, _), (5, _), (14, _), (15, _), (16, _)] (by omega) ⟨rfl, rfl, rfl, rfl, rfl, rfl, trivial⟩ ⟨j + 1, _, n2, _, by omega, rfl, rfl, K, by omega, B2, B3, ?_, O2, ?_⟩
  · rw [take_snoc' hyk, filter_snoc, if_neg (by rw [hvk, hif]; decide)]; exact hn2
  · rw [take_snoc' hyk, filter_snoc, if_neg (by rw [hvk, hif]; decide)]; exact hrow2
set_option maxHeartbeats 2000000
def covK (W : List SpanD) (a b : ByteArray) : List KeyD := ((W.filter (fun x => sle x.s a && sle b x.e)).map SpanD.ks).flatten
def fragP (B : List ByteArray) (W : List SpanD) (j : Nat) : Option SpanD := if covK W (atB B j) (atB B (j + 1)) = [] then none else some ⟨atB B j, atB B (j + 1), canonF (covK W (atB B j) (atB B (j + 1)))⟩
def fragF (W : List SpanD) : List SpanD := (List.range ((bndF W).length - 1)).filterMap (fragP (bndF W) W)
theorem covK_yes {W : List SpanD} {k : Nat} {x : SpanD} {a b : ByteArray} (hx : W[k]? = some x) (h : (sle x.s a && sle b x.e) = true) : covK (W.take (k + 1)) a b = covK (W.take k) a b ++ x.ks := by
  unfold covK; rw [take_snoc' hx, List.filter_append, List.filter_cons_of_pos (by simpa using h)]; simp
theorem covK_no {W : List SpanD} {k : Nat} {x : SpanD} {a b : ByteArray} (hx : W[k]? = some x) (h : (sle x.s a && sle b x.e) = false) : covK (W.take (k + 1)) a b = covK (W.take k) a b := by
  unfold covK; rw [take_snoc' hx, List.filter_append, List.filter_cons_of_neg (by simp [h])]; simp
theorem range_fm {β : Type} {f : Nat → Option β} {k : Nat} : (List.range (k + 1)).filterMap f = (List.range k).filterMap f ++ (f k).toList := by
  rw [List.range_succ, fm_snoc1]
theorem fragF_len (W : List SpanD) : (fragF W).length ≤ (bndF W).length := by
  unfold fragF
  have := List.length_filterMap_le (fragP (bndF W) W) (List.range ((bndF W).length - 1))
  rw [List.length_range] at this; omega
theorem bndF_len : ∀ W : List SpanD, (bndF W).length ≤ 2 * W.length := by
  intro W
  have : ∀ (W : List SpanD) (l : List ByteArray), (W.foldl (fun l s => addB (addB l s.s) s.e) l).length ≤ l.length + 2 * W.length := by
    intro W
    induction W with
    | nil => intro l; simp
    | cons s W ih =>
      intro l
      rw [List.foldl_cons, List.length_cons]
      have h1 := ih (addB (addB l s.s) s.e)
      have h2 := addB_len (addB l s.s) s.e
      have h3 := addB_len l s.s
      omega
  have := this W []
  simpa [bndF] using this
theorem covK_len {W : List SpanD} {a b : ByteArray} {n : Nat} (h : ∀ s, s ∈ W → s.ks.length ≤ n) : (covK W a b).length ≤ W.length * n := by
  unfold covK
  refine Nat.le_trans (flat_le (n := n) _ fun c hc => ?_) ?_
  · obtain ⟨x, hx, rfl⟩ := List.mem_map.1 hc
    exact h x (List.mem_filter.1 hx).1
  · rw [List.length_map]
    exact Nat.mul_le_mul_right _ (List.length_filter_le _ _)
theorem fragF_mem {W : List SpanD} {s : SpanD} (h : s ∈ fragF W) : ∃ a b, s = ⟨a, b, canonF (covK W a b)⟩ ∧ covK W a b ≠ [] := by
  unfold fragF at h
  obtain ⟨j, _, hj⟩ := List.mem_filterMap.1 h
  unfold fragP at hj
  split at hj
  · cases hj
  · rename_i h2; cases hj; exact ⟨_, _, rfl, h2⟩
theorem keys_row {A : Nat → Prop} {h : Heap} {v : Value} {L : List KeyD} (hL : RKeys A h v L) : ∃ a c news, v = .slice a L.length c ∧ news.length = L.length * 3 ∧ RowsR 3 (fun c k => c = KeyD.cells k) news L ∧ (news = [] ∨ ∃ b o, a = some ⟨b, o, none⟩ ∧ CellsAt h b o news) ∧ ∀ u, u ∈ news → u.oneCell' = true := by
  obtain ⟨_, a, c, e, hx⟩ := SlR.form hL
  have one : ∀ (cs : List Value) (k : KeyD), cs = KeyD.cells k → cs.all (fun u => u.oneCell') = true := fun cs k hc => by subst hc; rfl
  rcases hx with rfl | ⟨b, o, rfl, hAb, hR⟩
  · exact ⟨a, c, [], e, rfl, RowsR.nil _ _, .inl rfl, by simp⟩
  · obtain ⟨news, h1, h2⟩ := rows_of (h := h) (b := b) (o := o) (sz := 3) (R := fun c k => c = KeyD.cells k) (fun i x hi => ⟨_, rfl, hR i x hi, rfl⟩) (by omega)
    exact ⟨_, c, news, e, h2.len, h2, .inr ⟨b, o, rfl, h1⟩, fun u hu => List.all_eq_true.1 (h2.all1 one) u hu⟩
theorem c_SpanFragments (χ : Chi) (h : Heap) (A : Nat → Prop) (hA : Low A h) (v : Value) (W : List SpanD) (hW : RSpans A h v W) (hn : W.length ≤ 100) (hm : ∀ s, s ∈ W → s.ks.length ≤ 1000) :
    Cl Tryz.prog χ 13 #[v] h (fun r h' => RSpans (Up N0 h h') h' r (fragF W) ∧ Keep [] h h') := by
  have hW0 := hW
  obtain ⟨hlen, a, c, rfl, hx⟩ := hW.form
  have hbl := bndF_len W
  refine cl_intro Tryz.func13 rfl rfl rfl ?_
  have K : Keep [] h h := Keep.refl _ _
  refine rG <| rA rfl rfl <| rN <| rG <| rA rfl rfl <| rN <| rG <| rM rfl rfl <| rs_w (w_call (vs := [_]) ok_spec_spanBounds rfl ⟨rfl, trivial⟩ (c_spanBounds χ _ A hA _ W hW0 (by omega))) rfl ?_
  rintro bv h1 ⟨hbs, K1⟩
  obtain ⟨hbl2, ab, cb, rfl, hbx⟩ := hbs.form
  have K := K.new0 K1; have Z1 := K1.1
  refine rA rfl rfl <| rN ?_
  refine tr_seq ?_
  refine rG <| rA rfl rfl <| rN <| tr_block ?_
  refine tr_loop (fun m E h' => ∃ k v n i5, k ≤ (bndF W).length ∧ m = (bndF W).length - k ∧ i5 = ((k + 1 : Nat) : Int) ∧ E = [(0, .slice a W.length c), (3, v), (4, .slice ab (bndF W).length cb), (5, .int .i64 i5)] ∧ Keep [] h h' ∧ Keep [] h1 h' ∧ n = ((List.range k).filterMap (fragP (bndF W) W)).length ∧ n ≤ k ∧ (k = 0 ∨ k + 1 ≤ (bndF W).length) ∧ OutR N0 h h' h1.size 40 3 cSpan v n ((List.range k).filterMap (fragP (bndF W) W))) (bndF W).length [(0, _), (3, _), (4, _), (5, _)] ⟨rfl, rfl, rfl, rfl, trivial⟩ ⟨0, _, 0, _, Nat.zero_le _, rfl, rfl, rfl, K, Keep.refl _ _, rfl, Nat.le_refl _, .inl rfl, OutR.nil _ _ _ _ _ _ _⟩ ?_
  rintro m E hL2 ⟨k, v, n, i5, hk, rfl, hi5, rfl, K, KB, hn, hnk, hk1, hout⟩
  have hout0 := hout
  obtain ⟨xs, F, O, hrow, hF⟩ := hout
  have O0 := O
  have KL0 := K.1
  have KB0 := KB.1
  have hob := own_ne O; have KL := Keep.refl [] hL2
  refine tr_seq ?_
  refine rG <| rM rfl rfl <| rM rfl rfl <| rs_v (v_len u_sl_string rfl) rfl ?_
  refine rs_v (v_lt rfl rfl) rfl ?_
  refine rN ?_
  refine tr_ifn rfl (fun hif => ?_) (fun hif => ?_)
  · -- no
    simp only [dT, dF] at hif
    refine tr_exit <| q_thn_exit ?_
    refine q_lp_exit ?_
    refine q_blk_hit ?_
    refine q_thn ?_
    refine rG <| rM rfl rfl <| rA rfl rfl <| rN <| tr_ret <| q_ret (res_tmp rfl rfl) ?_
    have hkk : (List.range k).filterMap (fragP (bndF W) W) = fragF W := by
      unfold fragF
      congr 2
      omega
    rw [hkk] at hout0 hn
    exact ⟨(hout0.fin cSpan_st hn (by omega) cSpan_r), K⟩
  -- yes
  simp only [dT, dF] at hif
  rcases hbx with hbe | ⟨bb, ob, rfl, hbA, hbR⟩
  · exfalso
    rw [hbe] at hif; simp at hif; omega
  have hkB : k + 1 < (bndF W).length := by omega
  have hbk : cellH hL2 bb (ob + k * 1) = some (.string (atB (bndF W) k)) := (KB.cells (by simp) (CellsAt.one (hbR k _ (atB_get (by omega))))) 0 _ rfl
  have hbk1 : cellH hL2 bb (ob + (k + 1) * 1) = some (.string (atB (bndF W) (k + 1))) := (KB.cells (by simp) (CellsAt.one (hbR (k + 1) _ (atB_get (by omega))))) 0 _ rfl
  refine tr_skip ?_
  refine q_thn ?_
  refine tr_seq ?_
  refine tr_block ?_
  refine tr_seq ?_
  refine tr_draw [(true, 11), (false, 1)] _ (by kernel_rfl) (by kernel_rfl) (by kernel_rfl) ?_
  refine rx_any (Keep []) (keep_pre _) ?_
  refine rm_v (keep_pre _) (fun h' hk => v_move rfl) ?_
  refine rm_v (keep_pre _) (fun h' hk => v_move rfl) ?_
  refine rm_v (keep_pre _) (fun h' hk => v_sub rfl rfl (by omega) (by omega)) ?_
  refine rm_v (keep_pre _) (fun h' hk => v_indexAddrE (i := k) u_sl_string siz_string rfl rfl (by omega) (by omega)) ?_
  refine rm_v (keep_pre _) (fun h' hk => v_load one_string rfl ((hk.cells (by simp) (CellsAt.one hbk)) 0 _ rfl)) ?_
  refine rm_v (keep_pre _) (fun h' hk => v_move rfl) ?_
  refine rm_v (keep_pre _) (fun h' hk => v_move rfl) ?_
  refine rm_v (keep_pre _) (fun h' hk => v_indexAddrE (i := k + 1) u_sl_string siz_string rfl rfl hi5 (by omega)) ?_
  refine rm_v (keep_pre _) (fun h' hk => v_load one_string rfl ((hk.cells (by simp) (CellsAt.one hbk1)) 0 _ rfl)) ?_
  refine rm_v (keep_pre _) (fun h' hk => v_build2 rfl rfl (bld_spec_Span_0_1 _ _)) ?_
  refine rm_w (fun v h' => ∃ g, v = .pointer (some ⟨g, 0, none⟩) ∧ hL2.size ≤ g ∧ Blk h' g [.string .empty, .string .empty, .slice none 0 0] 40) (fun v _ _ k1 k2 hr => by obtain ⟨g, e, hg, B⟩ := hr; exact ⟨g, e, hg, k2.blk (by simp) B⟩) (fun h' hk => OpW.mono (w_new zero_spec_Span) (fun v h'' hv => by obtain ⟨e, B, K', _⟩ := hv; exact ⟨K', _, e, hk.1, B⟩)) ?_
  refine rm_end ?_; intro ha Ka; simp only [endM, hypF, ofE, argE, List.nil_append]
  intro v6 h6
  obtain ⟨g, rfl, hg, B6⟩ := h6
  have KLo := KL.new0 Ka
  have K := K.new0 Ka
  have KB := KB.new0 Ka
  refine rx_seq ?_
  refine rs_w0 (w_put siz_spec_Span rfl rfl rfl rfl B6 rfl) ?_
  rintro _ h3 ⟨B6, K9⟩
  have hz1 := KB.1
  have hz2 := KLo.1
  have hg2 := B6.lt
  have KLo := KLo.newX K9 (fun x hx => .inr (by rw [List.mem_singleton.1 hx]; exact hg))
  have K := K.newX K9 (fun x hx => .inr (by rw [List.mem_singleton.1 hx]; omega))
  have KB := KB.newX K9 (fun x hx => .inr (by rw [List.mem_singleton.1 hx]; omega))
  refine rs_nil ?_
  refine q_con ?_
  refine rx_nil ?_
  refine q_thn ?_
  refine tr_seq ?_
  refine rG <| rM rfl rfl <| rs_v (v_len u_sl_spec_Span rfl) rfl ?_
  refine rM rfl rfl <| rN <| tr_block ?_
  refine tr_loop (fun m E h' => ∃ j kv n2 xs2, j ≤ W.length ∧ m = W.length - j ∧ E = [(0, .slice a W.length c), (3, v), (4, .slice (some ⟨bb, ob, none⟩) (bndF W).length cb), (5, .int .i64 i5), (6, .pointer (some ⟨g, 0, none⟩)), (27, .slice a W.length c), (28, .int .i64 (W.length : Int)), (29, .int .i64 (j : Int))] ∧ Keep [] h h' ∧ Keep [] h1 h' ∧ Keep [] hL2 h' ∧ h3.size ≤ h'.size ∧ Blk h' g [.string (atB (bndF W) k), .string (atB (bndF W) (k + 1)), kv] 40 ∧ n2 = (covK (W.take j) (atB (bndF W) k) (atB (bndF W) (k + 1))).length ∧ n2 ≤ j * 1000 ∧ Own h' h3.size 42 3 kv n2 xs2 ∧ RowsR 3 (fun c k => c = KeyD.cells k) xs2 (covK (W.take j) (atB (bndF W) k) (atB (bndF W) (k + 1)))) W.length [(0, _), (3, _), (4, _), (5, _), (6, _), (27, _), (28, _), (29, _)] ⟨rfl, rfl, rfl, rfl, rfl, rfl, rfl, rfl, trivial⟩ ⟨0, _, 0, [], Nat.zero_le _, rfl, rfl, K, KB, KLo, Nat.le_refl _, B6, by simp [covK], by omega, Own.nil _ _ _ _, by simp [covK]; exact RowsR.nil _ _⟩ ?_
  rintro m E hL4 ⟨j, kv, n2, xs2, hj, rfl, rfl, K, KB, KLo, hz5, B6, hn2, hn2j, O2, hrow2⟩
  have hobO := hob
  obtain ⟨a8, c8, rfl⟩ := Own.form3 O2
  have hb6 := B6.lt
  have hzL := KLo.1
  have hob := own_ne O2; have KL := Keep.refl [] hL4
  refine rG <| rs_v (v_lt rfl rfl) rfl ?_
  refine rN ?_
  refine tr_seq ?_
  refine tr_ifn rfl (fun hif => ?_) (fun hif => ?_)
  · -- no
    simp only [dT, dF] at hif
    have hjj : j = W.length := by omega
    subst hjj
    have hks2 : RKeys (fun b => h3.size ≤ b ∧ b < hL4.size) hL4 (.slice a8 n2 c8) (covK W (atB (bndF W) k) (atB (bndF W) (k + 1))) := by
      rw [List.take_length] at hn2 hrow2
      exact SlR.of_rows2 O2 hn2 hrow2 (fun b hb => own_ne O2 b hb) (fun b o c a hc hr => by subst hr; exact hc)
    have hlo9 : Low (fun b => h3.size ≤ b ∧ b < hL4.size) hL4 := fun b hb => hb.2
    refine tr_exit <| q_thn_exit ?_
    refine q_lp_exit ?_
    refine q_blk_hit ?_
    refine q_thn ?_
    refine rG <| rF fa_spec_Span_2 rfl rfl <| rs_v (v_load one_sl_spec_SpanKey rfl (by exact B6.cell 2 rfl)) rfl ?_
    refine rs_v (v_len u_sl_spec_SpanKey rfl) rfl ?_
    refine rs_v (v_gt rfl rfl) rfl ?_
    refine rN ?_
    refine tr_if rfl (fun hif => ?_) (fun hif => ?_)
    · -- yes
      simp only [dT, dF] at hif
      refine rG <| rF fa_spec_Span_2 rfl rfl <| rs_v (v_load one_sl_spec_SpanKey rfl (by exact B6.cell 2 rfl)) rfl ?_
      refine rs_w (w_call (vs := [_]) ok_spec_SpanCanon rfl ⟨rfl, trivial⟩ (c_SpanCanon χ _ _ hlo9 _ (covK W (atB (bndF W) k) (atB (bndF W) (k + 1))) hks2 (by rw [List.take_length] at hn2; omega))) rfl ?_
      rintro kv5 h5 ⟨hck, K5⟩
      obtain ⟨a7, c7, rfl⟩ := hck.form2
      have Kc := K5
      have B6 := K5.blk (by simp) B6
      try have KLo := KLo.newX K5 (fun x hx => .inr (by first | (simp at hx; done) | (simp at hx; omega) | (have := hob x hx; omega)))
      try have KB := KB.newX K5 (fun x hx => .inr (by first | (simp at hx; done) | (simp at hx; omega) | (have := hob x hx; omega)))
      have O2 := O2.keep2 K5 (fun x hm => by have := hob x hm; simp; try omega)
      have K := K.new0 K5; have Z5 := K5.1
      refine rF fa_spec_Span_2 rfl rfl <| rs_w0 (w_put siz_sl_spec_SpanKey rfl rfl rfl rfl B6 rfl) ?_
      rintro _ h6 ⟨B6, K6⟩
      have hck := hck.stab (K6.stab fun b hb => ⟨hb.elim (fun e => e.elim) And.right, fun hm => by rcases hb with hb | hb; exact hb.elim; rw [List.mem_singleton.1 hm] at hb; omega⟩)
      try have KLo := KLo.newX K6 (fun x hx => .inr (by first | (simp at hx; done) | (simp at hx; omega) | (have := hob x hx; omega)))
      try have KB := KB.newX K6 (fun x hx => .inr (by first | (simp at hx; done) | (simp at hx; omega) | (have := hob x hx; omega)))
      have O2 := O2.keep2 K6 (fun x hm => by have := hob x hm; simp; try omega)
      have B6 := B6; have K := K.new1 K6 (by first | (right; omega) | (left; simp; done)); have Z6 := K6.1
      refine rN ?_
      refine tr_reg ?_
      refine rM rfl rfl <| rs_v (v_loadAgg (vs := [_, _, _]) many_spec_Span rfl (by exact B6.sub 0 3 rfl)) rfl ?_
      refine rs_w (w_new1 u_sl_spec_Span siz_spec_Span zero_spec_Span rfl rfl rfl rfl rfl) rfl ?_
      rintro _ h7 ⟨rfl, B7, K7, Z7⟩
      have B6 := K7.blk (by simp) B6
      try have KLo := KLo.newX K7 (fun x hx => .inr (by first | (simp at hx; done) | (simp at hx; omega) | (have := hob x hx; omega)))
      try have KB := KB.newX K7 (fun x hx => .inr (by first | (simp at hx; done) | (simp at hx; omega) | (have := hob x hx; omega)))
      have O2 := O2.keep2 K7 (fun x hm => by have := hob x hm; simp; try omega)
      have S7 := K.1; have K := K.new0 K7
      refine rs_w (w_app1 u_sl_spec_Span info_spec_Span rfl rfl rfl (O0.keep2 KLo (by simp)) rfl rfl B7 rfl (by omega) (by omega) (by omega)) rfl ?_
      rintro v8 h8 ⟨O8, K8, N8, F8⟩
      have O8 := O8; have K8 := K8; have F8 := F8
      have KL7 := KLo
      have hobI := hob
      have hob := hobO
      have K := K.newX K8 (fun x hm => .inr (by have := hobO x hm; omega)); have Z8 := K8.1
      have B6 := K8.blk (fun hm => by first | (have := hob _ hm; omega) | exact absurd rfl (hnb _ hm)) B6
      have B7 := K8.blk (fun hm => by first | (have := hob _ hm; omega) | exact absurd rfl (hnb _ hm)) B7
      try have KLo := KLo.newX K8 (fun x hx => .inr (by first | (simp at hx; done) | (simp at hx; omega) | (have := hob x hx; omega)))
      try have KB := KB.newX K8 (fun x hx => .inr (by first | (simp at hx; done) | (simp at hx; omega) | (have := hob x hx; omega)))
      refine rA rfl rfl ?_
      refine rs_nil ?_
      refine q_blk_n ?_
      refine q_thn ?_
      refine tr_reg ?_
      refine rM rfl rfl <| rs_v (v_add rfl rfl (by omega) (by omega)) rfl ?_
      refine rA rfl rfl ?_
      refine rs_nil ?_
      have hne : covK W (atB (bndF W) k) (atB (bndF W) (k + 1)) ≠ [] := fun e => by rw [List.take_length, e] at hn2; simp at hn2; omega
      have hfp : fragP (bndF W) W k = some ⟨(atB (bndF W) k), (atB (bndF W) (k + 1)), canonF (covK W (atB (bndF W) k) (atB (bndF W) (k + 1)))⟩ := if_neg hne
      refine q_lp ((bndF W).length - (k + 1)) [(0, _), (3, _), (4, _), (5, _)] (by omega) ⟨rfl, rfl, rfl, rfl, trivial⟩ ⟨k + 1, _, n + 1, _, by omega, rfl, (by rw [hi5]; omega : _ = ((k + 1 + 1 : Nat) : Int)), rfl, K, KB, ?_, by omega, .inr (by omega), ?_⟩
      · rw [range_fm, hfp, List.length_append, ← hn]; rfl
      · rw [range_fm, hfp]
        exact OutR.snoc cSpan_st (n0low h) (by omega) hobO hrow hF KL0 KL7 O8 K8 F8 rfl (⟨_, rfl, (hck.stab (K7.stab fun b hb => ⟨hb.elim (fun e => e.elim) (fun e => Nat.lt_of_lt_of_le e.2 K6.1), by simp⟩)).mono (fun b hb => hb.elim .inl (fun e => .inr ⟨by omega, by have := K6.1; have := K7.1; omega⟩))⟩)
    -- no
    simp only [dT, dF] at hif
    refine tr_skip <| q_blk_n ?_
    refine q_thn ?_
    refine tr_reg ?_
    refine rM rfl rfl <| rs_v (v_add rfl rfl (by omega) (by omega)) rfl ?_
    refine rA rfl rfl ?_
    refine rs_nil ?_
    have he : covK W (atB (bndF W) k) (atB (bndF W) (k + 1)) = [] := List.eq_nil_of_length_eq_zero (by rw [List.take_length] at hn2; omega)
    have hfp : fragP (bndF W) W k = none := if_pos he
    refine q_lp ((bndF W).length - (k + 1)) [(0, _), (3, _), (4, _), (5, _)] (by omega) ⟨rfl, rfl, rfl, rfl, trivial⟩ ⟨k + 1, _, n, _, by omega, rfl, (by rw [hi5]; omega : _ = ((k + 1 + 1 : Nat) : Int)), rfl, K, KB, ?_, by omega, .inr (by omega), ?_⟩
    · rw [range_fm, hfp, Option.toList_none, List.append_nil]; exact hn
    · rw [range_fm, hfp, Option.toList_none, List.append_nil]
      exact hout0.keep cSpan_st KLo
  -- yes
  simp only [dT, dF] at hif
  rcases hx with rfl | ⟨b, o, rfl, hAb, hR⟩
  · simp at hif; omega
  obtain ⟨x, hsk⟩ := ex_get (L := W) (k := j) (by omega)
  have hjl : j < W.length := (List.getElem?_eq_some_iff.1 hsk).1
  obtain ⟨kv9, hcc, hkx⟩ := hR j x hsk
  have hks9 := hkx.stab (K.st hA)
  obtain ⟨ka, kc, news, rfl, hnl, hnr, hnc, hn1⟩ := keys_row hks9
  have hcells := K.cells (by simp) hcc
  have hkl := hm x (List.mem_of_getElem? hsk)
  refine tr_skip ?_
  refine q_thn ?_
  refine tr_seq ?_
  refine tr_block <| rG <| rs_v (v_indexAddrN u_sl_spec_Span siz_spec_Span rfl rfl (by omega)) rfl ?_
  refine rs_v (v_loadAgg (vs := [_, _, _]) many_spec_Span rfl (by exact hcells)) rfl ?_
  refine rs_w (w_new zero_spec_Span) rfl ?_
  rintro _ h9 ⟨rfl, B9, K9, Z9⟩
  have B6 := K9.blk (by simp) B6
  try have KLo := KLo.newX K9 (fun x hx => .inr (by first | (simp at hx; done) | (simp at hx; omega) | (have := hob x hx; omega)))
  try have KB := KB.newX K9 (fun x hx => .inr (by first | (simp at hx; done) | (simp at hx; omega) | (have := hob x hx; omega)))
  have O2 := O2.keep2 K9 (fun x hm => by have := hob x hm; simp; try omega)
  have S9 := K.1; have K := K.new0 K9
  refine rs_w0 (w_put siz_spec_Span rfl rfl rfl rfl B9 rfl) ?_
  rintro _ h10 ⟨B10, K10⟩
  have B6 := K10.blk (by simp; omega) B6
  try have KLo := KLo.newX K10 (fun x hx => .inr (by first | (simp at hx; done) | (simp at hx; omega) | (have := hob x hx; omega)))
  try have KB := KB.newX K10 (fun x hx => .inr (by first | (simp at hx; done) | (simp at hx; omega) | (have := hob x hx; omega)))
  have O2 := O2.keep2 K10 (fun x hm => by have := hob x hm; simp; try omega)
  have B9 := B10; have K := K.new1 K10 (by first | (right; omega) | (left; simp; done)); have Z10 := K10.1
  refine rN ?_
  refine tr_cut (fun E h' => h10 = h' ∧ E = [(0, .slice (some ⟨b, o, none⟩) W.length c), (3, v), (4, .slice (some ⟨bb, ob, none⟩) (bndF W).length cb), (5, .int .i64 i5), (6, .pointer (some ⟨g, 0, none⟩)), (27, .slice (some ⟨b, o, none⟩) W.length c), (28, .int .i64 (W.length : Int)), (29, .int .i64 (j : Int)), (8, .pointer (some ⟨hL4.size, 0, none⟩)), (44, .bool (sle x.s (atB (bndF W) k) && sle (atB (bndF W) (k + 1)) x.e))]) ?_ ?_
  ·
    rcases Bool.eq_false_or_eq_true (sle x.s (atB (bndF W) k)) with g0 | g0
    · skip
      refine tr_reg ?_
      refine rF fa_spec_Span_0 rfl rfl <| rs_v (v_load one_string rfl (by exact B9.cell 0 rfl)) rfl ?_
      refine rF fa_spec_Span_0 rfl rfl <| rs_v (v_load one_string rfl (by exact B6.cell 0 rfl)) rfl ?_
      refine rs_v (v_sle rfl rfl) rfl ?_
      refine rM rfl rfl <| rs_gv rfl (lkb g0) (v_fieldAddr fa_spec_Span_1 rfl) rfl ?_
      refine rs_gv rfl (lkb g0) (v_load one_string rfl (by exact B6.cell 1 rfl)) rfl ?_
      refine rs_gv rfl (lkb g0) (v_fieldAddr fa_spec_Span_1 rfl) rfl ?_
      refine rs_gv rfl (lkb g0) (v_load one_string rfl (by exact B9.cell 1 rfl)) rfl ?_
      refine rs_gv rfl (lkb g0) (v_sle rfl rfl) rfl ?_
      refine rs_v (v_pick_t (lkb g0) rfl) rfl ?_
      refine rs_nil ?_
      refine q_cut [(0, _), (3, _), (4, _), (5, _), (6, _), (27, _), (28, _), (29, _), (8, _), (44, _)] ⟨rfl, rfl, rfl, rfl, rfl, rfl, rfl, rfl, rfl, rfl, trivial⟩ ⟨rfl, ?_⟩
      rw [show (sle x.s (atB (bndF W) k) && sle (atB (bndF W) (k + 1)) x.e) = sle (atB (bndF W) (k + 1)) x.e from by simp only [g0, Bool.true_and, Bool.false_and]]
    · skip
      refine tr_reg ?_
      refine rF fa_spec_Span_0 rfl rfl <| rs_v (v_load one_string rfl (by exact B9.cell 0 rfl)) rfl ?_
      refine rF fa_spec_Span_0 rfl rfl <| rs_v (v_load one_string rfl (by exact B6.cell 0 rfl)) rfl ?_
      refine rs_v (v_sle rfl rfl) rfl ?_
      refine rM rfl rfl <| rs_gs rfl (lkb g0) rfl rfl <| rs_gs rfl (lkb g0) rfl rfl <| rs_gs rfl (lkb g0) rfl rfl <| rs_gs rfl (lkb g0) rfl rfl <| rs_gs rfl (lkb g0) rfl rfl <| rs_v (v_pick_f (lkb g0) rfl) rfl ?_
      refine rs_nil ?_
      refine q_cut [(0, _), (3, _), (4, _), (5, _), (6, _), (27, _), (28, _), (29, _), (8, _), (44, _)] ⟨rfl, rfl, rfl, rfl, rfl, rfl, rfl, rfl, rfl, rfl, trivial⟩ ⟨rfl, ?_⟩
      rw [show (sle x.s (atB (bndF W) k) && sle (atB (bndF W) (k + 1)) x.e) = false from by simp only [g0, Bool.true_and, Bool.false_and]]
  rintro E h99 ⟨hh, rfl⟩
  subst hh
  refine tr_if rfl (fun hif => ?_) (fun hif => ?_)
  · -- yes
    skip
    refine tr_reg ?_
    refine rF fa_spec_Span_2 rfl rfl <| rs_v (v_load one_sl_spec_SpanKey rfl (by exact B6.cell 2 rfl)) rfl ?_
    refine rF fa_spec_Span_2 rfl rfl <| rs_v (v_load one_sl_spec_SpanKey rfl (by exact B9.cell 2 rfl)) rfl ?_
    refine rs_w (w_appS (news := news) u_sl_spec_SpanKey info_spec_SpanKey rfl rfl rfl O2 rfl hnl (hnc.imp id (fun ⟨b, o, e, hc⟩ => ⟨b, o, e, (K9.newX K10 (fun x hx => .inr (by rw [List.mem_singleton.1 hx]; omega))).cells (by simp) hc⟩)) hn1 (by omega) (by omega) (by omega)) rfl ?_
    rintro v12 h12 ⟨O12, K12, F12⟩
    obtain ⟨a9, c9, rfl⟩ := Own.form3 O12
    have Oz := O12
    have Fz := F12
    have K := K.newX K12 (fun x hm => .inr (by have := hob x hm; omega)); have Z12 := K12.1
    have B6 := K12.blk (fun hm => by first | (have := hob _ hm; omega) | exact absurd rfl (hnb _ hm)) B6
    have B9 := K12.blk (fun hm => by first | (have := hob _ hm; omega) | exact absurd rfl (hnb _ hm)) B9
    try have KLo := KLo.newX K12 (fun x hx => .inr (by first | (simp at hx; done) | (simp at hx; omega) | (have := hob x hx; omega)))
    try have KB := KB.newX K12 (fun x hx => .inr (by first | (simp at hx; done) | (simp at hx; omega) | (have := hob x hx; omega)))
    refine rF fa_spec_Span_2 rfl rfl <| rs_w0 (w_put siz_sl_spec_SpanKey rfl rfl rfl rfl B6 rfl) ?_
    rintro _ h13 ⟨B13, K13⟩
    have Oz := Oz.keep2 K13 (fun x9 hx9 hm9 => by
      rcases Fz with e | e
      · rw [e] at hx9; have := hob x9 hx9; simp at hm9; omega
      · rw [e] at hx9; simp at hx9 hm9; omega)
    have B9 := K13.blk (by simp; omega) B9
    try have KLo := KLo.newX K13 (fun x hx => .inr (by first | (simp at hx; done) | (simp at hx; omega) | (have := hob x hx; omega)))
    try have KB := KB.newX K13 (fun x hx => .inr (by first | (simp at hx; done) | (simp at hx; omega) | (have := hob x hx; omega)))
    have B6 := B13; have K := K.new1 K13 (by first | (right; omega) | (left; simp; done)); have Z13 := K13.1
    refine rs_nil ?_
    refine q_blk_n ?_
    refine q_thn ?_
    refine tr_reg ?_
    refine rs_v (v_add rfl rfl (by omega) (by omega)) rfl ?_
    refine rM rfl rfl ?_
    refine rs_nil ?_
    refine q_lp (W.length - (j + 1)) [(0, _), (3, _), (4, _), (5, _), (6, _), (27, _), (28, _), (29, _)] (by omega) ⟨rfl, rfl, rfl, rfl, rfl, rfl, rfl, rfl, trivial⟩ ⟨j + 1, _, n2 + x.ks.length, _, by omega, rfl, rfl, K, KB, KLo, by omega, B6, ?_, by omega, Oz, ?_⟩
    · rw [covK_yes hsk hif, List.length_append, ← hn2]
    · rw [covK_yes hsk hif]
      exact RowsR.app hrow2 hnr
  -- no
  skip
  refine tr_skip <| q_blk_n ?_
  refine q_thn ?_
  refine tr_reg ?_
  refine rs_v (v_add rfl rfl (by omega) (by omega)) rfl ?_
  refine rM rfl rfl ?_
  refine rs_nil ?_
  refine q_lp (W.length - (j + 1)) [(0, _), (3, _), (4, _), (5, _), (6, _), (27, _), (28, _), (29, _)] (by omega) ⟨rfl, rfl, rfl, rfl, rfl, rfl, rfl, rfl, trivial⟩ ⟨j + 1, _, n2, _, by omega, rfl, rfl, K, KB, KLo, by omega, B6, ?_, by omega, O2, ?_⟩
  · rw [covK_no hsk hif]; exact hn2
  · rw [covK_no hsk hif]; exact hrow2
set_option maxHeartbeats 1000000
def fit3 (l : List (List SpanD)) : Bool := decide (l.length ≤ MX) && l.all fit4
def levB (ws : List (List SpanD)) (n : Int) : Bool := ws.all (fun W => mostB W n && wellB W) && decide ((ws.length : Int) ≤ 6)
def mergF (ws : List (List SpanD)) (n : Nat) : List SpanD := (fragF ws.flatten).map (visSp n)
theorem RLevels.kk {h h' : Heap} {v : Value} {W : List (List SpanD)} (hr : RLevels (All h) h v W) (K : Keep [] h h') : RLevels (All h') h' v W := (RLevels.stab hr (all_st K)).mono (all_up K)
theorem all_false {α : Type} {L : List α} {k : Nat} {x : α} {f : α → Bool} (h : L[k]? = some x) (hf : f x = false) : L.all f = false := by
  rw [List.all_eq_false]
  exact ⟨x, List.mem_of_getElem? h, by rw [hf]; decide⟩
theorem take_all' {α : Type} {L : List α} {k : Nat} {x : α} {f : α → Bool} (h : L[k]? = some x) : (L.take (k + 1)).all f = ((L.take k).all f && f x) := by rw [take_snoc' h, List.all_append]; simp
theorem c_zzFits3 (χ : Chi) (h : Heap) (A : Nat → Prop) (hA : Low A h) (v : Value) (ws : List (List SpanD)) (hW : RLevels A h v ws) :
    Cl Tryz.prog χ 11 #[v] h (fun r h' => r = .bool (fit3 ws) ∧ Keep [] h h') := by
  obtain ⟨hlen, a, c, rfl, hx⟩ := hW.form
  refine cl_intro Tryz.func11 rfl rfl rfl ?_
  have K : Keep [] h h := Keep.refl _ _
  refine rG <| rA rfl rfl <| rN ?_
  refine tr_seq ?_
  refine rG <| rM rfl rfl <| rs_v (v_len u_sl_sl_spec_Span rfl) rfl ?_
  refine rs_v (v_gt rfl rfl) rfl ?_
  refine rN ?_
  refine tr_if rfl (fun hif => ?_) (fun hif => ?_)
  · -- yes
    simp only [dT, dF] at hif
    refine rG <| rA rfl rfl <| rN <| tr_ret <| q_thn_ret <| q_ret (res_tmp rfl rfl) ?_
    refine ⟨?_, K⟩
    simp only [fit3, ofNat_gt hif, Bool.false_and]
  -- no
  simp only [dT, dF] at hif
  have hmx := ofNat_le hif
  clear hif
  refine tr_skip ?_
  refine q_thn ?_
  refine tr_seq ?_
  refine rG <| rM rfl rfl <| rs_v (v_len u_sl_sl_spec_Span rfl) rfl ?_
  refine rM rfl rfl <| rN <| tr_block ?_
  refine tr_loop (fun m E h' => ∃ k, k ≤ ws.length ∧ m = ws.length - k ∧ E = [(8, .slice a ws.length c), (9, .int .i64 (ws.length : Int)), (10, .int .i64 (k : Int))] ∧ Keep [] h h' ∧ (ws.take k).all fit4 = true) ws.length [(8, _), (9, _), (10, _)] ⟨rfl, rfl, rfl, trivial⟩ ⟨0, Nat.zero_le _, rfl, rfl, K, rfl⟩ ?_
  rintro m E hL1 ⟨k, hk, rfl, rfl, K, hall⟩
  refine rG <| rs_v (v_lt rfl rfl) rfl ?_
  refine rN ?_
  refine tr_seq ?_
  refine tr_ifn rfl (fun hif => ?_) (fun hif => ?_)
  · -- no
    simp only [dT, dF] at hif
    have hkk : k = ws.length := by omega
    subst hkk
    refine tr_exit <| q_thn_exit ?_
    refine q_lp_exit ?_
    refine q_blk_hit ?_
    refine q_thn ?_
    refine rG <| rA rfl rfl <| rN <| tr_ret <| q_ret (res_tmp rfl rfl) ?_
    refine ⟨?_, K⟩
    rw [List.take_length] at hall
    simp only [fit3, hall, hmx, Bool.true_and]
  -- yes
  simp only [dT, dF] at hif
  rcases hx with rfl | ⟨b, o, rfl, hAb, hR⟩
  · simp at hif; omega
  obtain ⟨W, hsk⟩ := ex_get (L := ws) (k := k) (by omega)
  obtain ⟨kv, hcc, hkx⟩ := hR k W hsk
  obtain ⟨ka, kc, rfl⟩ := SlR.form2 hkx
  have hcells := K.cells (by simp) hcc
  have hWS := hkx.stab (K.st hA)
  refine tr_skip ?_
  refine q_thn ?_
  refine tr_seq ?_
  refine tr_block <| rG <| rs_v (v_indexAddrN u_sl_sl_spec_Span siz_sl_spec_Span rfl rfl (by omega)) rfl ?_
  refine rs_v (v_load one_sl_spec_Span rfl (by exact hcells 0 _ rfl)) rfl ?_
  refine rA rfl rfl <| rN <| rG <| rM rfl rfl <| rs_w (w_call (vs := [_]) ok_laws_zzFits4 rfl ⟨rfl, trivial⟩ (c_zzFits4 χ _ A (hA.mono K.1) _ W hWS)) rfl ?_
  rintro _ h2 ⟨rfl, K2⟩
  have K := K.new0 K2; have Z2 := K2.1
  refine rs_v (v_not rfl) rfl ?_
  refine rN ?_
  refine tr_if rfl (fun hif => ?_) (fun hif => ?_)
  · -- yes
    have hf : fit4 W = false := by simpa using hif
    refine rG <| rA rfl rfl <| rN <| tr_ret <| q_blk_ret <| q_thn_ret ?_
    refine q_lp_ret ?_
    refine q_blk_ret <| q_thn_ret <| q_ret (res_tmp rfl rfl) ?_
    refine ⟨?_, K⟩
    simp only [fit3, all_false hsk hf, Bool.and_false]
  -- no
  have hf : fit4 W = true := by simpa using hif
  refine tr_skip <| q_blk_n ?_
  refine q_thn ?_
  refine tr_reg ?_
  refine rs_v (v_add rfl rfl (by omega) (by omega)) rfl ?_
  refine rM rfl rfl ?_
  refine rs_nil ?_
  refine q_lp (ws.length - (k + 1)) [(8, _), (9, _), (10, _)] (by omega) ⟨rfl, rfl, rfl, trivial⟩ ⟨k + 1, by omega, rfl, rfl, K, ?_⟩
  rw [take_all' hsk, hall, hf]
  rfl
theorem c_spanLevels (χ : Chi) (h : Heap) (A : Nat → Prop) (hA : Low A h) (v : Value) (ws : List (List SpanD)) (n : Int) (hW : RLevels A h v ws) :
    Cl Tryz.prog χ 12 #[v, .int .i64 n] h (fun r h' => r = .bool (levB ws n) ∧ Keep [] h h') := by
  obtain ⟨hlen, a, c, rfl, hx⟩ := hW.form
  refine cl_intro Tryz.func12 rfl rfl rfl ?_
  have K : Keep [] h h := Keep.refl _ _
  refine rG <| rA rfl rfl <| rN ?_
  refine tr_seq ?_
  refine rG <| rM rfl rfl <| rs_v (v_len u_sl_sl_spec_Span rfl) rfl ?_
  refine rM rfl rfl <| rN <| tr_block ?_
  refine tr_loop (fun m E h' => ∃ k, k ≤ ws.length ∧ m = ws.length - k ∧ E = [(0, .slice a ws.length c), (1, .int .i64 n), (7, .slice a ws.length c), (8, .int .i64 (ws.length : Int)), (9, .int .i64 (k : Int))] ∧ Keep [] h h' ∧ (ws.take k).all (fun W => mostB W n && wellB W) = true) ws.length [(0, _), (1, _), (7, _), (8, _), (9, _)] ⟨rfl, rfl, rfl, rfl, rfl, trivial⟩ ⟨0, Nat.zero_le _, rfl, rfl, K, rfl⟩ ?_
  rintro m E hL1 ⟨k, hk, rfl, rfl, K, hall⟩
  refine rG <| rs_v (v_lt rfl rfl) rfl ?_
  refine rN ?_
  refine tr_seq ?_
  refine tr_ifn rfl (fun hif => ?_) (fun hif => ?_)
  · -- no
    simp only [dT, dF] at hif
    have hkk : k = ws.length := by omega
    subst hkk
    refine tr_exit <| q_thn_exit ?_
    refine q_lp_exit ?_
    refine q_blk_hit ?_
    refine q_thn ?_
    refine rG <| rM rfl rfl <| rs_v (v_len u_sl_sl_spec_Span rfl) rfl ?_
    refine rs_v (v_le rfl rfl) rfl ?_
    refine rA rfl rfl <| rN <| tr_ret <| q_ret (res_tmp rfl rfl) ?_
    refine ⟨?_, K⟩
    rw [List.take_length] at hall
    simp only [levB, hall, Bool.true_and]
  -- yes
  simp only [dT, dF] at hif
  rcases hx with rfl | ⟨b, o, rfl, hAb, hR⟩
  · simp at hif; omega
  obtain ⟨W, hsk⟩ := ex_get (L := ws) (k := k) (by omega)
  obtain ⟨kv, hcc, hkx⟩ := hR k W hsk
  obtain ⟨ka, kc, rfl⟩ := SlR.form2 hkx
  have hcells := K.cells (by simp) hcc
  have hWS := hkx.stab (K.st hA)
  refine tr_skip ?_
  refine q_thn ?_
  refine tr_seq ?_
  refine tr_block <| rG <| rs_v (v_indexAddrN u_sl_sl_spec_Span siz_sl_spec_Span rfl rfl (by omega)) rfl ?_
  refine rs_v (v_load one_sl_spec_Span rfl (by exact hcells 0 _ rfl)) rfl ?_
  refine rA rfl rfl <| rN <| rG <| rM rfl rfl <| rM rfl rfl <| rs_w (w_call (vs := [_, _]) ok_laws_spanWell rfl ⟨rfl, rfl, trivial⟩ (c_spanWell χ _ A (hA.mono K.1) _ W n hWS)) rfl ?_
  rintro _ h2 ⟨rfl, K2⟩
  have K := K.new0 K2; have Z2 := K2.1
  refine rs_v (v_not rfl) rfl ?_
  refine rN ?_
  refine tr_if rfl (fun hif => ?_) (fun hif => ?_)
  · -- yes
    rw [Bool.not_eq_true'] at hif
    have hf := hif
    refine rG <| rA rfl rfl <| rN <| tr_ret <| q_blk_ret <| q_thn_ret ?_
    refine q_lp_ret ?_
    refine q_blk_ret <| q_thn_ret <| q_ret (res_tmp rfl rfl) ?_
    refine ⟨?_, K⟩
    simp only [levB, all_false (f := fun W => mostB W n && wellB W) hsk hf, Bool.false_and]
  -- no
  rw [Bool.not_eq_false'] at hif
  have hf := hif
  refine tr_skip <| q_blk_n ?_
  refine q_thn ?_
  refine tr_reg ?_
  refine rs_v (v_add rfl rfl (by omega) (by omega)) rfl ?_
  refine rM rfl rfl ?_
  refine rs_nil ?_
  refine q_lp (ws.length - (k + 1)) [(0, _), (1, _), (7, _), (8, _), (9, _)] (by omega) ⟨rfl, rfl, rfl, rfl, rfl, trivial⟩ ⟨k + 1, by omega, rfl, rfl, K, ?_⟩
  rw [take_all' hsk, hall, hf]
  rfl
theorem c_toLevels (χ : Chi) (h : Heap) (A : Nat → Prop) (hA : Low A h) (v : Value) (ws : List (List SpanD)) (hW : RLevels A h v ws) (hn : ws.length ≤ 100) (hl : ∀ W, W ∈ ws → W.length ≤ 100000) (hm : ∀ W, W ∈ ws → ∀ s, s ∈ W → s.ks.length ≤ 100000) :
    Cl Tryz.prog χ 16 #[v] h (fun r h' => RLevels (Up A h h') h' r ws ∧ Keep [] h h') := by
  obtain ⟨hlen, a, c, rfl, hx⟩ := hW.form
  refine cl_intro Tryz.func16 rfl rfl rfl ?_
  have K : Keep [] h h := Keep.refl _ _
  refine rG <| rA rfl rfl <| rN <| rG <| rA rfl rfl <| rN ?_
  refine tr_seq ?_
  refine rG <| rM rfl rfl <| rs_v (v_len u_sl_sl_spec_Span rfl) rfl ?_
  refine rM rfl rfl <| rN <| tr_block ?_
  refine tr_loop (fun m E h' => ∃ k v n, k ≤ ws.length ∧ m = ws.length - k ∧ E = [(3, v), (6, .slice a ws.length c), (7, .int .i64 (ws.length : Int)), (8, .int .i64 (k : Int))] ∧ Keep [] h h' ∧ n = (ws.take k).length ∧ OutR A h h' h.size 29 1 cLevel v n (ws.take k)) ws.length [(3, _), (6, _), (7, _), (8, _)] ⟨rfl, rfl, rfl, rfl, trivial⟩ ⟨0, _, 0, Nat.zero_le _, rfl, rfl, K, rfl, OutR.nil _ _ _ _ _ _ _⟩ ?_
  rintro m E hL1 ⟨k, v, n, hk, rfl, rfl, K, hn2, hout⟩
  have hout0 := hout
  obtain ⟨xs, F, O, hrow, hF⟩ := hout
  have hob := own_ne O; have KL := Keep.refl [] hL1
  refine rG <| rs_v (v_lt rfl rfl) rfl ?_
  refine rN ?_
  refine tr_seq ?_
  refine tr_ifn rfl (fun hif => ?_) (fun hif => ?_)
  · -- no
    simp only [dT, dF] at hif
    have hkk : k = ws.length := by omega
    subst hkk
    refine tr_exit <| q_thn_exit ?_
    refine q_lp_exit ?_
    refine q_blk_hit ?_
    refine q_thn ?_
    refine rG <| rM rfl rfl <| rA rfl rfl <| rN <| tr_ret <| q_ret (res_tmp rfl rfl) ?_
    rw [List.take_length] at hout0 hn2
    exact ⟨hout0.fin cLevel_st hn2 (Nat.le_refl _) cLevel_r, K⟩
  -- yes
  simp only [dT, dF] at hif
  rcases hx with rfl | ⟨b, o, rfl, hAb, hR⟩
  · simp at hif; omega
  obtain ⟨W, hsk⟩ := ex_get (L := ws) (k := k) (by omega)
  obtain ⟨kv, hcc, hkx⟩ := hR k W hsk
  obtain ⟨ka, kc, rfl⟩ := SlR.form2 hkx
  have hcells := K.cells (by simp) hcc
  have hWS := hkx.stab (K.st hA)
  have KL0 := K.1
  have hnk : n = k := by rw [hn2, List.length_take]; omega
  have hWm := List.mem_of_getElem? hsk
  refine tr_skip ?_
  refine q_thn ?_
  refine tr_seq ?_
  refine tr_block <| rG <| rs_v (v_indexAddrN u_sl_sl_spec_Span siz_sl_spec_Span rfl rfl (by omega)) rfl ?_
  refine rs_v (v_load one_sl_spec_Span rfl (by exact hcells 0 _ rfl)) rfl ?_
  refine rA rfl rfl <| rN ?_
  refine tr_reg ?_
  refine rM rfl rfl <| rM rfl rfl <| rs_w (w_call (vs := [_]) ok_laws_toSpans rfl ⟨rfl, trivial⟩ (c_toSpans χ _ A (hA.mono K.1) _ W hWS (hl W hWm) (hm W hWm))) rfl ?_
  rintro w2 h2 ⟨hw, K2⟩
  obtain ⟨aw, cw, rfl⟩ := SlR.form2 hw
  have O := O.keep2 K2 (fun x hm => by have := hob x hm; simp; try omega)
  have K := K.new0 K2; have Z2 := K2.1; have KL := KL.new0 K2
  refine rs_w (w_new1 u_sl_sl_impl_Span siz_sl_impl_Span zero_sl_impl_Span rfl rfl rfl rfl rfl) rfl ?_
  rintro _ h3 ⟨rfl, B3, K3, Z3⟩
  have O := O.keep2 K3 (fun x hm => by have := hob x hm; simp; try omega)
  have S3 := K.1; have K := K.new0 K3; have KL := KL.new0 K3
  refine rs_w (w_app1 u_sl_sl_impl_Span info_sl_impl_Span rfl rfl rfl O rfl rfl B3 rfl (by omega) (by omega) (by omega)) rfl ?_
  rintro v4 h4 ⟨O4, K4, N4, F4⟩
  have K := K.newX K4 (fun x hm => .inr (by have := hob x hm; omega)); have Z4 := K4.1
  have B3 := K4.blk (fun hm => by first | (have := hob _ hm; omega) | exact absurd rfl (hnb _ hm)) B3
  refine rA rfl rfl ?_
  refine rs_nil ?_
  refine q_blk_n ?_
  refine q_thn ?_
  refine tr_reg ?_
  refine rs_v (v_add rfl rfl (by omega) (by omega)) rfl ?_
  refine rM rfl rfl ?_
  refine rs_nil ?_
  refine q_lp (ws.length - (k + 1)) [(3, _), (6, _), (7, _), (8, _)] (by omega) ⟨rfl, rfl, rfl, rfl, trivial⟩ ⟨k + 1, v4, n + 1, by omega, rfl, rfl, K, ?_, ?_⟩
  · rw [take_snoc' hsk]; rw [List.length_append, ← hn2]; rfl
  · rw [take_snoc' hsk]
    exact OutR.snoc cLevel_st hA (by omega) hob hrow hF KL0 KL O4 K4 F4 rfl (⟨_, rfl, (RSpans.stab hw (K3.st ((hA.mono (by omega)).up K2.1))).mono (Up.trans2 (by omega) K3.1)⟩)
theorem c_specSpanMerged (χ : Chi) (h : Heap) (A : Nat → Prop) (hA : Low A h) (v : Value) (ws : List (List SpanD)) (G : List SpanD) (hG : fragF ws.flatten = G) (n : Nat) (hW : RLevels A h v ws) (hn : ws.length ≤ 10) (hf : ws.flatten.length ≤ 100) (hl : ∀ W, W ∈ ws → W.length ≤ 1000) (hk : ∀ W, W ∈ ws → ∀ s, s ∈ W → s.ks.length ≤ 1000) (htr : ∀ W, W ∈ ws → ∀ s, s ∈ W → ∀ k, k ∈ s.ks → 0 ≤ k.tr ∧ k.tr < 18446744073709551616) :
    Cl Tryz.prog χ 20 #[v, .int .u64 (n : Int)] h (fun r h' => RSpans (Up N0 h h') h' r (G.map (visSp n)) ∧ Keep [] h h') := by
  have hW0 := hW
  have htr2 : ∀ s, s ∈ G → ∀ k, k ∈ s.ks → 0 ≤ k.tr ∧ k.tr < 18446744073709551616 := fun s hs k hk => by
    rw [← hG] at hs
    obtain ⟨a9, b9, rfl, _⟩ := fragF_mem hs
    have h1 := canonF_sub hk
    unfold covK at h1
    obtain ⟨c, hc, hk2⟩ := List.mem_flatten.1 h1
    obtain ⟨x, hx, rfl⟩ := List.mem_map.1 hc
    obtain ⟨W, hW9, hx2⟩ := List.mem_flatten.1 (List.mem_filter.1 hx).1
    exact htr W hW9 x hx2 k hk2
  have hlk : ∀ s, s ∈ G → s.ks.length ≤ 100000 := fun s hs => by
    rw [← hG] at hs
    obtain ⟨a9, b9, rfl, _⟩ := fragF_mem hs
    show (canonF _).length ≤ _
    rw [canonF_len]
    have := covK_len (W := ws.flatten) (a := a9) (b := b9) (n := 1000) (fun s hs => by obtain ⟨W, hW9, hs2⟩ := List.mem_flatten.1 hs; exact hk W hW9 s hs2)
    omega
  have hGl : G.length ≤ 200 := by rw [← hG]; have h1 := fragF_len ws.flatten; have h2 := bndF_len ws.flatten; omega
  refine cl_intro Tryz.func20 rfl rfl rfl ?_
  have K : Keep [] h h := Keep.refl _ _
  refine rG <| rA rfl rfl <| rN <| rG <| rA rfl rfl <| rN ?_
  refine tr_seq ?_
  refine rG <| rM rfl rfl <| rs_w (w_call (vs := [_]) ok_spec_SpanAll rfl ⟨rfl, trivial⟩ (c_SpanAll χ _ A hA _ ws hW0 hn hl)) rfl ?_
  rintro va h1 ⟨hall, K1⟩
  obtain ⟨aa, ac, rfl⟩ := SlR.form2 hall
  have K := K.new0 K1; have Z1 := K1.1
  refine rs_w (w_call (vs := [_]) ok_spec_SpanFragments rfl ⟨rfl, trivial⟩ (c_SpanFragments χ _ _ (hA.up K1.1) _ ws.flatten hall hf (fun s hs => by obtain ⟨W, hW9, hs2⟩ := List.mem_flatten.1 hs; exact hk W hW9 s hs2))) rfl ?_
  rintro vf h2 ⟨hfr, K2⟩
  rw [hG] at hfr
  obtain ⟨hgl, ga, gc, rfl, hgx⟩ := hfr.form
  have K := K.new0 K2; have Z2 := K2.1
  refine rs_v (v_len u_sl_spec_Span rfl) rfl ?_
  refine rM rfl rfl <| rN <| tr_block ?_
  refine tr_loop (fun m E h' => ∃ k v n9, k ≤ G.length ∧ m = G.length - k ∧ E = [(5, v), (1, .int .u64 (n : Int)), (10, .slice ga G.length gc), (11, .int .i64 (G.length : Int)), (12, .int .i64 (k : Int))] ∧ Keep [] h h' ∧ Keep [] h2 h' ∧ n9 = ((G.take k).map (visSp n)).length ∧ OutR N0 h h' h2.size 40 3 cSpan v n9 ((G.take k).map (visSp n))) G.length [(5, _), (1, _), (10, _), (11, _), (12, _)] ⟨rfl, rfl, rfl, rfl, rfl, trivial⟩ ⟨0, _, 0, Nat.zero_le _, rfl, rfl, K, Keep.refl _ _, rfl, OutR.nil _ _ _ _ _ _ _⟩ ?_
  rintro m E hL3 ⟨k, v, n9, hk, rfl, rfl, K, KG, hn9, hout⟩
  have hout0 := hout
  obtain ⟨xs, F, O, hrow, hF⟩ := hout
  have hKG := KG.1
  have hob := own_ne O; have KL := Keep.refl [] hL3
  refine rG <| rs_v (v_lt rfl rfl) rfl ?_
  refine rN ?_
  refine tr_seq ?_
  refine tr_ifn rfl (fun hif => ?_) (fun hif => ?_)
  · -- no
    simp only [dT, dF] at hif
    have hkk : k = G.length := by omega
    subst hkk
    refine tr_exit <| q_thn_exit ?_
    refine q_lp_exit ?_
    refine q_blk_hit ?_
    refine q_thn ?_
    refine rG <| rM rfl rfl <| rA rfl rfl <| rN <| tr_ret <| q_ret (res_tmp rfl rfl) ?_
    rw [List.take_length] at hout0 hn9
    exact ⟨hout0.fin cSpan_st hn9 (by omega) cSpan_r, K⟩
  -- yes
  simp only [dT, dF] at hif
  rcases hgx with rfl | ⟨b, o, rfl, hAb, hR⟩
  · simp at hif; omega
  obtain ⟨s, hsk⟩ := ex_get (L := G) (k := k) (by omega)
  have hsm := List.mem_of_getElem? hsk
  have KL0 := K.1
  obtain ⟨kv, hcc, hkx⟩ := hR k s hsk
  obtain ⟨ka, kc, rfl⟩ := hkx.form2
  have hcells := KG.cells (by simp) hcc
  have hnk : n9 = k := by rw [hn9, List.length_map, List.length_take]; omega
  have hlo2 : Low (Up N0 h1 h2) h2 := (n0low h1).up K2.1
  refine tr_skip ?_
  refine q_thn ?_
  refine tr_seq ?_
  refine tr_block <| rG <| rs_v (v_indexAddrN u_sl_spec_Span siz_spec_Span rfl rfl (by omega)) rfl ?_
  refine rs_v (v_loadAgg (vs := [_, _, _]) many_spec_Span rfl (by exact hcells)) rfl ?_
  refine rs_w (w_new zero_spec_Span) rfl ?_
  rintro _ h4 ⟨rfl, B4, K4, Z4⟩
  have KG := KG.newX K4 (fun x hx => .inr (by first | (simp at hx; done) | (simp at hx; omega) | (have := hob x hx; omega)))
  have O := O.keep2 K4 (fun x hm => by have := hob x hm; simp; try omega)
  have S4 := K.1; have K := K.new0 K4; have KL := KL.new0 K4
  refine rs_w0 (w_put siz_spec_Span rfl rfl rfl rfl B4 rfl) ?_
  rintro _ h5 ⟨B5, K5⟩
  have KG := KG.newX K5 (fun x hx => .inr (by first | (simp at hx; done) | (simp at hx; omega) | (have := hob x hx; omega)))
  have O := O.keep2 K5 (fun x hm => by have := hob x hm; simp; try omega)
  have B4 := B5; have K := K.new1 K5 (by first | (right; omega) | (left; simp; done)); have Z5 := K5.1; have KL := KL.new1 K5 (.inr (by omega))
  refine rN ?_
  refine tr_reg ?_
  refine rM rfl rfl <| rs_v (v_loadAgg (vs := [_, _, _]) many_spec_Span rfl (by exact B4.sub _ 3 rfl)) rfl ?_
  refine rM rfl rfl <| rs_w (w_call (vs := [_, _]) ok_spec_SpanVisible rfl ⟨rfl, rfl, trivial⟩ (c_specSpanVisible χ _ _ (hlo2.mono KG.1) s _ n (hkx.stab (KG.st hlo2)) (hlk s hsm) (htr2 s hsm))) rfl ?_
  rintro _ h6 ⟨⟨kv6, rfl, hkv6⟩, K6⟩
  obtain ⟨a6, c6, rfl⟩ := hkv6.form2
  have B4 := K6.blk (by simp) B4
  have KG := KG.newX K6 (fun x hx => .inr (by first | (simp at hx; done) | (simp at hx; omega) | (have := hob x hx; omega)))
  have O := O.keep2 K6 (fun x hm => by have := hob x hm; simp; try omega)
  have K := K.new0 K6; have Z6 := K6.1; have KL := KL.new0 K6
  refine rs_w (w_new1 u_sl_spec_Span siz_spec_Span zero_spec_Span rfl rfl rfl rfl rfl) rfl ?_
  rintro _ h7 ⟨rfl, B7, K7, Z7⟩
  have B4 := K7.blk (by simp) B4
  have KG := KG.newX K7 (fun x hx => .inr (by first | (simp at hx; done) | (simp at hx; omega) | (have := hob x hx; omega)))
  have O := O.keep2 K7 (fun x hm => by have := hob x hm; simp; try omega)
  have S7 := K.1; have K := K.new0 K7; have KL := KL.new0 K7
  refine rs_w (w_app1 u_sl_spec_Span info_spec_Span rfl rfl rfl O rfl rfl B7 rfl (by omega) (by omega) (by omega)) rfl ?_
  rintro v8 h8 ⟨O8, K8, N8, F8⟩
  have K := K.newX K8 (fun x hm => .inr (by have := hob x hm; omega)); have Z8 := K8.1
  have B4 := K8.blk (fun hm => by first | (have := hob _ hm; omega) | exact absurd rfl (hnb _ hm)) B4
  have B7 := K8.blk (fun hm => by first | (have := hob _ hm; omega) | exact absurd rfl (hnb _ hm)) B7
  have KG := KG.newX K8 (fun x hx => .inr (by first | (simp at hx; done) | (simp at hx; omega) | (have := hob x hx; omega)))
  refine rA rfl rfl ?_
  refine rs_nil ?_
  refine q_blk_n ?_
  refine q_thn ?_
  refine tr_reg ?_
  refine rs_v (v_add rfl rfl (by omega) (by omega)) rfl ?_
  refine rM rfl rfl ?_
  refine rs_nil ?_
  refine q_lp (G.length - (k + 1)) [(5, _), (1, _), (10, _), (11, _), (12, _)] (by omega) ⟨rfl, rfl, rfl, rfl, rfl, trivial⟩ ⟨k + 1, v8, n9 + 1, by omega, rfl, rfl, K, KG, ?_, ?_⟩
  · rw [take_snoc' hsk, List.map_append]; rw [List.length_append, ← hn9]; rfl
  · rw [take_snoc' hsk, List.map_append]
    exact OutR.snoc cSpan_st (n0low h) (by omega) hob hrow hF KL0 KL O8 K8 F8 rfl (⟨_, rfl, (RKeys.stab hkv6 (K7.st ((n0low _).up K6.1))).mono (Up.trans2 (by omega) K7.1)⟩)
set_option maxHeartbeats 1000000
theorem kle_iff (a b : KeyD) : keyLess b a = false ↔ (b.tr < a.tr ∨ (a.tr = b.tr ∧ (slt a.suf b.suf = true ∨ (a.suf = b.suf ∧ sle a.val b.val = true)))) := by
  unfold keyLess
  by_cases e : b.tr = a.tr
  · rw [if_pos e]
    by_cases e2 : b.suf = a.suf
    · rw [if_pos (seq'_eq.2 e2), not_slt]
      constructor
      · intro h; exact .inr ⟨e.symm, .inr ⟨e2.symm, h⟩⟩
      · rintro (h | ⟨_, h | ⟨_, h⟩⟩)
        · omega
        · rw [e2, slt_irr] at h; cases h
        · exact h
    · rw [if_neg (fun h => e2 (seq'_eq.1 h)), not_slt]
      constructor
      · intro h; exact .inr ⟨e.symm, .inl (slt_of_sle_ne h (fun h2 => e2 h2.symm))⟩
      · rintro (h | ⟨_, h | ⟨h, _⟩⟩)
        · omega
        · exact slt_sle h
        · exact absurd h.symm e2
  · rw [if_neg e, decide_eq_false_iff_not]
    constructor
    · intro h; exact .inl (by omega)
    · rintro (h | ⟨h, _⟩)
      · omega
      · exact absurd h.symm e
theorem kle_anti {a b : KeyD} (h1 : keyLess b a = false) (h2 : keyLess a b = false) : a = b := by
  rcases (kle_iff a b).1 h1 with h | ⟨e, h⟩ <;> rcases (kle_iff b a).1 h2 with g | ⟨e2, g⟩
  · omega
  · omega
  · omega
  · rcases h with h | ⟨h, h'⟩ <;> rcases g with g | ⟨g, g'⟩
    · have := slt_tr h g; rw [slt_irr] at this; cases this
    · rw [g, slt_irr] at h; cases h
    · rw [h, slt_irr] at g; cases g
    · have h9 := sle_anti h' g'
      obtain ⟨t, s, v⟩ := a
      obtain ⟨t2, s2, v2⟩ := b
      simp only at e h h9
      subst e; subst h; subst h9; rfl
theorem kle_trans {a b c : KeyD} (h1 : keyLess b a = false) (h2 : keyLess c b = false) : keyLess c a = false := by
  rw [kle_iff] at *
  rcases h1 with h | ⟨e, h⟩ <;> rcases h2 with g | ⟨e2, g⟩
  · exact .inl (by omega)
  · exact .inl (by omega)
  · exact .inl (by omega)
  · refine .inr ⟨by omega, ?_⟩
    rcases h with h | ⟨h, h'⟩ <;> rcases g with g | ⟨g, g'⟩
    · exact .inl (slt_tr h g)
    · exact .inl (by rw [← g]; exact h)
    · exact .inl (by rw [h]; exact g)
    · exact .inr ⟨h.trans g, sle_trans h' g'⟩
theorem kless_asymm {a b : KeyD} (h : keyLess a b = true) : keyLess b a = false := by
  cases e : keyLess b a with
  | false => rfl
  | true =>
    exfalso
    have h1 : keyLess a b = false := (kle_iff b a).2 (by
      unfold keyLess at e
      by_cases e1 : b.tr = a.tr
      · rw [if_pos e1] at e
        by_cases e2 : b.suf = a.suf
        · rw [if_pos (seq'_eq.2 e2)] at e; exact .inr ⟨e1, .inr ⟨e2, slt_sle e⟩⟩
        · rw [if_neg (fun h => e2 (seq'_eq.1 h))] at e; exact .inr ⟨e1, .inl e⟩
      · rw [if_neg e1] at e; exact .inl (of_decide_eq_true e))
    rw [h1] at h; cases h
theorem swap_ap (A C : List KeyD) (a x : KeyD) : swapAt (A ++ a :: x :: C) A.length = A ++ x :: a :: C := by
  unfold swapAt
  have h1 : (A ++ a :: x :: C)[A.length + 1]? = some x := by rw [List.getElem?_append_right (by omega), show A.length + 1 - A.length = 1 from by omega]; rfl
  have h2 : (A ++ a :: x :: C)[A.length]? = some a := by rw [List.getElem?_append_right (by omega), Nat.sub_self]; rfl
  rw [h1, h2]
  simp only
  rw [List.set_append, if_neg (by omega), show A.length + 1 - A.length = 1 from by omega, List.set_append, if_neg (by omega), Nat.sub_self]
  rfl
theorem insW_form (x : KeyD) : ∀ (n : Nat) (A : List KeyD), A.length = n → A.Pairwise (fun a b => keyLess b a = false) → ∀ C, ∃ A1 A2, A = A1 ++ A2 ∧ insW (A ++ x :: C) n = A1 ++ x :: A2 ++ C ∧ (∀ a, a ∈ A2 → keyLess x a = true) ∧ ∀ a, a ∈ A1 → keyLess x a = false
  | 0, A, hA, _, C => ⟨[], [], by simpa using hA, by
    have : A = [] := List.eq_nil_of_length_eq_zero hA
    subst this; rfl, by simp, by simp⟩
  | n + 1, A, hA, hp, C => by
    obtain ⟨A', a, rfl⟩ : ∃ A' a, A = A' ++ [a] := by
      rcases List.eq_nil_or_concat A with e | ⟨A', a, e⟩
      · subst e; simp at hA
      · exact ⟨A', a, by simpa using e⟩
    have hA' : A'.length = n := by simpa using hA
    have hl : lessAt (A' ++ [a] ++ x :: C) (n + 1) = keyLess x a := by
      unfold lessAt
      have e0 : A' ++ [a] ++ x :: C = A' ++ a :: x :: C := by simp
      have h1 : (A' ++ a :: x :: C)[n + 1]? = some x := by rw [← hA', List.getElem?_append_right (by omega), show A'.length + 1 - A'.length = 1 from by omega]; rfl
      have h2 : (A' ++ a :: x :: C)[n]? = some a := by rw [← hA', List.getElem?_append_right (by omega), Nat.sub_self]; rfl
      rw [e0]
      simp only [h1, h2]
    rw [List.pairwise_append] at hp
    cases e : keyLess x a with
    | true =>
      rw [insW_go (by rw [hl]; exact e)]
      have e0 : A' ++ [a] ++ x :: C = A' ++ a :: x :: C := by simp
      have hs := swap_ap A' C a x
      rw [hA'] at hs
      rw [e0, hs]
      obtain ⟨A1, A2, h1, h2, h3, h4⟩ := insW_form x n A' hA' hp.1 (a :: C)
      refine ⟨A1, A2 ++ [a], by rw [h1]; simp, by rw [h2]; simp, fun b hb => ?_, h4⟩
      rcases List.mem_append.1 hb with hb | hb
      · exact h3 b hb
      · rw [List.mem_singleton.1 hb]; exact e
    | false =>
      rw [insW_stop (by rw [hl]; exact e)]
      refine ⟨A' ++ [a], [], by simp, by simp, by simp, fun b hb => ?_⟩
      rcases List.mem_append.1 hb with hb | hb
      · exact kle_trans (hp.2.2 b hb a (by simp)) e
      · rw [List.mem_singleton.1 hb]; exact e
theorem canonF_ok (l : List KeyD) : ∀ k, k ≤ l.length → (canonF (l.take k)).Perm (l.take k) ∧ (canonF (l.take k)).Pairwise (fun a b => keyLess b a = false)
  | 0, _ => by simp [canonF]
  | k + 1, hk => by
    obtain ⟨hp, hs⟩ := canonF_ok l k (by omega)
    obtain ⟨x, hx⟩ := ex_get (L := l) (k := k) (by omega)
    rw [take_snoc' hx, canonF_snoc]
    obtain ⟨A1, A2, h1, h2, h3, h4⟩ := insW_form x _ (canonF (l.take k)) rfl hs []
    rw [h2, List.append_nil]
    refine ⟨?_, ?_⟩
    · refine List.Perm.trans List.perm_middle ?_
      rw [← h1]
      exact (hp.cons x).trans (List.perm_append_singleton x _).symm
    · rw [h1, List.pairwise_append] at hs
      rw [List.pairwise_append, List.pairwise_cons]
      refine ⟨hs.1, ⟨fun a ha => kless_asymm (h3 a ha), hs.2.1⟩, fun a ha b hb => ?_⟩
      rcases List.mem_cons.1 hb with rfl | hb
      · exact h4 a ha
      · exact hs.2.2 a ha b hb
theorem canonF_perm (l : List KeyD) : (canonF l).Perm l := by have := (canonF_ok l l.length (Nat.le_refl _)).1; rwa [List.take_length] at this
theorem canonF_srt (l : List KeyD) : (canonF l).Pairwise (fun a b => keyLess b a = false) := by have := (canonF_ok l l.length (Nat.le_refl _)).2; rwa [List.take_length] at this
theorem srt_unique : ∀ (l1 l2 : List KeyD), l1.Perm l2 → l1.Pairwise (fun a b => keyLess b a = false) → l2.Pairwise (fun a b => keyLess b a = false) → l1 = l2
  | [], l2, hp, _, _ => by rw [List.nil_perm.1 hp]
  | a :: l1, [], hp, _, _ => by have := hp.length_eq; simp at this
  | a :: l1, b :: l2, hp, h1, h2 => by
    rw [List.pairwise_cons] at h1 h2
    have hab : a = b := by
      have m1 : a ∈ b :: l2 := hp.mem_iff.1 (by simp)
      have m2 : b ∈ a :: l1 := hp.mem_iff.2 (by simp)
      rcases List.mem_cons.1 m1 with e | m1
      · exact e
      · rcases List.mem_cons.1 m2 with e | m2
        · exact e.symm
        · exact kle_anti (h1.1 b m2) (h2.1 a m1)
    subst hab
    rw [srt_unique l1 l2 (List.Perm.cons_inv hp) h1.2 h2.2]
theorem canonF_congr {l1 l2 : List KeyD} (h : l1.Perm l2) : canonF l1 = canonF l2 :=
  srt_unique _ _ ((canonF_perm l1).trans (h.trans (canonF_perm l2).symm)) (canonF_srt l1) (canonF_srt l2)

inductive Alk : List SpanD → List SpanD → Prop
  | nil : Alk [] []
  | cons {a b : SpanD} {l1 l2 : List SpanD} : a.s = b.s → a.e = b.e → canonF a.ks = canonF b.ks → descB a.ks = true → few a → few b → Alk l1 l2 → Alk (a :: l1) (b :: l2)
section
variable {W1 W2 : List SpanD}
theorem Alk.len (h : Alk W1 W2) : W1.length = W2.length := by induction h with | nil => rfl | cons _ _ _ _ _ _ _ ih => simp [ih]
theorem Alk.ge (h : Alk W1 W2) (k : ByteArray) : geI W1 k = geI W2 k := by induction h with | nil => rfl | cons _ he _ _ _ _ _ ih => simp only [geI, he, ih]
theorem Alk.lt (h : Alk W1 W2) (k : ByteArray) : ltI W1 k = ltI W2 k := by induction h with | nil => rfl | cons hs _ _ _ _ _ _ ih => simp only [ltI, hs, ih]
theorem Alk.at (h : Alk W1 W2) : ∀ (i : Nat), (W1[i]? = none ∧ W2[i]? = none) ∨ ∃ a b, W1[i]? = some a ∧ W2[i]? = some b ∧ Like [a] [b] ∧ few a ∧ few b := by
  induction h with
  | nil => intro i; exact .inl ⟨by simp, by simp⟩
  | @cons a b l1 l2 hs he hc hd f1 f2 _ ih =>
    intro i
    cases i with
    | zero => exact .inr ⟨a, b, rfl, rfl, ⟨by simp [canonS, hs, he, hc], by simpa using hd⟩, f1, f2⟩
    | succ i => simpa using ih i
theorem Alk.step (h : Alk W1 W2) (p : Pos) (s : StepD) : stepP W1 p s = stepP W2 p s := by
  have hl := h.len
  have e2 : pFirst W1 = pFirst W2 := by unfold pFirst; rw [hl]
  have e3 : pLast W1 = pLast W2 := by unfold pLast; rw [hl]
  have e4 : pNext W1 p = pNext W2 p := by cases p <;> simp [pNext, hl]
  have e5 : pPrev W1 p = pPrev W2 p := by cases p <;> simp [pPrev, hl]
  have e6 : pGE W1 s.key = pGE W2 s.key := by unfold pGE; rw [h.ge, hl]
  have e7 : pLT W1 s.key = pLT W2 s.key := by unfold pLT; rw [h.lt]
  unfold stepP
  rw [e2, e3, e4, e5, e6, e7]
theorem Alk.ans (h : Alk W1 W2) (q : Option Pos) : (ansOf W1 q).done = (ansOf W2 q).done ∧ (ansOf W1 q).ok = (ansOf W2 q).ok ∧ ((ansOf W1 q).ok = true → Like [(ansOf W1 q).sp] [(ansOf W2 q).sp] ∧ few (ansOf W1 q).sp ∧ few (ansOf W2 q).sp) := by
  cases q with
  | none => exact ⟨rfl, rfl, fun h => by cases h⟩
  | some p =>
    cases p with
    | pt i =>
      rcases h.at i with ⟨h1, h2⟩ | ⟨a, b, h1, h2, h3⟩
      · simp [ansOf, cur, h1, h2]
      · simp only [ansOf, cur, h1, h2]
        exact ⟨trivial, rfl, fun _ => h3⟩
    | ahead => exact ⟨rfl, rfl, fun h => by cases h⟩
    | behind => exact ⟨rfl, rfl, fun h => by cases h⟩
    | nowhere => exact ⟨rfl, rfl, fun h => by cases h⟩
theorem walkP_len {W : List SpanD} : ∀ (l : List StepD) (p : Pos), (walkP W p l).length = l.length
  | [], p => rfl
  | s :: l, p => by simp [walkP, walkP_len l]
theorem Alk.walk (h : Alk W1 W2) : ∀ (l : List StepD) (p : Pos), AnsLike (walkP W1 p l) (walkP W2 p l)
  | [], p => ⟨rfl, fun i a b ha _ => by simp [walkP] at ha⟩
  | s :: l, p => by
    refine ⟨by rw [walkP_len, walkP_len], fun i a b ha hb => ?_⟩
    cases i with
    | zero =>
      simp only [walkP, List.getElem?_cons_zero, Option.some.injEq] at ha hb
      subst ha; subst hb
      rw [h.step]
      exact h.ans _
    | succ i =>
      simp only [walkP, List.getElem?_cons_succ] at ha hb
      rw [h.step] at ha
      exact (Alk.walk h l _).2 i a b ha hb
theorem alk_fm {α : Type} {f g : α → Option SpanD} : ∀ (L : List α), (∀ j, j ∈ L → (f j = none ∧ g j = none) ∨ ∃ a b, f j = some a ∧ g j = some b ∧ a.s = b.s ∧ a.e = b.e ∧ canonF a.ks = canonF b.ks ∧ descB a.ks = true ∧ few a ∧ few b) → Alk (L.filterMap f) (L.filterMap g)
  | [], _ => Alk.nil
  | x :: L, h => by
    have ih := alk_fm L fun j hj => h j (by simp [hj])
    rcases h x (by simp) with ⟨h1, h2⟩ | ⟨a, b, h1, h2, h3, h4, h5, h6, h7, h8⟩
    · rw [List.filterMap_cons, List.filterMap_cons, h1, h2]; exact ih
    · rw [List.filterMap_cons, List.filterMap_cons, h1, h2]; exact Alk.cons h3 h4 h5 h6 h7 h8 ih
end
set_option maxHeartbeats 1000000
def sB (a b : ByteArray) : Prop := slt a b = true
section
variable {l : List ByteArray} {key : ByteArray}
theorem idxB_hi : ∀ (n j : Nat), idxB l key n ≤ j → j < n → slt (atB l j) key = false
  | 0, j, _, h => by omega
  | n + 1, j, h1, h2 => by
    unfold idxB at h1
    by_cases e : slt (atB l n) key = true
    · rw [if_pos e] at h1; omega
    · rw [if_neg e] at h1
      by_cases e2 : j = n
      · subst e2; simpa using e
      · exact idxB_hi n j h1 (by omega)
theorem idxB_lo : ∀ (n : Nat), idxB l key n ≠ 0 → slt (atB l (idxB l key n - 1)) key = true
  | 0, h => absurd rfl h
  | n + 1, h => by
    unfold idxB at h ⊢
    by_cases e : slt (atB l n) key = true
    · rw [if_pos e]; exact e
    · rw [if_neg e] at h ⊢; exact idxB_lo n h
theorem pw_atB (hp : l.Pairwise sB) {i j : Nat} (hij : i < j) (hj : j < l.length) : slt (atB l i) (atB l j) = true := by
  rw [List.pairwise_iff_getElem] at hp
  have h1 := hp i j (by omega) hj hij
  rw [atB_some (List.getElem?_eq_getElem (by omega)), atB_some (List.getElem?_eq_getElem hj)]
  exact h1
theorem addB_ok (hp : l.Pairwise sB) : (addB l key).Pairwise sB ∧ ∀ x, x ∈ addB l key ↔ (x ∈ l ∨ x = key) := by
  have hle := idxB_le l key l.length
  unfold addB
  by_cases e : idxB l key l.length < l.length ∧ atB l (idxB l key l.length) = key
  · rw [if_pos e]
    refine ⟨hp, fun x => ⟨.inl, fun h => h.elim id fun h => ?_⟩⟩
    rw [h, ← e.2]
    exact List.mem_of_getElem? (atB_get e.1)
  · rw [if_neg e]
    constructor
    · rw [List.pairwise_append, List.pairwise_cons]
      have hta : ∀ a, a ∈ l.take (idxB l key l.length) → slt a key = true := fun a ha => by
        obtain ⟨j, hj, rfl⟩ := List.mem_iff_getElem.1 ha
        rw [List.length_take] at hj
        have h1 := idxB_lo (l := l) (key := key) l.length (by omega)
        rw [List.getElem_take]
        have h2 : l[j]'(by omega) = atB l j := (atB_some (List.getElem?_eq_getElem (by omega))).symm
        rw [h2]
        by_cases e2 : j = idxB l key l.length - 1
        · rw [e2]; exact h1
        · exact slt_tr (pw_atB hp (by omega) (by omega)) h1
      have hdr : ∀ a, a ∈ l.drop (idxB l key l.length) → slt key a = true := fun a ha => by
        obtain ⟨j, hj, rfl⟩ := List.mem_iff_getElem.1 ha
        rw [List.length_drop] at hj
        rw [List.getElem_drop]
        have h2 : l[idxB l key l.length + j]'(by omega) = atB l (idxB l key l.length + j) := (atB_some (List.getElem?_eq_getElem (by omega))).symm
        rw [h2]
        have h0 : slt key (atB l (idxB l key l.length)) = true := slt_of_sle_ne (not_slt.1 (idxB_hi l.length _ (Nat.le_refl _) (by omega))) (fun h => e ⟨by omega, h.symm⟩)
        by_cases e2 : j = 0
        · subst e2; exact h0
        · exact slt_tr h0 (pw_atB hp (by omega) (by omega))
      refine ⟨hp.sublist (List.take_sublist _ _), ⟨hdr, hp.sublist (List.drop_sublist _ _)⟩, fun a ha b hb => ?_⟩
      rcases List.mem_cons.1 hb with rfl | hb
      · exact hta a ha
      · exact slt_tr (hta a ha) (hdr b hb)
    · intro x
      have h1 : (x ∈ l.take (idxB l key l.length) ∨ x ∈ l.drop (idxB l key l.length)) ↔ x ∈ l := by
        rw [← List.mem_append, List.take_append_drop]
      rw [List.mem_append, List.mem_cons, ← h1]
      constructor
      · rintro (h | h | h)
        · exact .inl (.inl h)
        · exact .inr h
        · exact .inl (.inr h)
      · rintro ((h | h) | h)
        · exact .inl h
        · exact .inr (.inr h)
        · exact .inr (.inl h)
theorem bndF_ok : ∀ (W : List SpanD) (l : List ByteArray), l.Pairwise sB → (W.foldl (fun l s => addB (addB l s.s) s.e) l).Pairwise sB ∧ ∀ x, x ∈ W.foldl (fun l s => addB (addB l s.s) s.e) l ↔ (x ∈ l ∨ ∃ s, s ∈ W ∧ (x = s.s ∨ x = s.e))
  | [], l, h => ⟨h, fun x => by simp⟩
  | s :: W, l, h => by
    rw [List.foldl_cons]
    have h1 := addB_ok (key := s.s) h
    have h2 := addB_ok (key := s.e) h1.1
    have ih := bndF_ok W _ h2.1
    refine ⟨ih.1, fun x => ?_⟩
    rw [ih.2, h2.2, h1.2]
    constructor
    · rintro (((h | h) | h) | ⟨t, ht, h⟩)
      · exact .inl h
      · exact .inr ⟨s, by simp, .inl h⟩
      · exact .inr ⟨s, by simp, .inr h⟩
      · exact .inr ⟨t, by simp [ht], h⟩
    · rintro (h | ⟨t, ht, h⟩)
      · exact .inl (.inl (.inl h))
      · rcases List.mem_cons.1 ht with rfl | ht
        · rcases h with h | h
          · exact .inl (.inl (.inr h))
          · exact .inl (.inr h)
        · exact .inr ⟨t, ht, h⟩
end
theorem bndF_mem {W : List SpanD} {x : ByteArray} : x ∈ bndF W ↔ ∃ s, s ∈ W ∧ (x = s.s ∨ x = s.e) := by
  have := (bndF_ok W [] List.Pairwise.nil).2 x
  simpa [bndF] using this
theorem bnds_of {ws : List (List SpanD)} (hO : ∀ W, W ∈ ws → Tess.Ord W) : Bnds ws (bndF ws.flatten) := by
  refine ⟨hO, fun i j x y hij hx hy => ?_, fun W r hW h1 h2 => ?_, fun x hx => ?_⟩
  · have hp : (bndF ws.flatten).Pairwise sB := (bndF_ok ws.flatten [] List.Pairwise.nil).1
    have hj := (List.getElem?_eq_some_iff.1 hy).1
    have := pw_atB hp hij hj
    rw [atB_some hx, atB_some hy] at this; exact this
  · rw [bndF_mem]
    by_cases e : r % 2 = 1
    · obtain ⟨t, ht⟩ := ex_get (L := W) (k := (r - 1) / 2) (by omega)
      have h3 := bkW_s ht
      rw [show 2 * ((r - 1) / 2) + 1 = r from by omega] at h3
      exact ⟨t, List.mem_flatten.2 ⟨W, hW, List.mem_of_getElem? ht⟩, .inl h3⟩
    · obtain ⟨t, ht⟩ := ex_get (L := W) (k := r / 2 - 1) (by omega)
      have h3 := bkW_e ht
      rw [show 2 * (r / 2 - 1) + 2 = r from by omega] at h3
      exact ⟨t, List.mem_flatten.2 ⟨W, hW, List.mem_of_getElem? ht⟩, .inr h3⟩
  · obtain ⟨s, hs, h⟩ := bndF_mem.1 hx
    obtain ⟨W, hW, hsW⟩ := List.mem_flatten.1 hs
    obtain ⟨i, hi, e⟩ := List.mem_iff_getElem.1 hsW
    have hi2 : W[i]? = some s := by rw [List.getElem?_eq_getElem hi, e]
    rcases h with rfl | rfl
    · exact ⟨W, hW, 2 * i + 1, by omega, by omega, bkW_s hi2⟩
    · exact ⟨W, hW, 2 * i + 2, by omega, by omega, bkW_e hi2⟩
theorem filter_one {α : Type} {p : α → Bool} : ∀ (W : List α) (m : Nat), (∀ (i : Nat) x, W[i]? = some x → (p x = true ↔ i = m)) → W.filter p = (W[m]?).toList
  | [], m, _ => by simp
  | x :: W, m, h => by
    have h0 := h 0 x rfl
    cases m with
    | zero =>
      rw [List.filter_cons_of_pos (h0.2 rfl)]
      have : W.filter p = [] := List.filter_eq_nil_iff.2 fun y hy e => by
        obtain ⟨i, hi, e2⟩ := List.mem_iff_getElem.1 hy
        have := (h (i + 1) y (by rw [List.getElem?_cons_succ, List.getElem?_eq_getElem hi, e2])).1 e
        omega
      rw [this]; rfl
    | succ m =>
      rw [List.filter_cons_of_neg (fun e => by have := h0.1 e; omega), filter_one W m fun i y hy => by
        have := h (i + 1) y (by simpa using hy)
        exact this.trans (by omega)]
      simp
def lvK (W : List SpanD) (x : ByteArray) : List KeyD := if cE W x % 2 = 1 then ((W[cE W x / 2]?).map SpanD.ks).getD [] else []
theorem cov_lv {ws : List (List SpanD)} {B : List ByteArray} (h : Bnds ws B) {W : List SpanD} (hW : W ∈ ws) {j : Nat} (hj : j + 1 < B.length) :
    ((W.filter (fun x => sle x.s (atB B j) && sle (atB B (j + 1)) x.e)).map SpanD.ks).flatten = lvK W (atB B j) := by
  have hO := h.ord W hW
  have hc := cE_cL h hW hj
  have hle := cE_le W (atB B j)
  have key : ∀ (i : Nat) x, W[i]? = some x → ((sle x.s (atB B j) && sle (atB B (j + 1)) x.e) = true ↔ cE W (atB B j) = 2 * i + 1) := fun i x hx => by
    have hi := (List.getElem?_eq_some_iff.1 hx).1
    have h1 := cE_iff hO (k := atB B j) (r := 2 * i + 1) (by omega) (by omega)
    have h2 := cL_iff hO (k := atB B (j + 1)) (r := 2 * i + 2) (by omega) (by omega)
    rw [bkW_s hx] at h1
    rw [bkW_e hx] at h2
    rw [Bool.and_eq_true, ← h1, ← not_slt, ← Bool.not_eq_true, ← h2, ← hc]
    omega
  unfold lvK
  by_cases e : cE W (atB B j) % 2 = 1
  · rw [if_pos e, filter_one W (cE W (atB B j) / 2) fun i x hx => by rw [key i x hx]; omega]
    cases hx : W[cE W (atB B j) / 2]? <;> simp
  · rw [if_neg e]
    have : W.filter (fun x => sle x.s (atB B j) && sle (atB B (j + 1)) x.e) = [] := List.filter_eq_nil_iff.2 fun x hx e2 => by
      obtain ⟨i, hi, rfl⟩ := List.mem_iff_getElem.1 hx
      have := (key i _ (List.getElem?_eq_getElem hi)).1 e2
      omega
    rw [this]; rfl
theorem covK_flat {a b : ByteArray} : ∀ (ws : List (List SpanD)), covK ws.flatten a b = (ws.map (fun W => ((W.filter (fun x => sle x.s a && sle b x.e)).map SpanD.ks).flatten)).flatten
  | [] => by simp [covK]
  | W :: ws => by
    have ih := covK_flat (a := a) (b := b) ws
    unfold covK at ih ⊢
    rw [List.flatten_cons, List.filter_append, List.map_append, List.flatten_append, ih]; rfl
theorem flat_filter {α β : Type} {p : α → Bool} {f : α → List β} : ∀ (L : List α), ((L.filter p).map f).flatten = (L.map (fun i => if p i then f i else [])).flatten
  | [] => rfl
  | x :: L => by
    have ih := flat_filter (p := p) (f := f) L
    cases e : p x
    · rw [List.filter_cons_of_neg (by rw [e]; decide), ih, List.map_cons, List.flatten_cons, e]; rfl
    · rw [List.filter_cons_of_pos e, List.map_cons, List.flatten_cons, ih, List.map_cons, List.flatten_cons, e]; rfl
theorem range_opt {α β : Type} {F : Nat → β} {g : α → β} (L : List α) (h : ∀ (i : Nat) v, L[i]? = some v → F i = g v) : (List.range L.length).map F = L.map g := by
  refine List.ext_getElem (by simp) fun i h1 h2 => ?_
  simp at h1
  rw [List.getElem_map, List.getElem_map, List.getElem_range]
  exact h i _ (List.getElem?_eq_getElem h1)
def KeysOK (vs : List Lev) : Prop := ∀ v, v ∈ vs → ∀ (s : Nat) x, v.W[s]? = some x → (v.kt s).map KT.k = x.ks
theorem catX_keys {vs : List Lev} (hk : KeysOK vs) (x : ByteArray) : (catX vs x).map KT.k = ((wsO vs).map (fun W => lvK W x)).flatten := by
  unfold catX
  rw [flat_filter, range_opt (g := fun v : Lev => if cE v.W x % 2 = 1 then v.kt (cE v.W x / 2) else []) vs (fun i v hv => by simp [hv]), List.map_flatten, List.map_map]
  unfold wsO
  rw [List.map_map]
  congr 1
  refine List.map_congr_left fun v hv => ?_
  simp only [Function.comp, lvK]
  by_cases e : cE v.W x % 2 = 1
  · rw [if_pos e, if_pos e]
    have hle := cE_le v.W x
    obtain ⟨s, hs⟩ := ex_get (L := v.W) (k := cE v.W x / 2) (by omega)
    rw [hk v hv _ s hs, hs]; rfl
  · rw [if_neg e, if_neg e]; rfl
theorem covK_cat {vs : List Lev} {B : List ByteArray} (h : Bnds (wsO vs) B) (hk : KeysOK vs) {j : Nat} (hj : j + 1 < B.length) : covK (wsO vs).flatten (atB B j) (atB B (j + 1)) = (catX vs (atB B j)).map KT.k := by
  rw [covK_flat, catX_keys hk]
  congr 1
  exact List.map_congr_left fun W hW => cov_lv h hW hj
theorem covB_ne {vs : List Lev} {B : List ByteArray} (h : Bnds (wsO vs) B) (hk : KeysOK vs) (hne : ∀ W, W ∈ wsO vs → ∀ s, s ∈ W → s.ks ≠ []) {j : Nat} (hj : j + 1 < B.length) : covB (wsO vs) (atB B j) = true ↔ covK (wsO vs).flatten (atB B j) (atB B (j + 1)) ≠ [] := by
  rw [covK_cat h hk hj, catX_keys hk]
  unfold covB
  rw [List.any_eq_true]
  constructor
  · rintro ⟨W, hW, e⟩ e2
    have e : cE W (atB B j) % 2 = 1 := by simpa using e
    have hle := cE_le W (atB B j)
    obtain ⟨s, hs⟩ := ex_get (L := W) (k := cE W (atB B j) / 2) (by omega)
    have h1 : lvK W (atB B j) = [] := List.flatten_eq_nil_iff.1 e2 _ (List.mem_map.2 ⟨W, hW, rfl⟩)
    unfold lvK at h1
    rw [if_pos e, hs] at h1
    exact hne W hW s (List.mem_of_getElem? hs) h1
  · intro hn
    cases e : (wsO vs).any (fun W => cE W (atB B j) % 2 == 1) with
    | true => exact List.any_eq_true.1 e
    | false =>
      exfalso
      apply hn
      rw [List.flatten_eq_nil_iff]
      intro l hl
      obtain ⟨W, hW, rfl⟩ := List.mem_map.1 hl
      have := List.any_eq_false.1 e W hW
      unfold lvK
      rw [if_neg (by simpa using this)]
theorem kfM_perm {vs : List Lev} {snap : Nat} {B : List ByteArray} (h : Bnds (wsO vs) B) (hk : KeysOK vs) {j : Nat} (hj : j + 1 < B.length) : (kfM vs snap (atB B j)).Perm ((canonF (covK (wsO vs).flatten (atB B j) (atB B (j + 1)))).filter (visK snap)) := by
  rw [covK_cat h hk hj]
  unfold kfM
  have h1 : ((sortKT (catX vs (atB B j))).filter (fun y => visK snap y.k)).map KT.k = ((sortKT (catX vs (atB B j))).map KT.k).filter (visK snap) := by rw [List.filter_map]; rfl
  rw [h1]
  exact (((sortKT_perm _).map KT.k).trans (canonF_perm _).symm).filter _
theorem kfM_desc {vs : List Lev} {snap : Nat} {x : ByteArray} : descB (kfM vs snap x) = true := by
  rw [desc_pair]
  unfold kfM
  rw [List.pairwise_map]
  exact (sortKT_sorted _).filter _
theorem merged_alike {vs : List Lev} {snap : Nat} {B : List ByteArray} (h : Bnds (wsO vs) B) (hk : KeysOK vs) (hne : ∀ W, W ∈ wsO vs → ∀ s, s ∈ W → s.ks ≠ []) (hB : bndF (wsO vs).flatten = B) (hfew : ∀ x, ((catX vs x).map KT.k).length ≤ 100000) : Alk (mrgW vs snap B) ((fragF (wsO vs).flatten).map (visSp snap)) := by
  unfold mrgW fragF
  rw [hB]
  unfold sgM segs
  rw [List.filterMap_map, List.map_filterMap]
  refine alk_fm _ fun j hj => ?_
  rw [List.mem_range] at hj
  have hj : j + 1 < B.length := by omega
  have hp := kfM_perm (snap := snap) h hk hj
  have hfl : (covK (wsO vs).flatten (atB B j) (atB B (j + 1))).length ≤ 100000 := by rw [covK_cat h hk hj]; exact hfew _
  simp only [Function.comp]
  by_cases e : covB (wsO vs) (atB B j) = true
  · have e2 := (covB_ne h hk hne hj).1 e
    refine .inr ⟨⟨atB B j, atB B (j + 1), kfM vs snap (atB B j)⟩, visSp snap ⟨atB B j, atB B (j + 1), canonF (covK (wsO vs).flatten (atB B j) (atB B (j + 1)))⟩, by unfold covF; exact if_pos e, by unfold fragP; rw [if_neg e2]; rfl, rfl, rfl, canonF_congr hp, kfM_desc, ?_, ?_⟩
    · unfold few
      show (kfM vs snap (atB B j)).length ≤ _
      rw [hp.length_eq]
      refine Nat.le_trans (List.length_filter_le _ _) ?_
      rw [canonF_len]; exact hfl
    · unfold few
      show ((canonF _).filter _).length ≤ _
      refine Nat.le_trans (List.length_filter_le _ _) ?_
      rw [canonF_len]; exact hfl
  · have e2 : covK (wsO vs).flatten (atB B j) (atB B (j + 1)) = [] := Classical.byContradiction fun h2 => e ((covB_ne h hk hne hj).2 h2)
    exact .inl ⟨by unfold covF; exact if_neg e, by unfold fragP; rw [if_pos e2]; rfl⟩
set_option maxHeartbeats 1000000
def KRng (W : List SpanD) : Prop := ∀ s, s ∈ W → ∀ k, k ∈ s.ks → 0 ≤ k.tr ∧ k.tr < 18446744073709551616
theorem lev_good {ws : List (List SpanD)} {n : Int} (hf : fit3 ws = true) (hn : n ≤ 40) (h : levB ws n = true) : (∀ W, W ∈ ws → Good W) ∧ ws.length ≤ 6 ∧ ∀ W, W ∈ ws → (W.length : Int) ≤ n := by
  simp only [fit3, levB, Bool.and_eq_true, List.all_eq_true, decide_eq_true_eq] at hf h
  refine ⟨fun W hW => (good_of hn (hf.2 W hW) (by rw [Bool.and_eq_true]; exact h.1 W hW)).1, by omega, fun W hW => (good_of hn (hf.2 W hW) (by rw [Bool.and_eq_true]; exact h.1 W hW)).2⟩
theorem good_wok {W : List SpanD} (h : Good W) (hr : KRng W) : WOK W := ⟨by have := h.len; omega, h.ord, fun s hs => ⟨by have := (h.full s hs).2.2.2; omega, hr s hs⟩⟩
theorem bnd_small {ws : List (List SpanD)} (hf : fit3 ws = true) : ∀ x, x ∈ bndF ws.flatten → x.data.toList.length ≤ 100000000000 := fun x hx => by
  obtain ⟨s, hs, h⟩ := bndF_mem.1 hx
  obtain ⟨W, hW, hsW⟩ := List.mem_flatten.1 hs
  simp only [fit3, Bool.and_eq_true, List.all_eq_true, decide_eq_true_eq] at hf
  have h4 := hf.2 W hW
  simp only [fit4, Bool.and_eq_true, List.all_eq_true, decide_eq_true_eq] at h4
  have h5 := h4.2 s hsW
  simp only [fit5, Bool.and_eq_true, decide_eq_true_eq, MX] at h5
  have e : x.data.toList.length = x.size := Array.length_toList
  rw [e]
  rcases h with rfl | rfl <;> omega
theorem lvK_len {W : List SpanD} {n : Nat} (h : ∀ s, s ∈ W → s.ks.length ≤ n) (x : ByteArray) : (lvK W x).length ≤ n := by
  unfold lvK
  split
  · cases hs : W[cE W x / 2]? with
    | none => simp
    | some s => exact h s (List.mem_of_getElem? hs)
  · simp
theorem merged_alk {vs : List Lev} {ws : List (List SpanD)} {snap : Nat} (hvs : vs.map Lev.W = ws) (hk : KeysOK vs) (hG : ∀ W, W ∈ ws → Good W) (hl : ws.length ≤ 10) : Alk (mrgW vs snap (bndF ws.flatten)) (mergF ws snap) := by
  subst hvs
  refine merged_alike (bnds_of fun W hW => (hG W hW).ord) hk (fun W hW s hs => ((hG W hW).full s hs).2.1) rfl fun x => ?_
  rw [catX_keys hk]
  have h1 := flat_le (n := 40) ((wsO vs).map (fun W => lvK W x)) (fun c hc => by
    obtain ⟨W, hW, rfl⟩ := List.mem_map.1 hc
    exact lvK_len (fun s hs => ((hG W hW).full s hs).2.2.2) x)
  rw [List.length_map] at h1
  have : (wsO vs).length ≤ 10 := hl
  omega
theorem rlevel1 {A : Nat → Prop} {h : Heap} {b c : Nat} {W : List SpanD} {kv : Value} {T : TypeId} (B : Blk h b [kv] T) (hk : RSpans A h kv W) (hb : A b) : RLevels A h (.slice (some ⟨b, 0, none⟩) 1 c) [W] :=
  ⟨by simp, _, _, rfl, fun i x hi => ⟨b, 0, rfl, hb, by
    cases i with
    | zero => simp at hi; subst hi; exact ⟨kv, B.cells, hk⟩
    | succ i => simp at hi⟩⟩
theorem some_wok : ∀ W, W ∈ [someW] → WOK W := fun W hW => by
  rw [List.mem_singleton.1 hW]
  exact good_wok some_good fun s hs k hk => by
    simp [someW] at hs; subst hs; simp at hk; subst hk; decide
theorem some_small : ∀ W, W ∈ [someW] → ∀ s, s ∈ W → SpanD.small s := fun W hW => by rw [List.mem_singleton.1 hW]; exact some_good.small
theorem some_bF : bndF someW = [⟨#[97]⟩, ⟨#[98]⟩] := by
  have h1 : addB [] ⟨#[97]⟩ = [⟨#[97]⟩] := by simp [addB, idxB]
  show addB (addB [] ⟨#[97]⟩) ⟨#[98]⟩ = _
  rw [h1]
  have h2 : idxB [⟨#[97]⟩] ⟨#[98]⟩ [(⟨#[97]⟩ : ByteArray)].length = 1 := if_pos ab_lt
  unfold addB
  rw [h2, if_neg (by simp)]
  rfl
theorem some_bnds : Bnds [someW] (bndF someW) := by
  have h := bnds_of (ws := [someW]) (fun W hW => by rw [List.mem_singleton.1 hW]; exact some_good.ord)
  have e : [someW].flatten = someW := by simp
  rw [e] at h; exact h
theorem some_bl : ∀ x, x ∈ bndF someW → x.data.toList.length ≤ 100000000000 := fun x hx => by
  rw [some_bF] at hx
  simp at hx
  rcases hx with rfl | rfl <;> decide
theorem some_mrg {vs : List Lev} {snap : Nat} (hvs : vs.map Lev.W = [someW]) : mrgW vs snap (bndF someW) = [⟨⟨#[97]⟩, ⟨#[98]⟩, kfM vs snap ⟨#[97]⟩⟩] := by
  have hc : cE someW ⟨#[97]⟩ = 1 := by
    show (if sle ⟨#[98]⟩ ⟨#[97]⟩ = true then 0 + 2 else if sle ⟨#[97]⟩ ⟨#[97]⟩ = true then 1 else 0) = 1
    rw [if_neg (by rw [not_sle.2 ab_lt]; decide), if_pos (sle_refl _)]
  have hcov : covB (wsO vs) ⟨#[97]⟩ = true := by
    show covB (vs.map Lev.W) _ = true
    rw [hvs]
    simp [covB, hc]
  rw [some_bF]
  have e1 : sgM vs snap [⟨#[97]⟩, ⟨#[98]⟩] = [⟨⟨#[97]⟩, ⟨#[98]⟩, kfM vs snap ⟨#[97]⟩⟩] := rfl
  have e2 : covF (wsO vs) ⟨⟨#[97]⟩, ⟨#[98]⟩, kfM vs snap ⟨#[97]⟩⟩ = some ⟨⟨#[97]⟩, ⟨#[98]⟩, kfM vs snap ⟨#[97]⟩⟩ := if_pos hcov
  unfold mrgW
  rw [e1, List.filterMap_cons, e2]; rfl
theorem some_walk {vs : List Lev} {snap : Nat} (hvs : vs.map Lev.W = [someW]) : walkP (mrgW vs snap (bndF someW)) .nowhere startS = [⟨true, true, ⟨⟨#[97]⟩, ⟨#[98]⟩, kfM vs snap ⟨#[97]⟩⟩⟩] := by
  rw [some_mrg hvs]; rfl
theorem c_FnSpanMerged (χ : Chi) (h : Heap) (A : Nat → Prop) (hA : Low A h) (v sv : Value) (ws : List (List SpanD)) (steps : List StepD) (snap : Nat) (hrg : ∀ W, W ∈ ws → KRng W) (hW : RLevels A h v ws) (hS : RSteps A h sv steps) :
    Cl Tryz.prog χ 4 #[v, .int .u64 (snap : Int), sv] h (fun r h' => r = .bool true ∧ Keep [] h h') := by
  have hW := RLevels.mono hW hA
  have hS := RSteps.mono hS hA
  obtain ⟨a, c, rfl⟩ := SlR.form2 hW
  obtain ⟨a2, c2, rfl⟩ := SlR.form2 hS
  refine cl_intro Tryz.func4 rfl rfl rfl ?_
  have K : Keep [] h h := Keep.refl _ _
  refine rG <| rA rfl rfl <| rN ?_
  refine tr_seq ?_
  refine tr_cut (fun E h' => Keep [] h h' ∧ E = [(0, .slice a ws.length c), (1, .int .u64 (snap : Int)), (2, .slice a2 steps.length c2), (6, .bool false), (15, .bool ((!fit3 ws) || (!fit8 steps)))]) ?_ ?_
  ·
    rcases bsplit2 (!fit3 ws) with g1 | g1
    · skip
      refine tr_reg ?_
      refine rM rfl rfl <| rs_w (w_call (vs := [_]) ok_laws_zzFits3 rfl ⟨rfl, trivial⟩ (c_zzFits3 χ h (All h) (all_low h) _ ws hW)) rfl ?_
      rintro _ h1 ⟨rfl, K1⟩
      have K := K.new0 K1; have Z1 := K1.1
      refine rs_v (v_not rfl) rfl ?_
      refine rM rfl rfl <| rs_gs rfl (lkb g1) rfl rfl <| rs_gs rfl (lkb g1) rfl rfl <| rs_gs rfl (lkb g1) rfl rfl <| rs_v (v_pick_t (lkb g1) rfl) rfl ?_
      refine rs_nil ?_
      exact q_cut [(0, _), (1, _), (2, _), (6, _), (15, _)] ⟨rfl, rfl, rfl, rfl, rfl, trivial⟩ ⟨K, by rw [show ((!fit3 ws) || (!fit8 steps)) = (true) from by simp only [g1, Bool.true_or, Bool.false_or]]⟩
    · skip
      refine tr_reg ?_
      refine rM rfl rfl <| rs_w (w_call (vs := [_]) ok_laws_zzFits3 rfl ⟨rfl, trivial⟩ (c_zzFits3 χ h (All h) (all_low h) _ ws hW)) rfl ?_
      rintro _ h2 ⟨rfl, K2⟩
      have K := K.new0 K2; have Z2 := K2.1
      refine rs_v (v_not rfl) rfl ?_
      refine rM rfl rfl <| rs_gv rfl (lkb g1) (v_move rfl) rfl ?_
      refine rs_gw rfl (lkb g1) (w_call (vs := [_]) ok_laws_zzFits8 rfl ⟨rfl, trivial⟩ (c_zzFits8 χ _ _ _ steps (RSteps.kk hS K))) rfl ?_
      rintro _ h3 ⟨rfl, K3⟩
      have K := K.new0 K3; have Z3 := K3.1
      refine rs_gv rfl (lkb g1) (v_not rfl) rfl ?_
      refine rs_v (v_pick_f (lkb g1) rfl) rfl ?_
      refine rs_nil ?_
      exact q_cut [(0, _), (1, _), (2, _), (6, _), (15, _)] ⟨rfl, rfl, rfl, rfl, rfl, trivial⟩ ⟨K, by rw [show ((!fit3 ws) || (!fit8 steps)) = (!fit8 steps) from by simp only [g1, Bool.true_or, Bool.false_or]]⟩
  rintro E h99 ⟨K, rfl⟩
  refine tr_if rfl (fun hif => ?_) (fun hif => ?_)
  · -- yes
    skip
    refine rG <| rA rfl rfl <| rN <| tr_ret <| q_thn_ret <| q_ret (res_tmp rfl rfl) ?_
    exact ⟨rfl, K⟩
  -- no
  simp only [Bool.or_eq_false_iff, Bool.not_eq_false'] at hif
  obtain ⟨hf3, hf8⟩ := hif
  refine tr_skip ?_
  refine q_thn ?_
  refine tr_seq ?_
  refine tr_cut (fun E h' => Keep [] h h' ∧ E = [(0, .slice a ws.length c), (1, .int .u64 (snap : Int)), (2, .slice a2 steps.length c2), (6, .bool false), (23, .bool ((!levB ws 12) || (decide ((60 : Int) < (steps.length : Int)))))]) ?_ ?_
  ·
    rcases bsplit2 (!levB ws 12) with g1 | g1
    · skip
      refine tr_reg ?_
      refine rM rfl rfl <| rs_w (w_call (vs := [_, _]) ok_laws_spanLevels rfl ⟨rfl, rfl, trivial⟩ (c_spanLevels χ _ _ (all_low _) _ ws 12 (RLevels.kk hW K))) rfl ?_
      rintro _ h5 ⟨rfl, K5⟩
      have K := K.new0 K5; have Z5 := K5.1
      refine rs_v (v_not rfl) rfl ?_
      refine rM rfl rfl <| rs_gs rfl (lkb g1) rfl rfl <| rs_gs rfl (lkb g1) rfl rfl <| rs_gs rfl (lkb g1) rfl rfl <| rs_v (v_pick_t (lkb g1) rfl) rfl ?_
      refine rs_nil ?_
      exact q_cut [(0, _), (1, _), (2, _), (6, _), (23, _)] ⟨rfl, rfl, rfl, rfl, rfl, trivial⟩ ⟨K, by rw [show ((!levB ws 12) || (decide ((60 : Int) < (steps.length : Int)))) = (true) from by simp only [g1, Bool.true_or, Bool.false_or]]⟩
    · skip
      refine tr_reg ?_
      refine rM rfl rfl <| rs_w (w_call (vs := [_, _]) ok_laws_spanLevels rfl ⟨rfl, rfl, trivial⟩ (c_spanLevels χ _ _ (all_low _) _ ws 12 (RLevels.kk hW K))) rfl ?_
      rintro _ h6 ⟨rfl, K6⟩
      have K := K.new0 K6; have Z6 := K6.1
      refine rs_v (v_not rfl) rfl ?_
      refine rM rfl rfl <| rs_gv rfl (lkb g1) (v_move rfl) rfl <| rs_gv rfl (lkb g1) (v_len u_sl_spec_Step rfl) rfl ?_
      refine rs_gv rfl (lkb g1) (v_gt rfl rfl) rfl ?_
      refine rs_v (v_pick_f (lkb g1) rfl) rfl ?_
      refine rs_nil ?_
      exact q_cut [(0, _), (1, _), (2, _), (6, _), (23, _)] ⟨rfl, rfl, rfl, rfl, rfl, trivial⟩ ⟨K, by rw [show ((!levB ws 12) || (decide ((60 : Int) < (steps.length : Int)))) = (decide ((60 : Int) < (steps.length : Int))) from by simp only [g1, Bool.true_or, Bool.false_or]]⟩
  rintro E h99 ⟨K, rfl⟩
  refine tr_if rfl (fun hif => ?_) (fun hif => ?_)
  · -- yes
    skip
    refine rG <| rA rfl rfl <| rN <| tr_ret <| q_thn_ret <| q_ret (res_tmp rfl rfl) ?_
    exact ⟨rfl, K⟩
  -- no
  simp only [Bool.or_eq_false_iff, Bool.not_eq_false', decide_eq_false_iff_not] at hif
  obtain ⟨hw, hl6⟩ := hif
  obtain ⟨hG, hws6, hW12⟩ := lev_good hf3 (by decide) hw
  have hk8 := fit8_small hf8
  have hn10 : ws.length ≤ 10 := by omega
  have hfl : ws.flatten.length ≤ 100 := by have := flat_le (n := 12) ws (fun W hW => by have := hW12 W hW; omega); omega
  have hbl := bnd_small hf3
  have hBn := bnds_of (fun W hW => (hG W hW).ord)
  have hwok := fun W hW => good_wok (hG W hW) (hrg W hW)
  refine tr_skip ?_
  refine q_thn ?_
  refine rG <| rM rfl rfl <| rM rfl rfl <| rs_w (w_call (vs := [_, _]) ok_spec_SpanMerged rfl ⟨rfl, rfl, trivial⟩ (c_specSpanMerged χ _ _ (all_low _) _ ws _ rfl snap (RLevels.kk hW K) hn10 hfl (fun W hW => by have := (hG W hW).len; omega) (fun W hW s hs => by have := ((hG W hW).full s hs).2.2.2; omega) hrg)) rfl ?_
  rintro hFv h8 ⟨hF, K8⟩
  have hF := RSpans.mono hF (upN K8)
  obtain ⟨hFa, hFc, rfl⟩ := SlR.form2 hF
  have K := K.new0 K8; have Z8 := K8.1
  refine rM rfl rfl <| rs_w (w_call (vs := [_, _]) ok_spec_SpanWalk rfl ⟨rfl, rfl, trivial⟩ (c_SpanWalk χ _ _ (all_low _) _ _ _ steps hF (RSteps.kk hS K) (by omega))) rfl ?_
  rintro hwantv h9 ⟨hwant, K9⟩
  have hwant := RAnss.mono hwant (upA K9)
  obtain ⟨hwanta, hwantc, rfl⟩ := SlR.form2 hwant
  have hF := RSpans.kk hF K9
  have K := K.new0 K9; have Z9 := K9.1
  refine rA rfl rfl <| rN <| rG <| rM rfl rfl <| rs_w (w_call (vs := [_]) ok_laws_toLevels rfl ⟨rfl, trivial⟩ (c_toLevels χ _ _ (all_low _) _ ws (RLevels.kk hW K) (by omega) (fun W hW => (hG W hW).n) (fun W hW => (hG W hW).few))) rfl ?_
  rintro hPv h10 ⟨hP, K10⟩
  have hP := RLevels.mono hP (upA K10)
  obtain ⟨hPa, hPc, rfl⟩ := SlR.form2 hP
  have hF := RSpans.kk hF K10
  have hwant := RAnss.kk hwant K10
  have K := K.new0 K10; have Z10 := K10.1
  refine rM rfl rfl <| rM rfl rfl <| rs_w (w_call (vs := [_]) ok_laws_toSteps rfl ⟨rfl, trivial⟩ (c_toSteps χ _ _ (all_low _) _ steps (RSteps.kk hS K) (by omega))) rfl ?_
  rintro hQv h11 ⟨hQ, K11⟩
  have hQ := RSteps.mono hQ (upA K11)
  obtain ⟨hQa, hQc, rfl⟩ := SlR.form2 hQ
  have hF := RSpans.kk hF K11
  have hwant := RAnss.kk hwant K11
  have hP := RLevels.kk hP K11
  have K := K.new0 K11; have Z11 := K11.1
  refine rs_w (w_call (vs := [_, _, _]) ok_impl_SpanMerged rfl ⟨rfl, rfl, rfl, trivial⟩ (c_implSpanMerged χ _ _ (all_low _) _ _ ws snap steps (bndF ws.flatten) hP hn10 hwok (fun W hW => (hG W hW).small) hBn hbl hQ (by omega) hk8)) rfl ?_
  rintro hgotv h12 ⟨⟨vs, vsw, vsk, hgot⟩, K12⟩
  have hgot := RAnss.mono hgot (upN K12)
  obtain ⟨hgota, hgotc, rfl⟩ := SlR.form2 hgot
  have hF := RSpans.kk hF K12
  have hwant := RAnss.kk hwant K12
  have hP := RLevels.kk hP K12
  have hQ := RSteps.kk hQ K12
  have K := K.new0 K12; have Z12 := K12.1
  refine rM rfl rfl <| rs_w (w_call (vs := [_, _]) ok_laws_spanAnswers rfl ⟨rfl, rfl, trivial⟩ (c_spanAnswers χ _ _ _ (all_low _) (all_low _) _ _ _ _ hgot hwant ((merged_alk vsw vsk hG hn10).walk _ _))) rfl ?_
  rintro _ h13 ⟨rfl, K13⟩
  have hF := RSpans.kk hF K13
  have hwant := RAnss.kk hwant K13
  have hP := RLevels.kk hP K13
  have hQ := RSteps.kk hQ K13
  have hgot := RAnss.kk hgot K13
  have K := K.new0 K13; have Z13 := K13.1
  refine rM rfl rfl ?_
  refine rs_gw rfl (rfl) (w_call (vs := []) ok_laws_spanSome rfl trivial (c_spanSome χ _)) rfl ?_
  rintro hP2v h14 ⟨hP2, K14⟩
  have hP2 := RSpans.mono hP2 (upN K14)
  obtain ⟨hP2a, hP2c, rfl⟩ := SlR.form2 hP2
  have hF := RSpans.kk hF K14
  have hwant := RAnss.kk hwant K14
  have hP := RLevels.kk hP K14
  have hQ := RSteps.kk hQ K14
  have hgot := RAnss.kk hgot K14
  have K := K.new0 K14; have Z14 := K14.1
  refine rs_gw rfl (rfl) (w_new1 u_sl_sl_impl_Span siz_sl_impl_Span zero_sl_impl_Span rfl rfl rfl rfl rfl) rfl ?_
  rintro _ h15 ⟨rfl, B15, K15, Z15⟩
  have hF := RSpans.kk hF K15
  have hwant := RAnss.kk hwant K15
  have hP := RLevels.kk hP K15
  have hQ := RSteps.kk hQ K15
  have hgot := RAnss.kk hgot K15
  have hP2 := RSpans.kk hP2 K15
  have S15 := K.1; have K := K.new0 K15
  refine rs_gw rfl (rfl) (w_call (vs := []) ok_laws_spanStart rfl trivial (c_spanStart χ _)) rfl ?_
  rintro hQ2v h16 ⟨hQ2, K16⟩
  have hQ2 := RSteps.mono hQ2 (upN K16)
  obtain ⟨hQ2a, hQ2c, rfl⟩ := SlR.form2 hQ2
  have B15 := K16.blk (by simp) B15
  have hF := RSpans.kk hF K16
  have hwant := RAnss.kk hwant K16
  have hP := RLevels.kk hP K16
  have hQ := RSteps.kk hQ K16
  have hgot := RAnss.kk hgot K16
  have hP2 := RSpans.kk hP2 K16
  have K := K.new0 K16; have Z16 := K16.1
  refine rs_gw rfl (rfl) (w_call (vs := [_, _, _]) ok_impl_SpanMerged rfl ⟨rfl, rfl, rfl, trivial⟩ (c_implSpanMerged χ _ _ (all_low _) _ _ [someW] 2 startS (bndF someW) (rlevel1 B15 hP2 B15.lt) (by decide) some_wok some_small some_bnds some_bl hQ2 (by decide) start_small)) rfl ?_
  rintro hg2v h17 ⟨⟨v2, v2w, v2k, hg2⟩, K17⟩
  have hg2 := RAnss.mono hg2 (upN K17)
  obtain ⟨hg2a, hg2c, rfl⟩ := SlR.form2 hg2
  rw [some_walk v2w] at hg2
  have B15 := K17.blk (by simp) B15
  have hF := RSpans.kk hF K17
  have hwant := RAnss.kk hwant K17
  have hP := RLevels.kk hP K17
  have hQ := RSteps.kk hQ K17
  have hgot := RAnss.kk hgot K17
  have hP2 := RSpans.kk hP2 K17
  have hQ2 := RSteps.kk hQ2 K17
  have K := K.new0 K17; have Z17 := K17.1
  refine rs_gw rfl (rfl) (w_call (vs := [_]) ok_laws_spanFound rfl ⟨rfl, trivial⟩ (c_spanFound χ _ _ _ _ hg2)) rfl ?_
  rintro _ h18 ⟨rfl, K18⟩
  have B15 := K18.blk (by simp) B15
  have hF := RSpans.kk hF K18
  have hwant := RAnss.kk hwant K18
  have hP := RLevels.kk hP K18
  have hQ := RSteps.kk hQ K18
  have hgot := RAnss.kk hgot K18
  have hP2 := RSpans.kk hP2 K18
  have hQ2 := RSteps.kk hQ2 K18
  have hg2 := RAnss.kk hg2 K18
  have K := K.new0 K18; have Z18 := K18.1
  refine rs_v (v_pick_t rfl rfl) rfl ?_
  refine rA rfl rfl <| rN <| tr_ret <| q_ret (res_tmp rfl rfl) ?_
  exact ⟨rfl, K⟩
open Go.Tess Go.ChangeShapes Go.WideShapes Go.ChangeAt Go.RowKit
def KRng1 (k : KeyD) : Prop := 0 ≤ k.tr ∧ k.tr < 18446744073709551616
theorem wf64 {n : Int} (h : (Lit.int .u64 n).wf = true) : 0 ≤ n ∧ n < 18446744073709551616 := by
  simp [Lit.wf, IntKind.min, IntKind.max, IntKind.bits, IntKind.signed] at h; omega
section
variable {H : Type} {enc : TypeId × Value → H} {χ : Chi} {h : Heap} {d : Nat} {sp : Nat → Bool} {hd : Bool}
theorem open_keyR {n : Nat} {cs : List Value} {x : DataW H × List MemPlace} (hx : DataW.trod enc Tryz.prog (mkw χ h d) 0 sp hd n 42 cs = some x) : ∃ k : KeyD, cs = k.cells ∧ KRng1 k := by
  have hl := struct_len st_key hx (sz := 3) (by kernel_rfl)
  match cs, hl with
  | [c0, c1, c2], _ =>
    obtain ⟨_, _, y0⟩ := field_open st_key hx 0 35 0 1 (by kernel_rfl) (by kernel_rfl)
    obtain ⟨_, _, y1⟩ := field_open st_key hx 1 9 1 1 (by kernel_rfl) (by kernel_rfl)
    obtain ⟨_, _, y2⟩ := field_open st_key hx 2 9 2 1 (by kernel_rfl) (by kernel_rfl)
    obtain ⟨i, e0, _, hw⟩ := DataW.trod_int u_uint64 y0
    obtain ⟨s, e1, _⟩ := DataW.trod_string u_string y1
    obtain ⟨u, e2, _⟩ := DataW.trod_string u_string y2
    cases e0; cases e1; cases e2
    exact ⟨⟨i, s, u⟩, rfl, wf64 hw⟩
theorem sl_all {α : Type} {A : Nat → Prop} {h : Heap} {sz : Nat} {R : Heap → Nat → Nat → α → Prop} {p : α → Prop} {v : Value} {xs : List α} (hs : SlR h A sz R v xs) (hp : ∀ b o a, R h b o a → p a) : ∀ a, a ∈ xs → p a := fun a ha => by
  obtain ⟨_, _, _, _, hx⟩ := hs
  obtain ⟨i, hi, e⟩ := List.mem_iff_getElem.1 ha
  obtain ⟨b, o, _, _, hr⟩ := hx i a (by rw [List.getElem?_eq_getElem hi, e])
  exact hp _ _ _ hr
theorem open_keysR {n : Nat} {v : Value} {x : DataW H × List MemPlace} (hx : DataW.trod enc Tryz.prog (mkw χ h d) 0 sp hd n 38 [v] = some x) : ∃ ks : List KeyD, RKeys (All h) h v ks ∧ ∀ k, k ∈ ks → KRng1 k := by
  obtain ⟨ks, hk⟩ := sl_open (R := fun cs (k : KeyD) => cs = k.cells ∧ KRng1 k) u_sl_spec_SpanKey (sz := 3) (by kernel_rfl) (by omega) (fun n cs x hx => open_keyR hx) hx
  exact ⟨ks, SlR.mono hk (fun _ h => h) fun b o x _ hc => by obtain ⟨cs, h1, rfl, _⟩ := hc; exact h1, sl_all hk fun b o a ⟨_, _, _, h⟩ => h⟩
theorem open_spanR {n : Nat} {cs : List Value} {x : DataW H × List MemPlace} (hx : DataW.trod enc Tryz.prog (mkw χ h d) 0 sp hd n 40 cs = some x) : ∃ s : SpanD, ∃ kv, cs = [.string s.s, .string s.e, kv] ∧ RKeys (All h) h kv s.ks ∧ ∀ k, k ∈ s.ks → KRng1 k := by
  have hl := struct_len st_span hx (sz := 3) (by kernel_rfl)
  match cs, hl with
  | [c0, c1, c2], _ =>
    obtain ⟨_, _, y0⟩ := field_open st_span hx 0 9 0 1 (by kernel_rfl) (by kernel_rfl)
    obtain ⟨_, _, y1⟩ := field_open st_span hx 1 9 1 1 (by kernel_rfl) (by kernel_rfl)
    obtain ⟨_, _, y2⟩ := field_open st_span hx 2 38 2 1 (by kernel_rfl) (by kernel_rfl)
    obtain ⟨s, e1, _⟩ := DataW.trod_string u_string y0
    obtain ⟨u, e2, _⟩ := DataW.trod_string u_string y1
    obtain ⟨ks, hk, hr⟩ := open_keysR y2
    cases e1; cases e2
    exact ⟨⟨s, u, ks⟩, _, rfl, hk, hr⟩
theorem open_spansR {n : Nat} {v : Value} {x : DataW H × List MemPlace} (hx : DataW.trod enc Tryz.prog (mkw χ h d) 0 sp hd n 25 [v] = some x) : ∃ W : List SpanD, RSpans (All h) h v W ∧ KRng W := by
  obtain ⟨W, hW⟩ := sl_open (R := fun cs (s : SpanD) => ∃ kv, cs = [.string s.s, .string s.e, kv] ∧ RKeys (All h) h kv s.ks ∧ ∀ k, k ∈ s.ks → KRng1 k) u_sl_spec_Span (sz := 3) (by kernel_rfl) (by omega) (fun n cs x hx => open_spanR hx) hx
  exact ⟨W, SlR.mono hW (fun _ h => h) fun b o x _ hc => by obtain ⟨cs, h1, kv, rfl, hk, _⟩ := hc; exact ⟨kv, h1, hk⟩, sl_all hW fun b o a ⟨_, _, _, _, _, h⟩ => h⟩
theorem open_levels {n : Nat} {v : Value} {x : DataW H × List MemPlace} (hx : DataW.trod enc Tryz.prog (mkw χ h d) 0 sp hd n 22 [v] = some x) : ∃ ws : List (List SpanD), RLevels (All h) h v ws ∧ ∀ W, W ∈ ws → KRng W := by
  obtain ⟨ws, hW⟩ := sl_open (R := fun cs (W : List SpanD) => ∃ v, cs = [v] ∧ RSpans (All h) h v W ∧ KRng W) u_sl_sl_spec_Span (sz := 1) (by kernel_rfl) (by omega) (fun n cs x hx => by
    have hcs : ∃ c0, cs = [c0] := by
      rcases DataW.trod_slice u_sl_spec_Span hx with ⟨e, _⟩ | ⟨_, _, _, _, _, _, _, e, _⟩
      · exact ⟨_, e⟩
      · exact ⟨_, e⟩
    obtain ⟨c0, rfl⟩ := hcs
    obtain ⟨W, h1, h2⟩ := open_spansR hx
    exact ⟨W, c0, rfl, h1, h2⟩) hx
  exact ⟨ws, SlR.mono hW (fun _ h => h) fun b o x _ hc => by obtain ⟨cs, h1, kv, rfl, hk, _⟩ := hc; exact ⟨kv, h1, hk⟩, sl_all hW fun b o a ⟨_, _, _, _, _, h⟩ => h⟩
end
end Go.Proofs.YtmckkklhonfmcaaGreat
