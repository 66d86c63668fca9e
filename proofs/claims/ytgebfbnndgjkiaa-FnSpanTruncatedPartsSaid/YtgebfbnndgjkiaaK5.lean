/- Texts W70 to W70, as far as the statement reaches them, laid together by a program of ours. Conditions: those that each theorem names. -/
import Derived.Test.YtgebfbnndgjkiaaK4
set_option linter.unusedVariables false
set_option linter.unusedSimpArgs false
set_option linter.unusedSectionVars false
namespace Go.Proofs.Ytgebfbnndgjkiaa
open Go.Tess Go.RowKit
set_option maxRecDepth 100000
set_option maxHeartbeats 2000000
abbrev tcF (x y : ByteArray) (s : SpanD) : Option SpanD := ffT none none x y s
theorem cmp_eq {a b : ByteArray} (h1 : sle a b = true) (h2 : sle b a = true) : a = b := by
  refine seq_iff.1 ?_
  have h3 := not_slt.2 h1
  have h4 := not_slt.2 h2
  simp only [sle] at h1
  rw [h4] at h1
  simpa using h1
theorem cutLo_x (x : ByteArray) (s : SpanD) : sle x (cutLo x s) = true := by
  unfold cutLo
  cases hq : slt s.s x with
  | true => rw [if_pos rfl]; exact sle_refl _
  | false => rw [if_neg (by decide)]; exact not_slt.1 hq
theorem cutUp_y (y : ByteArray) (s : SpanD) : sle (cutUp y s) y = true := by
  unfold cutUp
  cases hq : slt y s.e with
  | true => rw [if_pos rfl]; exact sle_refl _
  | false => rw [if_neg (by decide)]; exact not_slt.1 hq
theorem sle_ns {a b : ByteArray} (h : sle a b = true) : slt b a = false := not_slt.2 h
theorem cutLo_off {x : ByteArray} {s : SpanD} (h : sle x s.s = true) : cutLo x s = s.s := by unfold cutLo; rw [if_neg (by rw [sle_ns h]; decide)]
theorem cutLo_on {x : ByteArray} {s : SpanD} (h : sle s.s x = true) : cutLo x s = x := by
  unfold cutLo
  cases hq : slt s.s x with
  | true => rw [if_pos rfl]
  | false => rw [if_neg (by decide)]; exact cmp_eq h (not_slt.1 hq)
theorem cutUp_off {y : ByteArray} {s : SpanD} (h : sle s.e y = true) : cutUp y s = s.e := by unfold cutUp; rw [if_neg (by rw [sle_ns h]; decide)]
theorem cutUp_on {y : ByteArray} {s : SpanD} (h : sle y s.e = true) : cutUp y s = y := by
  unfold cutUp
  cases hq : slt y s.e with
  | true => rw [if_pos rfl]
  | false => rw [if_neg (by decide)]; exact cmp_eq (not_slt.1 hq) h
theorem tc_none {x y : ByteArray} {s : SpanD} (h : sle (cutUp y s) (cutLo x s) = true) : tcF x y s = none := by rw [tcF, ffT_plain, sle_ns h]; rfl
theorem tc_some {x y : ByteArray} {s : SpanD} (h : slt (cutLo x s) (cutUp y s) = true) : tcF x y s = some ⟨cutLo x s, cutUp y s, s.ks⟩ := by rw [tcF, ffT_plain, h]; rfl
/-- Lists that are joined to the same, whatever stands ahead. -/
def CutEq (L M : List SpanD) : Prop := dfr L = dfr M ∧ ∀ c, joinF c L = joinF c M
theorem CutEq.refl (L : List SpanD) : CutEq L L := ⟨rfl, fun _ => rfl⟩
theorem CutEq.cons {L M : List SpanD} (h : CutEq L M) (s : SpanD) : CutEq (s :: L) (s :: M) :=
  ⟨h.2 s, fun c => by simp only [joinF]; rw [h.2, h.2]⟩
theorem CutEq.cut (l b u : ByteArray) (k : List KeyD) (R : List SpanD) : CutEq (⟨l, b, k⟩ :: ⟨b, u, k⟩ :: R) (⟨l, u, k⟩ :: R) := by
  have e : ∀ c : SpanD, c.e = b → c.ks = k → joinF c (⟨b, u, k⟩ :: R) = joinF ⟨c.s, u, c.ks⟩ R := fun c h1 h2 => by simp only [joinF, jn_of (a := c) (b := ⟨b, u, k⟩) h1 h2, if_true]
  refine ⟨e _ rfl rfl, fun c => ?_⟩
  cases hj : jn c ⟨l, b, k⟩ with
  | true =>
    have hj2 : jn c ⟨l, u, k⟩ = true := hj
    have e1 : joinF c (⟨l, b, k⟩ :: ⟨b, u, k⟩ :: R) = joinF ⟨c.s, b, c.ks⟩ (⟨b, u, k⟩ :: R) := if_pos hj
    have e2 : joinF c (⟨l, u, k⟩ :: R) = joinF ⟨c.s, u, c.ks⟩ R := if_pos hj2
    rw [e1, e2]
    exact e ⟨c.s, b, c.ks⟩ rfl (jn_iff.1 hj).2
  | false =>
    have hj2 : jn c ⟨l, u, k⟩ = false := hj
    have e1 : joinF c (⟨l, b, k⟩ :: ⟨b, u, k⟩ :: R) = c :: joinF ⟨l, b, k⟩ (⟨b, u, k⟩ :: R) := if_neg (by rw [hj]; decide)
    have e2 : joinF c (⟨l, u, k⟩ :: R) = c :: joinF ⟨l, u, k⟩ R := if_neg (by rw [hj2]; decide)
    rw [e1, e2, e ⟨l, b, k⟩ rfl rfl]
def TL (x y : ByteArray) (W : List SpanD) : List SpanD := W.filterMap (ffT none none x y)
theorem TL_cons (x y : ByteArray) (s : SpanD) (r : List SpanD) : TL x y (s :: r) = (tcF x y s).toList ++ TL x y r := by
  unfold TL tcF
  rw [List.filterMap_cons]
  cases ffT none none x y s <;> rfl
/-- Behind the middle. -/
theorem tc_behind {a b c : ByteArray} {t : SpanD} (hab : sle a b = true) (h : sle b t.s = true) : tcF a b t = none ∧ tcF a c t = tcF b c t := by
  have h1 : sle a t.s = true := sle_trans hab h
  refine ⟨tc_none (by rw [cutLo_off h1]; exact sle_trans (cutUp_y b t) h), ?_⟩
  rw [tcF, tcF, ffT_plain, ffT_plain, cutLo_off h1, cutLo_off h]
theorem TL_behind {a b c : ByteArray} (hab : sle a b = true) : ∀ (W : List SpanD) (lo : ByteArray), OrdF lo W → sle b lo = true → TL a b W = [] ∧ TL a c W = TL b c W
  | [], _, _, _ => ⟨rfl, rfl⟩
  | t :: r, lo, h, hb => by
    have h1 := sle_trans hb h.1
    obtain ⟨e1, e2⟩ := tc_behind (c := c) hab h1
    obtain ⟨e3, e4⟩ := TL_behind (c := c) hab r t.e h.2.2 (sle_trans h1 (slt_sle h.2.1))
    rw [TL_cons, TL_cons, TL_cons, e1, e2, e3, e4]
    exact ⟨rfl, rfl⟩
theorem parts_cut {a b c : ByteArray} (hab : sle a b = true) (hbc : sle b c = true) : ∀ (W : List SpanD) (lo : ByteArray), OrdF lo W → CutEq (TL a b W ++ TL b c W) (TL a c W)
  | [], _, _ => CutEq.refl _
  | s :: r, lo, h => by
    cases he : sle s.e b with
    | true =>
      -- ahead of the middle
      have e1 : tcF a b s = tcF a c s := by rw [tcF, tcF, ffT_plain, ffT_plain, cutUp_off he, cutUp_off (sle_trans he hbc)]
      have e2 : tcF b c s = none := tc_none (sle_trans (cutUp_le c s) (sle_trans he (cutLo_x b s)))
      have ih := parts_cut hab hbc r s.e h.2.2
      rw [TL_cons, TL_cons, TL_cons, e1, e2]
      cases hq : tcF a c s with
      | none => exact ih
      | some t => exact ih.cons t
    | false =>
      have hbe : slt b s.e = true := not_sle.1 he
      obtain ⟨e3, e4⟩ := TL_behind (c := c) hab r s.e h.2.2 (slt_sle hbe)
      rw [TL_cons, TL_cons, TL_cons, e3, e4, List.append_nil]
      cases hs : sle b s.s with
      | true =>
        obtain ⟨e1, e2⟩ := tc_behind (c := c) hab hs
        rw [e1, e2]; exact CutEq.refl _
      | false =>
        have hsb : slt s.s b = true := not_sle.1 hs
        have f1 : cutUp b s = b := cutUp_on (slt_sle hbe)
        have f2 : cutLo b s = b := cutLo_on (slt_sle hsb)
        have hlb : sle (cutLo a s) b = true := by
          unfold cutLo; split
          · exact hab
          · exact slt_sle hsb
        have hbu : sle b (cutUp c s) = true := by
          unfold cutUp; split
          · exact hbc
          · exact slt_sle hbe
        cases h1 : slt (cutLo a s) b with
        | false =>
          have el : cutLo a s = b := cmp_eq hlb (not_slt.1 h1)
          have e1 : tcF a b s = none := tc_none (by rw [f1, el]; exact sle_refl _)
          have e2 : tcF a c s = tcF b c s := by rw [tcF, tcF, ffT_plain, ffT_plain, el, f2]
          rw [e1, e2]; exact CutEq.refl _
        | true =>
          have e1 : tcF a b s = some ⟨cutLo a s, b, s.ks⟩ := by rw [tc_some (by rw [f1]; exact h1), f1]
          cases h2 : slt b (cutUp c s) with
          | false =>
            have eu : cutUp c s = b := cmp_eq (not_slt.1 h2) hbu
            have e2 : tcF b c s = none := tc_none (by rw [f2, eu]; exact sle_refl _)
            have e5 : tcF a c s = some ⟨cutLo a s, b, s.ks⟩ := by rw [tc_some (by rw [eu]; exact h1), eu]
            rw [e1, e2, e5]; exact CutEq.refl _
          | true =>
            have e2 : tcF b c s = some ⟨b, cutUp c s, s.ks⟩ := by rw [tc_some (by rw [f2]; exact h2), f2]
            have e5 : tcF a c s = some ⟨cutLo a s, cutUp c s, s.ks⟩ := tc_some (slt_of_slt_sle h1 hbu)
            rw [e1, e2, e5]
            exact CutEq.cut _ _ _ _ _
theorem TL_ordF (x y : ByteArray) : ∀ (W : List SpanD) (lo : ByteArray), OrdF lo W → OrdF lo (TL x y W)
  | [], _, _ => trivial
  | s :: r, lo, h => by
    have ih := TL_ordF x y r s.e h.2.2
    rw [TL_cons]
    cases hq : slt (cutLo x s) (cutUp y s) with
    | true =>
      rw [tc_some hq]
      exact ⟨sle_trans h.1 (cutLo_ge x s), hq, ih.lo (cutUp_le y s)⟩
    | false =>
      rw [tc_none (not_slt.1 hq)]
      exact ih.lo (sle_trans h.1 (slt_sle h.2.1))
theorem TL_from (x y : ByteArray) {W : List SpanD} {lo : ByteArray} (h : OrdF lo W) : OrdF x (TL x y W) := by
  have h1 := TL_ordF x y W lo h
  cases hT : TL x y W with
  | nil => trivial
  | cons t r =>
    rw [hT] at h1
    refine ⟨?_, h1.2⟩
    have hm : t ∈ TL x y W := by rw [hT]; simp
    obtain ⟨s, _, hf⟩ := List.mem_filterMap.1 hm
    obtain ⟨_, rfl⟩ := ffT_some hf
    exact cutLo_x x s
theorem OrdF.app {lo b : ByteArray} {L M : List SpanD} (h : OrdF lo L) (hL : ∀ s, s ∈ L → sle s.e b = true) (hM : OrdF b M) (hlo : L = [] → sle lo b = true) : OrdF lo (L ++ M) := by
  induction L generalizing lo with
  | nil => exact hM.lo (hlo rfl)
  | cons s r ih => exact ⟨h.1, h.2.1, ih h.2.2 (fun t ht => hL t (by simp [ht])) (fun _ => hL s (by simp))⟩
theorem parts_ord {a b c : ByteArray} (hab : sle a b = true) {W : List SpanD} (hO : Tess.Ord W) : Tess.Ord (TL a b W ++ TL b c W) := by
  obtain ⟨lo, h⟩ := ordF_of_ord hO
  refine ord_of_ordF (lo := a) (OrdF.app (TL_from a b h) (fun t ht => ?_) (TL_from b c h) (fun _ => hab))
  obtain ⟨s, _, hf⟩ := List.mem_filterMap.1 ht
  obtain ⟨_, rfl⟩ := ffT_some hf
  exact cutUp_y b s
theorem TL_good {x y : ByteArray} {W : List SpanD} (hx : x.size ≤ 2147483647) (hy : y.size ≤ 2147483647) (hW : GoodD W) : GoodD (TL x y W) := by
  intro t ht
  obtain ⟨s, hs, hf⟩ := List.mem_filterMap.1 ht
  obtain ⟨_, rfl⟩ := ffT_some hf
  obtain ⟨g1, g2, g3, g4, g5⟩ := hW s hs
  refine ⟨g1, ?_, ?_, g4, g5⟩
  · show (cutLo x s).size ≤ _; unfold cutLo; split <;> assumption
  · show (cutUp y s).size ≤ _; unfold cutUp; split <;> assumption
theorem GoodD.app {L M : List SpanD} (h : GoodD L) (k : GoodD M) : GoodD (L ++ M) := fun s hs => (List.mem_append.1 hs).elim (h s) (k s)
theorem TL_desc {x y : ByteArray} {W : List SpanD} (h : ∀ s, s ∈ W → descB s.ks = true ∧ few s) : ∀ s, s ∈ TL x y W → descB s.ks = true ∧ few s := fun t ht => by
  obtain ⟨s, hs, hf⟩ := List.mem_filterMap.1 ht
  obtain ⟨_, rfl⟩ := ffT_some hf
  exact h s hs
theorem TL_len (x y : ByteArray) (W : List SpanD) : (TL x y W).length ≤ W.length := List.length_filterMap_le _ _
theorem parts_dfr {a b c : ByteArray} (hab : sle a b = true) (hbc : sle b c = true) {W : List SpanD} (hO : Tess.Ord W) : dfr (TL a b W ++ TL b c W) = dfr (TL a c W) := by
  obtain ⟨lo, h⟩ := ordF_of_ord hO
  exact (parts_cut hab hbc W lo h).1
/-- Spans' cells, all in a row. -/
theorem spans_row {A : Nat → Prop} {h : Heap} {v : Value} {L : List SpanD} (hL : RSpans A h v L) : ∃ a c news, v = .slice a L.length c ∧ news.length = L.length * 3 ∧ RowsR 3 (cSpan A h) news L ∧ (news = [] ∨ ∃ b o, a = some ⟨b, o, none⟩ ∧ CellsAt h b o news) ∧ ∀ u, u ∈ news → u.oneCell' = true := by
  obtain ⟨_, a, c, e, hx⟩ := SlR.form hL
  have one : ∀ (cs : List Value) (s : SpanD), cSpan A h cs s → cs.all (fun u => u.oneCell') = true := fun cs s hc => by
    obtain ⟨kv, rfl, hk⟩ := hc
    obtain ⟨ka, kc, rfl⟩ := hk.form2
    rfl
  rcases hx with rfl | ⟨b, o, rfl, hAb, hR⟩
  · exact ⟨a, c, [], e, rfl, RowsR.nil _ _, .inl rfl, by simp⟩
  · obtain ⟨news, h1, h2⟩ := rows_of (h := h) (b := b) (o := o) (sz := 3) (R := cSpan A h) (fun i x hi => by
      obtain ⟨kv, hc, hk⟩ := hR i x hi
      exact ⟨_, rfl, hc, kv, rfl, hk⟩) (by omega)
    exact ⟨_, c, news, e, h2.len, h2, .inr ⟨b, o, rfl, h1⟩, fun u hu => List.all_eq_true.1 (h2.all1 one) u hu⟩

theorem c_spanListO (χ : Chi) (h : Heap) (A : Nat → Prop) (hA : Low A h) (v : Value) (G : List AnsD) (hG : RAnss A h v G) (hn : G.length ≤ 100000) :
    Cl Try.prog χ 44 #[v] h (fun r h' => (∃ xs F n, n = (listOf G).length ∧ Own h' h.size 61 3 r n xs ∧ RowsR 3 (cSpan F h') xs (listOf G) ∧ ∀ b, F b → b ∉ r.ownBlock.toList ∧ b < h'.size) ∧ Keep [] h h') := by
  obtain ⟨hlen, a, c, rfl, hx⟩ := hG.form
  refine cl_intro Try.func44 rfl rfl rfl ?_
  have K : Keep [] h h := Keep.refl _ _
  refine tr_seq ?_
  refine tr_reg ?_
  refine rs_v (v_assign rfl) rfl ?_
  refine rs_nil ?_
  refine q_thn ?_
  refine tr_seq ?_
  refine tr_reg ?_
  refine rs_v (v_assign rfl) rfl ?_
  refine rs_nil ?_
  refine q_thn ?_
  refine tr_seq ?_
  refine tr_seq ?_
  refine tr_reg ?_
  refine rs_v (v_move rfl) rfl ?_
  refine rs_v (v_len u_sl_impl_SpanAnswer rfl) rfl ?_
  refine rs_v (v_move rfl) rfl ?_
  refine rs_nil ?_
  refine q_thn ?_
  refine tr_block ?_
  refine tr_loop (fun m E h' => ∃ k v n, k ≤ G.length ∧ m = G.length - k ∧ E = [(3, v), (6, .slice a G.length c), (7, .int .i64 (G.length : Int)), (8, .int .i64 (k : Int))] ∧ Keep [] h h' ∧ n = (listOf (G.take k)).length ∧ OutR A h h' h.size 61 3 cSpan v n (listOf (G.take k))) G.length [(3, _), (6, _), (7, _), (8, _)] ⟨rfl, rfl, rfl, rfl, trivial⟩ ⟨0, _, 0, Nat.zero_le _, rfl, rfl, K, rfl, OutR.nil _ _ _ _ _ _ _⟩ ?_
  rintro m E hL1 ⟨k, v, n, hk, rfl, rfl, K, hn, hout⟩
  have hout0 := hout
  obtain ⟨xs, F, O, hrow, hF⟩ := hout
  have KL0 := K.1
  have hob := own_ne O; have KL := Keep.refl [] hL1
  refine tr_seq ?_
  refine tr_reg ?_
  refine rs_v (v_lt rfl rfl) rfl ?_
  refine rs_nil ?_
  refine q_thn ?_
  refine tr_seq ?_
  refine tr_ifn rfl (fun hif => ?_) (fun hif => ?_)
  · -- no
    simp only [decide_eq_true_eq, decide_eq_false_iff_not] at hif
    have hkk : k = G.length := by omega
    subst hkk
    refine tr_exit ?_
    refine q_thn_exit ?_
    refine q_lp_exit ?_
    refine q_blk_hit ?_
    refine q_thn ?_
    refine tr_seq ?_
    refine tr_reg ?_
    refine rs_v (v_move rfl) rfl ?_
    refine rs_v (v_assign rfl) rfl ?_
    refine rs_nil ?_
    refine q_thn ?_
    refine tr_ret ?_
    refine q_ret (res_tmp rfl rfl) ?_
    rw [List.take_length] at hrow hn
    exact ⟨⟨xs, F, n, hn, O, hrow, fun b hb => ⟨(hF b hb).1, (hF b hb).2.1⟩⟩, K⟩
  -- yes
  simp only [decide_eq_true_eq, decide_eq_false_iff_not] at hif
  rcases hx with rfl | ⟨b, o, rfl, hAb, hR⟩
  · simp at hif; omega
  obtain ⟨x, hsk⟩ := ex_get (L := G) (k := k) (by omega)
  have hkl : k < G.length := (List.getElem?_eq_some_iff.1 hsk).1
  have KL0 := K.1
  obtain ⟨kv, hcc, hkx⟩ := hR k x hsk
  obtain ⟨ka, kc, rfl⟩ := hkx.form2
  have hcells := K.cells (by simp) hcc
  have hnk : n ≤ k := by rw [hn]; exact Nat.le_trans (listOf_le _) (by rw [List.length_take]; omega)
  refine tr_skip ?_
  refine q_thn ?_
  refine tr_seq ?_
  refine tr_block ?_
  refine tr_seq ?_
  refine tr_reg ?_
  refine rs_v (v_indexAddrN u_sl_impl_SpanAnswer siz_impl_SpanAnswer rfl rfl (by omega)) rfl ?_
  refine rs_v (v_loadAgg (vs := [_, _, _, _, _]) many_impl_SpanAnswer rfl (by exact hcells)) rfl ?_
  refine rs_w (w_new zero_impl_SpanAnswer) rfl ?_
  rintro _ h2 ⟨rfl, B2, K2, Z2⟩
  have O := O.keep2 K2 (fun x hm => by have := hob x hm; simp; try omega)
  have S2 := K.1; have K := K.new0 K2; have KL := KL.new0 K2
  refine rs_w0 (w_put siz_impl_SpanAnswer rfl rfl rfl rfl B2 rfl) ?_
  rintro _ h3 ⟨B3, K3⟩
  have O := O.keep2 K3 (fun x hm => by have := hob x hm; simp; try omega)
  have B2 := B3; have K := K.new1 K3 (by first | (right; omega) | (left; simp; done)); have Z3 := K3.1; have KL := KL.new1 K3 (.inr (by omega))
  refine rs_nil ?_
  refine q_thn ?_
  refine tr_seq ?_
  refine tr_reg ?_
  refine rs_v (v_fieldAddr fa_impl_SpanAnswer_1 rfl) rfl ?_
  refine rs_v (v_load one_bool rfl (by exact B2.cell _ rfl)) rfl ?_
  refine rs_nil ?_
  refine q_thn ?_
  refine tr_if rfl (fun hif => ?_) (fun hif => ?_)
  · -- yes
    skip
    refine tr_reg ?_
    refine rs_v (v_move rfl) rfl ?_
    refine rs_v (v_fieldAddr fa_impl_SpanAnswer_2 rfl) rfl ?_
    refine rs_v (v_loadAgg (vs := [_, _, _]) many_impl_Span rfl (by exact B2.sub _ 3 rfl)) rfl ?_
    refine rs_w (w_new1 u_sl_impl_Span siz_impl_Span zero_impl_Span rfl rfl rfl rfl rfl) rfl ?_
    rintro _ h4 ⟨rfl, B4, K4, Z4⟩
    have B2 := K4.blk (by simp) B2
    have O := O.keep2 K4 (fun x hm => by have := hob x hm; simp; try omega)
    have S4 := K.1; have K := K.new0 K4; have KL := KL.new0 K4
    refine rs_w (w_app1 u_sl_impl_Span info_impl_Span rfl rfl rfl O rfl rfl B4 rfl (by omega) (by omega) (by omega)) rfl ?_
    have K70 := K
    have KL70 := KL
    rintro v5 h5 ⟨O5, K5, N5, F5⟩
    have K := K.newX K5 (fun x hm => .inr (by have := hob x hm; omega)); have Z5 := K5.1
    have B2 := K5.blk (fun hm => by first | (have := hob _ hm; omega) | exact absurd rfl (hnb _ hm)) B2
    have B4 := K5.blk (fun hm => by first | (have := hob _ hm; omega) | exact absurd rfl (hnb _ hm)) B4
    refine rs_v (v_assign rfl) rfl ?_
    refine rs_nil ?_
    refine q_blk_n ?_
    refine q_thn ?_
    refine tr_reg ?_
    refine rs_v (v_add rfl rfl (by omega) (by omega)) rfl ?_
    refine rs_v (v_move rfl) rfl ?_
    refine rs_nil ?_
    refine q_lp (G.length - (k + 1)) [(3, _), (6, _), (7, _), (8, _)] (by omega) ⟨rfl, rfl, rfl, rfl, trivial⟩ ⟨k + 1, v5, n + 1, by omega, rfl, rfl, K, ?_, ?_⟩
    · rw [take_snoc' hsk, listOf_snoc, if_pos hif, List.length_append, ← hn]; rfl
    · rw [take_snoc' hsk, listOf_snoc, if_pos hif]
      exact OutR.snoc cSpan_st hA (by omega) hob hrow hF KL0 KL70 O5 K5 F5 rfl ⟨_, rfl, (hkx.stab (K70.st hA)).mono Up.old⟩
  -- no
  skip
  refine tr_skip ?_
  refine q_blk_n ?_
  refine q_thn ?_
  refine tr_reg ?_
  refine rs_v (v_add rfl rfl (by omega) (by omega)) rfl ?_
  refine rs_v (v_move rfl) rfl ?_
  refine rs_nil ?_
  refine q_lp (G.length - (k + 1)) [(3, _), (6, _), (7, _), (8, _)] (by omega) ⟨rfl, rfl, rfl, rfl, trivial⟩ ⟨k + 1, v, n, by omega, rfl, rfl, K, ?_, ?_⟩
  · rw [take_snoc' hsk, listOf_snoc, if_neg (by rw [hif]; decide)]; exact hn
  · rw [take_snoc' hsk, listOf_snoc, if_neg (by rw [hif]; decide)]
    exact hout0.keep cSpan_st KL
theorem c_FnSpanTruncatedParts (χ : Chi) (h : Heap) (A : Nat → Prop) (hA : Low A h) (v : Value) (W : List SpanD) (x y z : ByteArray) (hW : RSpans A h v W) :
    Cl Try.prog χ 11 #[v, .string x, .string y, .string z] h (fun r h' => r = .bool true ∧ Keep [] h h') := by
  have hW := RSpans.mono hW hA
  obtain ⟨a, c, rfl⟩ := SlR.form2 hW
  refine cl_intro Try.func11 rfl rfl rfl ?_
  have K : Keep [] h h := Keep.refl _ _
  refine tr_seq ?_
  refine tr_reg ?_
  refine rs_v (v_assign rfl) rfl ?_
  refine rs_nil ?_
  refine q_thn ?_
  refine tr_seq ?_
  refine tr_cut (fun E h' => Keep [] h h' ∧ E = [(0, .slice a W.length c), (1, .string x), (2, .string y), (3, .string z), (8, .bool false), (31, .bool ((!fit4 W) || (decide ((2147483647 : Int) < (x.size : Int))) || (decide ((2147483647 : Int) < (y.size : Int))) || (decide ((2147483647 : Int) < (z.size : Int)))))]) ?_ ?_
  ·
    rcases bsplit4 (!fit4 W) (decide ((2147483647 : Int) < (x.size : Int))) (decide ((2147483647 : Int) < (y.size : Int))) with g1 | ⟨g1, g2⟩ | ⟨g1, g2, g3⟩ | ⟨g1, g2, g3⟩
    · skip
      refine tr_reg ?_
      refine rs_v (v_move rfl) rfl ?_
      refine rs_w (w_call (vs := [_]) ok_laws_zzFits4 rfl ⟨rfl, trivial⟩ (c_zzFits4 χ h (All h) (all_low h) _ W hW)) rfl ?_
      rintro _ h1 ⟨rfl, K1⟩
      have K := K.new0 K1; have Z1 := K1.1
      refine rs_v (v_not rfl) rfl ?_
      refine rs_v (v_move rfl) rfl ?_
      refine rs_gs rfl (lkb g1) rfl rfl ?_
      refine rs_gs rfl (lkb g1) rfl rfl ?_
      refine rs_gs rfl (lkb g1) rfl rfl ?_
      refine rs_v (v_pick_t (lkb g1) rfl) rfl ?_
      refine rs_v (v_move rfl) rfl ?_
      refine rs_gs rfl (rfl) rfl rfl ?_
      refine rs_gs rfl (rfl) rfl rfl ?_
      refine rs_gs rfl (rfl) rfl rfl ?_
      refine rs_v (v_pick_t rfl rfl) rfl ?_
      refine rs_v (v_move rfl) rfl ?_
      refine rs_gs rfl (rfl) rfl rfl ?_
      refine rs_gs rfl (rfl) rfl rfl ?_
      refine rs_gs rfl (rfl) rfl rfl ?_
      refine rs_v (v_pick_t rfl rfl) rfl ?_
      refine rs_nil ?_
      exact q_cut [(0, _), (1, _), (2, _), (3, _), (8, _), (31, _)] ⟨rfl, rfl, rfl, rfl, rfl, rfl, trivial⟩ ⟨K, by rw [show ((!fit4 W) || (decide ((2147483647 : Int) < (x.size : Int))) || (decide ((2147483647 : Int) < (y.size : Int))) || (decide ((2147483647 : Int) < (z.size : Int)))) = (true) from by simp only [g1, Bool.true_or, Bool.false_or]]⟩
    · skip
      refine tr_reg ?_
      refine rs_v (v_move rfl) rfl ?_
      refine rs_w (w_call (vs := [_]) ok_laws_zzFits4 rfl ⟨rfl, trivial⟩ (c_zzFits4 χ h (All h) (all_low h) _ W hW)) rfl ?_
      rintro _ h2 ⟨rfl, K2⟩
      have K := K.new0 K2; have Z2 := K2.1
      refine rs_v (v_not rfl) rfl ?_
      refine rs_v (v_move rfl) rfl ?_
      refine rs_gv rfl (lkb g1) (v_move rfl) rfl ?_
      refine rs_gv rfl (lkb g1) (v_lenStr u_string rfl) rfl ?_
      refine rs_gv rfl (lkb g1) (v_gt rfl rfl) rfl ?_
      refine rs_v (v_pick_f (lkb g1) rfl) rfl ?_
      refine rs_v (v_move rfl) rfl ?_
      refine rs_gs rfl (lkb g2) rfl rfl ?_
      refine rs_gs rfl (lkb g2) rfl rfl ?_
      refine rs_gs rfl (lkb g2) rfl rfl ?_
      refine rs_v (v_pick_t (lkb g2) rfl) rfl ?_
      refine rs_v (v_move rfl) rfl ?_
      refine rs_gs rfl (rfl) rfl rfl ?_
      refine rs_gs rfl (rfl) rfl rfl ?_
      refine rs_gs rfl (rfl) rfl rfl ?_
      refine rs_v (v_pick_t rfl rfl) rfl ?_
      refine rs_nil ?_
      exact q_cut [(0, _), (1, _), (2, _), (3, _), (8, _), (31, _)] ⟨rfl, rfl, rfl, rfl, rfl, rfl, trivial⟩ ⟨K, by rw [show ((!fit4 W) || (decide ((2147483647 : Int) < (x.size : Int))) || (decide ((2147483647 : Int) < (y.size : Int))) || (decide ((2147483647 : Int) < (z.size : Int)))) = (true) from by simp only [g1, g2, Bool.true_or, Bool.false_or]]⟩
    · skip
      refine tr_reg ?_
      refine rs_v (v_move rfl) rfl ?_
      refine rs_w (w_call (vs := [_]) ok_laws_zzFits4 rfl ⟨rfl, trivial⟩ (c_zzFits4 χ h (All h) (all_low h) _ W hW)) rfl ?_
      rintro _ h3 ⟨rfl, K3⟩
      have K := K.new0 K3; have Z3 := K3.1
      refine rs_v (v_not rfl) rfl ?_
      refine rs_v (v_move rfl) rfl ?_
      refine rs_gv rfl (lkb g1) (v_move rfl) rfl ?_
      refine rs_gv rfl (lkb g1) (v_lenStr u_string rfl) rfl ?_
      refine rs_gv rfl (lkb g1) (v_gt rfl rfl) rfl ?_
      refine rs_v (v_pick_f (lkb g1) rfl) rfl ?_
      refine rs_v (v_move rfl) rfl ?_
      refine rs_gv rfl (lkb g2) (v_move rfl) rfl ?_
      refine rs_gv rfl (lkb g2) (v_lenStr u_string rfl) rfl ?_
      refine rs_gv rfl (lkb g2) (v_gt rfl rfl) rfl ?_
      refine rs_v (v_pick_f (lkb g2) rfl) rfl ?_
      refine rs_v (v_move rfl) rfl ?_
      refine rs_gs rfl (lkb g3) rfl rfl ?_
      refine rs_gs rfl (lkb g3) rfl rfl ?_
      refine rs_gs rfl (lkb g3) rfl rfl ?_
      refine rs_v (v_pick_t (lkb g3) rfl) rfl ?_
      refine rs_nil ?_
      exact q_cut [(0, _), (1, _), (2, _), (3, _), (8, _), (31, _)] ⟨rfl, rfl, rfl, rfl, rfl, rfl, trivial⟩ ⟨K, by rw [show ((!fit4 W) || (decide ((2147483647 : Int) < (x.size : Int))) || (decide ((2147483647 : Int) < (y.size : Int))) || (decide ((2147483647 : Int) < (z.size : Int)))) = (true) from by simp only [g1, g2, g3, Bool.true_or, Bool.false_or]]⟩
    · skip
      refine tr_reg ?_
      refine rs_v (v_move rfl) rfl ?_
      refine rs_w (w_call (vs := [_]) ok_laws_zzFits4 rfl ⟨rfl, trivial⟩ (c_zzFits4 χ h (All h) (all_low h) _ W hW)) rfl ?_
      rintro _ h4 ⟨rfl, K4⟩
      have K := K.new0 K4; have Z4 := K4.1
      refine rs_v (v_not rfl) rfl ?_
      refine rs_v (v_move rfl) rfl ?_
      refine rs_gv rfl (lkb g1) (v_move rfl) rfl ?_
      refine rs_gv rfl (lkb g1) (v_lenStr u_string rfl) rfl ?_
      refine rs_gv rfl (lkb g1) (v_gt rfl rfl) rfl ?_
      refine rs_v (v_pick_f (lkb g1) rfl) rfl ?_
      refine rs_v (v_move rfl) rfl ?_
      refine rs_gv rfl (lkb g2) (v_move rfl) rfl ?_
      refine rs_gv rfl (lkb g2) (v_lenStr u_string rfl) rfl ?_
      refine rs_gv rfl (lkb g2) (v_gt rfl rfl) rfl ?_
      refine rs_v (v_pick_f (lkb g2) rfl) rfl ?_
      refine rs_v (v_move rfl) rfl ?_
      refine rs_gv rfl (lkb g3) (v_move rfl) rfl ?_
      refine rs_gv rfl (lkb g3) (v_lenStr u_string rfl) rfl ?_
      refine rs_gv rfl (lkb g3) (v_gt rfl rfl) rfl ?_
      refine rs_v (v_pick_f (lkb g3) rfl) rfl ?_
      refine rs_nil ?_
      exact q_cut [(0, _), (1, _), (2, _), (3, _), (8, _), (31, _)] ⟨rfl, rfl, rfl, rfl, rfl, rfl, trivial⟩ ⟨K, by rw [show ((!fit4 W) || (decide ((2147483647 : Int) < (x.size : Int))) || (decide ((2147483647 : Int) < (y.size : Int))) || (decide ((2147483647 : Int) < (z.size : Int)))) = (decide ((2147483647 : Int) < (z.size : Int))) from by simp only [g1, g2, g3, Bool.true_or, Bool.false_or]]⟩
  rintro E h99 ⟨K, rfl⟩
  refine tr_if rfl (fun hif => ?_) (fun hif => ?_)
  · -- yes
    skip
    refine tr_seq ?_
    refine tr_reg ?_
    refine rs_v (v_assign rfl) rfl ?_
    refine rs_nil ?_
    refine q_thn ?_
    refine tr_ret ?_
    refine q_thn_ret ?_
    refine q_ret (res_tmp rfl rfl) ?_
    exact ⟨rfl, K⟩
  -- no
  simp only [Bool.or_eq_false_iff, Bool.not_eq_false', decide_eq_false_iff_not] at hif
  obtain ⟨⟨⟨hf4, hx⟩, hy⟩, hz⟩ := hif
  refine tr_skip ?_
  refine q_thn ?_
  refine tr_seq ?_
  refine tr_cut (fun E h' => Keep [] h h' ∧ E = [(0, .slice a W.length c), (1, .string x), (2, .string y), (3, .string z), (8, .bool false), (49, .bool ((!(mostB W 30 && wellB W)) || (!(sle x y)) || (!(sle y z)) || (decide ((W.length : Int) = 0))))]) ?_ ?_
  ·
    rcases bsplit4 (!(mostB W 30 && wellB W)) (!(sle x y)) (!(sle y z)) with g1 | ⟨g1, g2⟩ | ⟨g1, g2, g3⟩ | ⟨g1, g2, g3⟩
    · skip
      refine tr_reg ?_
      refine rs_v (v_move rfl) rfl ?_
      refine rs_w (w_call (vs := [_, _]) ok_laws_spanWell rfl ⟨rfl, rfl, trivial⟩ (c_spanWell χ _ _ (all_low _) _ W 30 (RSpans.kk hW K))) rfl ?_
      rintro _ h6 ⟨rfl, K6⟩
      have K := K.new0 K6; have Z6 := K6.1
      refine rs_v (v_not rfl) rfl ?_
      refine rs_v (v_move rfl) rfl ?_
      refine rs_gs rfl (lkb g1) rfl rfl ?_
      refine rs_gs rfl (lkb g1) rfl rfl ?_
      refine rs_gs rfl (lkb g1) rfl rfl ?_
      refine rs_v (v_pick_t (lkb g1) rfl) rfl ?_
      refine rs_v (v_move rfl) rfl ?_
      refine rs_gs rfl (rfl) rfl rfl ?_
      refine rs_gs rfl (rfl) rfl rfl ?_
      refine rs_gs rfl (rfl) rfl rfl ?_
      refine rs_v (v_pick_t rfl rfl) rfl ?_
      refine rs_v (v_move rfl) rfl ?_
      refine rs_gs rfl (rfl) rfl rfl ?_
      refine rs_gs rfl (rfl) rfl rfl ?_
      refine rs_gs rfl (rfl) rfl rfl ?_
      refine rs_v (v_pick_t rfl rfl) rfl ?_
      refine rs_nil ?_
      exact q_cut [(0, _), (1, _), (2, _), (3, _), (8, _), (49, _)] ⟨rfl, rfl, rfl, rfl, rfl, rfl, trivial⟩ ⟨K, by rw [show ((!(mostB W 30 && wellB W)) || (!(sle x y)) || (!(sle y z)) || (decide ((W.length : Int) = 0))) = (true) from by simp only [g1, Bool.true_or, Bool.false_or]]⟩
    · skip
      refine tr_reg ?_
      refine rs_v (v_move rfl) rfl ?_
      refine rs_w (w_call (vs := [_, _]) ok_laws_spanWell rfl ⟨rfl, rfl, trivial⟩ (c_spanWell χ _ _ (all_low _) _ W 30 (RSpans.kk hW K))) rfl ?_
      rintro _ h7 ⟨rfl, K7⟩
      have K := K.new0 K7; have Z7 := K7.1
      refine rs_v (v_not rfl) rfl ?_
      refine rs_v (v_move rfl) rfl ?_
      refine rs_gv rfl (lkb g1) (v_move rfl) rfl ?_
      refine rs_gv rfl (lkb g1) (v_move rfl) rfl ?_
      refine rs_gv rfl (lkb g1) (v_sgt rfl rfl) rfl ?_
      refine rs_v (v_pick_f (lkb g1) rfl) rfl ?_
      refine rs_v (v_move rfl) rfl ?_
      refine rs_gs rfl (lkb g2) rfl rfl ?_
      refine rs_gs rfl (lkb g2) rfl rfl ?_
      refine rs_gs rfl (lkb g2) rfl rfl ?_
      refine rs_v (v_pick_t (lkb g2) rfl) rfl ?_
      refine rs_v (v_move rfl) rfl ?_
      refine rs_gs rfl (rfl) rfl rfl ?_
      refine rs_gs rfl (rfl) rfl rfl ?_
      refine rs_gs rfl (rfl) rfl rfl ?_
      refine rs_v (v_pick_t rfl rfl) rfl ?_
      refine rs_nil ?_
      exact q_cut [(0, _), (1, _), (2, _), (3, _), (8, _), (49, _)] ⟨rfl, rfl, rfl, rfl, rfl, rfl, trivial⟩ ⟨K, by rw [show ((!(mostB W 30 && wellB W)) || (!(sle x y)) || (!(sle y z)) || (decide ((W.length : Int) = 0))) = (true) from by simp only [g1, g2, Bool.true_or, Bool.false_or]]⟩
    · skip
      refine tr_reg ?_
      refine rs_v (v_move rfl) rfl ?_
      refine rs_w (w_call (vs := [_, _]) ok_laws_spanWell rfl ⟨rfl, rfl, trivial⟩ (c_spanWell χ _ _ (all_low _) _ W 30 (RSpans.kk hW K))) rfl ?_
      rintro _ h8 ⟨rfl, K8⟩
      have K := K.new0 K8; have Z8 := K8.1
      refine rs_v (v_not rfl) rfl ?_
      refine rs_v (v_move rfl) rfl ?_
      refine rs_gv rfl (lkb g1) (v_move rfl) rfl ?_
      refine rs_gv rfl (lkb g1) (v_move rfl) rfl ?_
      refine rs_gv rfl (lkb g1) (v_sgt rfl rfl) rfl ?_
      refine rs_v (v_pick_f (lkb g1) rfl) rfl ?_
      refine rs_v (v_move rfl) rfl ?_
      refine rs_gv rfl (lkb g2) (v_move rfl) rfl ?_
      refine rs_gv rfl (lkb g2) (v_move rfl) rfl ?_
      refine rs_gv rfl (lkb g2) (v_sgt rfl rfl) rfl ?_
      refine rs_v (v_pick_f (lkb g2) rfl) rfl ?_
      refine rs_v (v_move rfl) rfl ?_
      refine rs_gs rfl (lkb g3) rfl rfl ?_
      refine rs_gs rfl (lkb g3) rfl rfl ?_
      refine rs_gs rfl (lkb g3) rfl rfl ?_
      refine rs_v (v_pick_t (lkb g3) rfl) rfl ?_
      refine rs_nil ?_
      exact q_cut [(0, _), (1, _), (2, _), (3, _), (8, _), (49, _)] ⟨rfl, rfl, rfl, rfl, rfl, rfl, trivial⟩ ⟨K, by rw [show ((!(mostB W 30 && wellB W)) || (!(sle x y)) || (!(sle y z)) || (decide ((W.length : Int) = 0))) = (true) from by simp only [g1, g2, g3, Bool.true_or, Bool.false_or]]⟩
    · skip
      refine tr_reg ?_
      refine rs_v (v_move rfl) rfl ?_
      refine rs_w (w_call (vs := [_, _]) ok_laws_spanWell rfl ⟨rfl, rfl, trivial⟩ (c_spanWell χ _ _ (all_low _) _ W 30 (RSpans.kk hW K))) rfl ?_
      rintro _ h9 ⟨rfl, K9⟩
      have K := K.new0 K9; have Z9 := K9.1
      refine rs_v (v_not rfl) rfl ?_
      refine rs_v (v_move rfl) rfl ?_
      refine rs_gv rfl (lkb g1) (v_move rfl) rfl ?_
      refine rs_gv rfl (lkb g1) (v_move rfl) rfl ?_
      refine rs_gv rfl (lkb g1) (v_sgt rfl rfl) rfl ?_
      refine rs_v (v_pick_f (lkb g1) rfl) rfl ?_
      refine rs_v (v_move rfl) rfl ?_
      refine rs_gv rfl (lkb g2) (v_move rfl) rfl ?_
      refine rs_gv rfl (lkb g2) (v_move rfl) rfl ?_
      refine rs_gv rfl (lkb g2) (v_sgt rfl rfl) rfl ?_
      refine rs_v (v_pick_f (lkb g2) rfl) rfl ?_
      refine rs_v (v_move rfl) rfl ?_
      refine rs_gv rfl (lkb g3) (v_move rfl) rfl ?_
      refine rs_gv rfl (lkb g3) (v_len u_sl_spec_Span rfl) rfl ?_
      refine rs_gv rfl (lkb g3) (v_eq rfl rfl) rfl ?_
      refine rs_v (v_pick_f (lkb g3) rfl) rfl ?_
      refine rs_nil ?_
      exact q_cut [(0, _), (1, _), (2, _), (3, _), (8, _), (49, _)] ⟨rfl, rfl, rfl, rfl, rfl, rfl, trivial⟩ ⟨K, by rw [show ((!(mostB W 30 && wellB W)) || (!(sle x y)) || (!(sle y z)) || (decide ((W.length : Int) = 0))) = (decide ((W.length : Int) = 0)) from by simp only [g1, g2, g3, Bool.true_or, Bool.false_or]]⟩
  rintro E h99 ⟨K, rfl⟩
  refine tr_if rfl (fun hif => ?_) (fun hif => ?_)
  · -- yes
    skip
    refine tr_seq ?_
    refine tr_reg ?_
    refine rs_v (v_assign rfl) rfl ?_
    refine rs_nil ?_
    refine q_thn ?_
    refine tr_ret ?_
    refine q_thn_ret ?_
    refine q_ret (res_tmp rfl rfl) ?_
    exact ⟨rfl, K⟩
  -- no
  simp only [Bool.or_eq_false_iff, Bool.not_eq_false', decide_eq_false_iff_not] at hif
  obtain ⟨⟨⟨hw, hxy⟩, hyz⟩, hl0⟩ := hif
  obtain ⟨hG, hl30⟩ := good_of (by decide) hf4 hw
  have hGC := canon_good hG
  have hGD := canon_goodD hG hf4
  have hCl : (W.map canonS).length = W.length := List.length_map _
  have hD0 := parts_dfr hxy hyz hGC.ord
  obtain ⟨D0, hDef⟩ : ∃ D0, dfr (TL x z (W.map canonS)) = D0 := ⟨_, rfl⟩
  rw [hDef] at hD0
  have hDd : ∀ s, s ∈ D0 → descB s.ks = true ∧ few s := by rw [← hDef]; exact dfr_desc (TL_desc (good_df hGC))
  have hDl : D0.length ≤ 30 := by rw [← hDef]; exact Nat.le_trans (dfr_len _) (Nat.le_trans (TL_len _ _ _) (by rw [hCl]; omega))
  have hDn : D0.length ≤ 100000 := by omega
  have hTxz := TL_good (by omega : x.size ≤ 2147483647) (by omega : z.size ≤ 2147483647) hGD
  have hPG := GoodD.app (TL_good (by omega : x.size ≤ 2147483647) (by omega : y.size ≤ 2147483647) hGD) (TL_good (by omega : y.size ≤ 2147483647) (by omega : z.size ≤ 2147483647) hGD)
  have hTl := TL_len x z (W.map canonS)
  have hPl : (TL x y (W.map canonS) ++ TL y z (W.map canonS)).length ≤ 60 := by
    rw [List.length_append]
    have := TL_len x y (W.map canonS)
    have := TL_len y z (W.map canonS)
    omega
  obtain ⟨lo9, hOF⟩ := ordF_of_ord hGC.ord
  obtain ⟨_, _, _, e9, hx9⟩ := SlR.form hW
  cases e9
  rcases hx9 with e9 | ⟨b0, o0, rfl, _, hR0⟩
  · rw [e9] at hl0; simp at hl0
  obtain ⟨s0, hs0k⟩ := ex_get (L := W) (k := 0) (by omega)
  obtain ⟨kv0, hc0, _⟩ := hR0 0 s0 hs0k
  have hcons : ∃ r, W = s0 :: r := by
    cases W with
    | nil => simp at hs0k
    | cons s r => simp at hs0k; subst hs0k; exact ⟨r, rfl⟩
  obtain ⟨r0, hcons⟩ := hcons
  have hs0m : s0 ∈ W := List.mem_of_getElem? hs0k
  have hs0 : s0.s.size ≤ 9223372036854775807 ∧ s0.e.size ≤ 9223372036854775807 := ⟨(hG.small s0 hs0m).1, (hG.small s0 hs0m).2.1⟩
  have hlt0 := (hG.full s0 hs0m).1
  have hcons2 : W.map canonS = canonS s0 :: r0.map canonS := by rw [hcons]; rfl
  refine tr_skip ?_
  refine q_thn ?_
  refine tr_seq ?_
  refine tr_reg ?_
  refine rs_v (v_move rfl) rfl ?_
  refine rs_w (w_call (vs := [_]) ok_laws_spanCanons rfl ⟨rfl, trivial⟩ (c_spanCanons χ _ _ (all_low _) _ W (RSpans.kk hW K) hG.n hG.few)) rfl ?_
  rintro hCv h11 ⟨hC, K11⟩
  have hC := RSpans.mono hC (upN K11)
  obtain ⟨hCa, hCc, rfl⟩ := SlR.form2 hC
  have K := K.new0 K11; have Z11 := K11.1
  refine rs_w (w_call (vs := [_]) ok_laws_toSpans rfl ⟨rfl, trivial⟩ (c_toSpans χ _ _ (all_low _) _ (W.map canonS) hC hGC.n hGC.few)) rfl ?_
  rintro hPv h12 ⟨hP, K12⟩
  have hP := RSpans.mono hP (upA K12)
  obtain ⟨hPa, hPc, rfl⟩ := SlR.form2 hP
  have hC := RSpans.kk hC K12
  have K := K.new0 K12; have Z12 := K12.1
  refine rs_v (v_assign rfl) rfl ?_
  refine rs_nil ?_
  refine q_thn ?_
  refine tr_seq ?_
  refine tr_reg ?_
  refine rs_v (v_move rfl) rfl ?_
  refine rs_v (v_move rfl) rfl ?_
  refine rs_v (v_move rfl) rfl ?_
  refine rs_w (w_call (vs := [_]) ok_laws_spanForth rfl ⟨rfl, trivial⟩ (c_spanForth χ _ 40 (by decide))) rfl ?_
  rintro hfov h13 ⟨⟨hfo, _⟩, K13⟩
  have hfo := RSteps.mono hfo (upN K13)
  obtain ⟨hfoa, hfoc, rfl⟩ := SlR.form2 hfo
  have hC := RSpans.kk hC K13
  have hP := RSpans.kk hP K13
  have K := K.new0 K13; have Z13 := K13.1
  refine rs_w (w_call (vs := [_, _, _, _]) ok_impl_SpanTruncated rfl ⟨rfl, rfl, rfl, rfl, trivial⟩ (c_implSpanTruncated χ _ _ (all_low _) _ _ (W.map canonS) (fwdS 40) x y hP hGC.n hGC.small hGC.ne hGC.ord (by omega) (by omega) hfo (by simp [fwdS]) (fwdS_small 40))) rfl ?_
  rintro htr0v h14 ⟨htr0, K14⟩
  have htr0 := RAnss.mono htr0 (upN K14)
  obtain ⟨htr0a, htr0c, rfl⟩ := SlR.form2 htr0
  have hC := RSpans.kk hC K14
  have hP := RSpans.kk hP K14
  have hfo := RSteps.kk hfo K14
  have K := K.new0 K14; have Z14 := K14.1
  refine rs_w (w_call (vs := [_]) ok_laws_spanList rfl ⟨rfl, trivial⟩ (c_spanListO χ _ _ (all_low _) _ _ htr0 (by rw [walkP_len]; simp [fwdS]))) rfl ?_
  rintro v58 h15 ⟨⟨xs1, F1, n1, hn1, O1, hrow1, hF1⟩, K15⟩
  rw [show (W.map canonS).filterMap (ffT none none x y) = TL x y (W.map canonS) from rfl, listOf_fwd _ 40 (Nat.le_trans (TL_len _ _ _) (by rw [hCl]; omega))] at hrow1 hn1
  obtain ⟨a58, c58, rfl⟩ := Own.form3 O1
  have hob1 := own_ne O1
  have hz1 := K.1
  have K1b : Keep [] h15 h15 := Keep.refl _ _
  have hPs := hP
  have KPs := K15
  have hC := RSpans.kk hC K15
  have hP := RSpans.kk hP K15
  have hfo := RSteps.kk hfo K15
  have htr0 := RAnss.kk htr0 K15
  have K := K.new0 K15; have Z15 := K15.1
  refine rs_v (v_move rfl) rfl ?_
  refine rs_v (v_move rfl) rfl ?_
  refine rs_v (v_move rfl) rfl ?_
  refine rs_w (w_call (vs := [_]) ok_laws_spanForth rfl ⟨rfl, trivial⟩ (c_spanForth χ _ 40 (by decide))) rfl ?_
  rintro hfo1v h16 ⟨⟨hfo1, _⟩, K16⟩
  have hfo1 := RSteps.mono hfo1 (upN K16)
  obtain ⟨hfo1a, hfo1c, rfl⟩ := SlR.form2 hfo1
  have hC := RSpans.kk hC K16
  have hP := RSpans.kk hP K16
  have hfo := RSteps.kk hfo K16
  have htr0 := RAnss.kk htr0 K16
  have O1 := O1.keep2 K16 (fun x hm => by simp)
  have K1b := K1b.new0 K16
  have KPs := KPs.new0 K16
  have K := K.new0 K16; have Z16 := K16.1
  refine rs_w (w_call (vs := [_, _, _, _]) ok_impl_SpanTruncated rfl ⟨rfl, rfl, rfl, rfl, trivial⟩ (c_implSpanTruncated χ _ _ (all_low _) _ _ (W.map canonS) (fwdS 40) y z hP hGC.n hGC.small hGC.ne hGC.ord (by omega) (by omega) hfo1 (by simp [fwdS]) (fwdS_small 40))) rfl ?_
  rintro htrv h17 ⟨htr, K17⟩
  obtain ⟨htra, htrc, rfl⟩ := SlR.form2 htr
  have hlo10 := (n0low _).up K17.1
  have hz9 := K1b.1
  have hC := RSpans.kk hC K17
  have hP := RSpans.kk hP K17
  have hfo := RSteps.kk hfo K17
  have htr0 := RAnss.kk htr0 K17
  have O1 := O1.keep2 K17 (fun x hm => by simp)
  have K1b := K1b.new0 K17
  have KPs := KPs.new0 K17
  have hfo1 := RSteps.kk hfo1 K17
  have K := K.new0 K17; have Z17 := K17.1
  refine rs_w (w_call (vs := [_]) ok_laws_spanList rfl ⟨rfl, trivial⟩ (c_spanList χ _ _ hlo10 _ _ htr (by rw [walkP_len]; simp [fwdS]))) rfl ?_
  rintro v64 h18 ⟨h64, K18⟩
  rw [show (W.map canonS).filterMap (ffT none none y z) = TL y z (W.map canonS) from rfl, listOf_fwd _ 40 (Nat.le_trans (TL_len _ _ _) (by rw [hCl]; omega))] at h64
  obtain ⟨a64, c64, news, rfl, hnl, hnr, hnc, hn1c⟩ := spans_row h64
  have hT1 := TL_len x y (W.map canonS)
  have hT2 := TL_len y z (W.map canonS)
  have hg64 : ∀ b, Up (Up N0 h16 h17) h17 h18 b → b ∉ (Value.slice a58 n1 c58).ownBlock.toList ∧ b < h18.size := fun b hb => by
    have hzq := K18.1
    rcases hb with (hb | hb) | hb
    · exact hb.elim
    · exact ⟨fun hm => by have := (hob1 b hm).2; omega, by omega⟩
    · exact ⟨fun hm => by have := (hob1 b hm).2; omega, hb.2⟩
  have hC := RSpans.kk hC K18
  have hP := RSpans.kk hP K18
  have hfo := RSteps.kk hfo K18
  have htr0 := RAnss.kk htr0 K18
  have O1 := O1.keep2 K18 (fun x hm => by simp)
  have K1b := K1b.new0 K18
  have KPs := KPs.new0 K18
  have hfo1 := RSteps.kk hfo1 K18
  have K := K.new0 K18; have Z18 := K18.1
  refine rs_w (w_appS (news := news) u_sl_impl_Span info_impl_Span rfl rfl rfl O1 rfl hnl hnc hn1c (by omega) (by omega) (by omega)) rfl ?_
  rintro v65 h19 ⟨O65, K19, F65⟩
  have hF1b : ∀ b, F1 b ∨ Up (Up N0 h16 h17) h17 h18 b → b ∉ (Value.slice a58 n1 c58).ownBlock.toList ∧ b < h18.size := fun b hb => hb.elim (fun e => ⟨(hF1 b e).1, by have := (hF1 b e).2; have := K1b.1; omega⟩) (hg64 b)
  have S65 : Stab (fun b => F1 b ∨ Up (Up N0 h16 h17) h17 h18 b) h18 h19 := fun b hb => K19.2 b (hF1b b hb).2 (hF1b b hb).1
  have hz65 := K19.1
  have hpar : RSpans (All h19) h19 v65 (TL x y (W.map canonS) ++ TL y z (W.map canonS)) := by
    refine SlR.of_rows O65 (by rw [List.length_append, ← hn1]) (RowsR.app (hrow1.mono fun c a hr => ?_) (hnr.mono fun c a hr => ?_)) (fun b _ hb => hb) (fun b o c a hc hr => cSpan_r (All h19) _ b o c a hc hr)
    · exact cSpan_st.mono _ _ _ _ _ (fun b hb => by have := (hF1 b hb).2; have := K1b.1; show b < _; omega) (cSpan_st.stab _ _ _ _ _ (fun b hb => (S65 b (.inl hb)).trans (K1b.2 b (hF1 b hb).2 (by simp))) hr)
    · exact cSpan_st.mono _ _ _ _ _ (fun b hb => by have := (hg64 b hb).2; show b < _; omega) (cSpan_st.stab _ _ _ _ _ (fun b hb => S65 b (.inr hb)) hr)
  have K := K.newX K19 (fun x hm => .inr (by have := (hob1 x hm).1; omega)); have Z19 := K19.1
  have hP := RSpans.mono (A' := All h19) (RSpans.stab hPs (fun b hb => (K19.2 b (Nat.lt_of_lt_of_le hb KPs.1) (fun hm => by have := (hob1 b hm).1; have hb2 : b < _ := hb; omega)).trans (KPs.2 b hb (by simp)))) (fun b hb => by have hb2 : b < _ := hb; have := KPs.1; show b < _; omega)
  obtain ⟨hpara, hparc, e9⟩ := SlR.form2 hpar
  subst e9
  refine rs_v (v_assign rfl) rfl ?_
  refine rs_nil ?_
  refine q_thn ?_
  refine tr_seq ?_
  refine tr_reg ?_
  refine rs_v (v_move rfl) rfl ?_
  refine rs_v (v_move rfl) rfl ?_
  refine rs_v (v_move rfl) rfl ?_
  refine rs_w (w_call (vs := [_]) ok_laws_spanForth rfl ⟨rfl, trivial⟩ (c_spanForth χ _ 40 (by decide))) rfl ?_
  rintro hfo2v h20 ⟨⟨hfo2, _⟩, K20⟩
  have hfo2 := RSteps.mono hfo2 (upN K20)
  obtain ⟨hfo2a, hfo2c, rfl⟩ := SlR.form2 hfo2
  have hpar := RSpans.kk hpar K20
  have hP := RSpans.kk hP K20
  have K := K.new0 K20; have Z20 := K20.1
  refine rs_w (w_call (vs := [_, _, _, _]) ok_impl_SpanTruncated rfl ⟨rfl, rfl, rfl, rfl, trivial⟩ (c_implSpanTruncated χ _ _ (all_low _) _ _ (W.map canonS) (fwdS 40) x z hP hGC.n hGC.small hGC.ne hGC.ord (by omega) (by omega) hfo2 (by simp [fwdS]) (fwdS_small 40))) rfl ?_
  rintro htr3v h21 ⟨htr3, K21⟩
  have htr3 := RAnss.mono htr3 (upN K21)
  obtain ⟨htr3a, htr3c, rfl⟩ := SlR.form2 htr3
  have hpar := RSpans.kk hpar K21
  have hP := RSpans.kk hP K21
  have hfo2 := RSteps.kk hfo2 K21
  have K := K.new0 K21; have Z21 := K21.1
  refine rs_w (w_call (vs := [_]) ok_laws_spanList rfl ⟨rfl, trivial⟩ (c_spanList χ _ _ (all_low _) _ _ htr3 (by rw [walkP_len]; simp [fwdS]))) rfl ?_
  rintro hwhv h22 ⟨hwh, K22⟩
  rw [show (W.map canonS).filterMap (ffT none none x z) = TL x z (W.map canonS) from rfl, listOf_fwd _ 40 (Nat.le_trans (TL_len _ _ _) (by rw [hCl]; omega))] at hwh
  have hwh := RSpans.mono hwh (upA K22)
  obtain ⟨hwha, hwhc, rfl⟩ := SlR.form2 hwh
  have hpar := RSpans.kk hpar K22
  have hP := RSpans.kk hP K22
  have hfo2 := RSteps.kk hfo2 K22
  have htr3 := RAnss.kk htr3 K22
  have K := K.new0 K22; have Z22 := K22.1
  refine rs_v (v_assign rfl) rfl ?_
  refine rs_nil ?_
  refine q_thn ?_
  refine tr_seq ?_
  refine tr_reg ?_
  refine rs_v (v_move rfl) rfl ?_
  refine rs_w (w_call (vs := [_]) ok_laws_spanForth rfl ⟨rfl, trivial⟩ (c_spanForth χ _ 80 (by decide))) rfl ?_
  rintro hfo4v h23 ⟨⟨hfo4, _⟩, K23⟩
  have hfo4 := RSteps.mono hfo4 (upN K23)
  obtain ⟨hfo4a, hfo4c, rfl⟩ := SlR.form2 hfo4
  have hpar := RSpans.kk hpar K23
  have hP := RSpans.kk hP K23
  have hfo2 := RSteps.kk hfo2 K23
  have htr3 := RAnss.kk htr3 K23
  have hwh := RSpans.kk hwh K23
  have K := K.new0 K23; have Z23 := K23.1
  refine rs_w (w_call (vs := [_, _]) ok_impl_SpanDefragmented rfl ⟨rfl, rfl, trivial⟩ (c_implSpanDefragmented χ _ _ (all_low _) _ _ (TL x y (W.map canonS) ++ TL y z (W.map canonS)) (fwdS 80) hpar (by omega) (fun s hs => sm_small (hPG s hs).2) (parts_ord hxy hGC.ord) hPG hfo4 (by simp [fwdS]) (fwdS_small 80))) rfl ?_
  rintro hg4v h24 ⟨hg4, K24⟩
  have hg4 := RAnss.mono hg4 (upN K24)
  obtain ⟨hg4a, hg4c, rfl⟩ := SlR.form2 hg4
  have hpar := RSpans.kk hpar K24
  have hP := RSpans.kk hP K24
  have hfo2 := RSteps.kk hfo2 K24
  have htr3 := RAnss.kk htr3 K24
  have hwh := RSpans.kk hwh K24
  have hfo4 := RSteps.kk hfo4 K24
  have K := K.new0 K24; have Z24 := K24.1
  refine rs_w (w_call (vs := [_]) ok_laws_spanList rfl ⟨rfl, trivial⟩ (c_spanList χ _ _ (all_low _) _ _ hg4 (by rw [walkP_len]; simp [fwdS]))) rfl ?_
  rintro honev h25 ⟨hone, K25⟩
  rw [hD0, listOf_fwd _ 80 (by omega)] at hone
  have hone := RSpans.mono hone (upA K25)
  obtain ⟨honea, honec, rfl⟩ := SlR.form2 hone
  have hpar := RSpans.kk hpar K25
  have hP := RSpans.kk hP K25
  have hfo2 := RSteps.kk hfo2 K25
  have htr3 := RAnss.kk htr3 K25
  have hwh := RSpans.kk hwh K25
  have hfo4 := RSteps.kk hfo4 K25
  have hg4 := RAnss.kk hg4 K25
  have K := K.new0 K25; have Z25 := K25.1
  refine rs_v (v_assign rfl) rfl ?_
  refine rs_nil ?_
  refine q_thn ?_
  refine tr_seq ?_
  refine tr_reg ?_
  refine rs_v (v_move rfl) rfl ?_
  refine rs_w (w_call (vs := [_]) ok_laws_spanForth rfl ⟨rfl, trivial⟩ (c_spanForth χ _ 80 (by decide))) rfl ?_
  rintro hfo5v h26 ⟨⟨hfo5, _⟩, K26⟩
  have hfo5 := RSteps.mono hfo5 (upN K26)
  obtain ⟨hfo5a, hfo5c, rfl⟩ := SlR.form2 hfo5
  have hpar := RSpans.kk hpar K26
  have hP := RSpans.kk hP K26
  have hfo2 := RSteps.kk hfo2 K26
  have htr3 := RAnss.kk htr3 K26
  have hwh := RSpans.kk hwh K26
  have hfo4 := RSteps.kk hfo4 K26
  have hg4 := RAnss.kk hg4 K26
  have hone := RSpans.kk hone K26
  have K := K.new0 K26; have Z26 := K26.1
  refine rs_w (w_call (vs := [_, _]) ok_impl_SpanDefragmented rfl ⟨rfl, rfl, trivial⟩ (c_implSpanDefragmented χ _ _ (all_low _) _ _ (TL x z (W.map canonS)) (fwdS 80) hwh (by omega) (fun s hs => sm_small (hTxz s hs).2) (ord_of_ordF (TL_ordF x z _ _ hOF)) hTxz hfo5 (by simp [fwdS]) (fwdS_small 80))) rfl ?_
  rintro hg5v h27 ⟨hg5, K27⟩
  have hg5 := RAnss.mono hg5 (upN K27)
  obtain ⟨hg5a, hg5c, rfl⟩ := SlR.form2 hg5
  have hpar := RSpans.kk hpar K27
  have hP := RSpans.kk hP K27
  have hfo2 := RSteps.kk hfo2 K27
  have htr3 := RAnss.kk htr3 K27
  have hwh := RSpans.kk hwh K27
  have hfo4 := RSteps.kk hfo4 K27
  have hg4 := RAnss.kk hg4 K27
  have hone := RSpans.kk hone K27
  have hfo5 := RSteps.kk hfo5 K27
  have K := K.new0 K27; have Z27 := K27.1
  refine rs_w (w_call (vs := [_]) ok_laws_spanList rfl ⟨rfl, trivial⟩ (c_spanList χ _ _ (all_low _) _ _ hg5 (by rw [walkP_len]; simp [fwdS]))) rfl ?_
  rintro htwov h28 ⟨htwo, K28⟩
  rw [hDef, listOf_fwd _ 80 (by omega)] at htwo
  have htwo := RSpans.mono htwo (upA K28)
  obtain ⟨htwoa, htwoc, rfl⟩ := SlR.form2 htwo
  have hpar := RSpans.kk hpar K28
  have hP := RSpans.kk hP K28
  have hfo2 := RSteps.kk hfo2 K28
  have htr3 := RAnss.kk htr3 K28
  have hwh := RSpans.kk hwh K28
  have hfo4 := RSteps.kk hfo4 K28
  have hg4 := RAnss.kk hg4 K28
  have hone := RSpans.kk hone K28
  have hfo5 := RSteps.kk hfo5 K28
  have hg5 := RAnss.kk hg5 K28
  have K := K.new0 K28; have Z28 := K28.1
  refine rs_v (v_assign rfl) rfl ?_
  refine rs_nil ?_
  refine q_thn ?_
  refine tr_seq ?_
  refine tr_any (Keep []) (keep_pre _) (by kernel_rfl) (by kernel_rfl) ?_
  refine rm_v (keep_pre _) (fun h' hk => v_move rfl) ?_
  refine rm_v (keep_pre _) (fun h' hk => v_move rfl) ?_
  refine rm_w (fun v h' => RSpans (All h') h' v D0) (fun v _ _ _ k2 hr => RSpans.kk hr k2) (fun h' hk => OpW.mono (w_call (vs := [_]) ok_laws_ofSpans rfl ⟨rfl, trivial⟩ (c_ofSpans χ h' _ (all_low _) _ _ (RSpans.kk htwo hk) hDn (fun s hs => (hDd s hs).2))) (fun v h'' hv => ⟨hv.2, RSpans.mono hv.1 (upA hv.2)⟩)) ?_
  refine rm_mk (.val (.bool true)) (fun _ _ _ _ _ h => h) (fun h' hk => om_open 82 rfl (by kernel_rfl) fun u hu => om_w (by simp) rfl (OpW.mono (w_call (vs := [_, _]) ok_laws_spanLike rfl ⟨rfl, rfl, trivial⟩ (c_spanLike χ h' _ _ (all_low _) (all_low _) _ _ _ _ (RSpans.kk hone hk) hu hDn hDn (fun s hs => (hDd s hs).2) (fun s hs => (hDd s hs).2) (Like.refl (fun s hs => (hDd s hs).1)))) (fun v h'' hv => ⟨hv.2, hv.1⟩))) ?_
  refine rm_v (keep_pre _) (fun h' hk => v_move rfl) ?_
  refine rm_gv (keep_pre _) rfl rfl (fun h' hk => v_move rfl) ?_
  refine rm_gv (keep_pre _) rfl rfl (fun h' hk => v_move rfl) ?_
  refine rm_gv (keep_pre _) rfl rfl (fun h' hk => v_indexAddrE (i := 0) u_sl_spec_Span siz_spec_Span rfl rfl rfl (by omega)) ?_
  refine rm_gv (keep_pre _) rfl rfl (fun h' hk => v_fieldAddr fa_spec_Span_0 rfl) ?_
  refine rm_gv (keep_pre _) rfl rfl (fun h' hk => v_load one_string rfl ((K.new0 hk).cell (by simp) (hc0.at 0 rfl))) ?_
  refine rm_gv (keep_pre _) rfl rfl (fun h' hk => v_move rfl) ?_
  refine rm_gv (keep_pre _) rfl rfl (fun h' hk => v_indexAddrE (i := 0) u_sl_spec_Span siz_spec_Span rfl rfl rfl (by omega)) ?_
  refine rm_gv (keep_pre _) rfl rfl (fun h' hk => v_fieldAddr fa_spec_Span_1 rfl) ?_
  refine rm_gv (keep_pre _) rfl rfl (fun h' hk => v_load one_string rfl ((K.new0 hk).cell (by simp) (hc0.at 1 rfl))) ?_
  refine rm_mk (.loose (fun v h' => RSteps (All h') h' v startS)) (fun v _ _ _ k2 hr => RSteps.kk hr k2) (fun h' hk => om_gt (by simp) rfl rfl rfl (OpW.mono (w_call (vs := []) ok_laws_spanStart rfl trivial (c_spanStart χ h')) (fun v h'' hv => ⟨hv.2, RSteps.mono hv.1 (upN hv.2)⟩))) ?_
  refine rm_mk (.loose (fun v h' => RAnss (All h') h' v [ansOf ((W.map canonS).filterMap (ffT none none (canonS s0).s (canonS s0).e)) (some (pFirst ((W.map canonS).filterMap (ffT none none (canonS s0).s (canonS s0).e))))])) (fun v _ _ _ k2 hr => RAnss.kk hr k2) (fun h' hk => om_open 94 rfl (by kernel_rfl) fun u2 hu2 => om_gt (by simp) rfl rfl rfl (OpW.mono (w_call (vs := [_, _, _, _]) ok_impl_SpanTruncated rfl ⟨rfl, rfl, rfl, rfl, trivial⟩ (c_implSpanTruncated χ h' _ (all_low _) _ _ (W.map canonS) startS s0.s s0.e (RSpans.kk hP hk) hGC.n hGC.small hGC.ne hGC.ord hs0.1 hs0.2 hu2 (by decide) start_small)) (fun v h'' hv => ⟨hv.2, RAnss.mono hv.1 (upN hv.2)⟩))) ?_
  refine rm_mk (.val (.bool true)) (fun _ _ _ _ _ h => h) (fun h' hk => om_open 95 rfl (by kernel_rfl) fun u hu => om_gt (by simp) rfl rfl rfl (OpW.mono (w_call (vs := [_]) ok_laws_spanFound rfl ⟨rfl, trivial⟩ (c_spanFound χ h' _ _ _ hu)) (fun v h'' hv => ⟨hv.2, by rw [hv.1, first_found hcons2 hlt0]; rfl⟩))) ?_
  refine rm_v (keep_pre _) (fun h' hk => v_pick_t rfl rfl) ?_
  refine rm_v (keep_pre _) (fun h' hk => v_assign rfl) ?_
  refine rm_end ?_; intro h29 K29; simp only [endM, hypF, ofE, argE, List.nil_append]
  intro v95 _ v94 _ v82 _
  have K := K.new0 K29
  refine q_thn ?_
  refine tr_ret ?_
  refine q_ret (res_tmp rfl rfl) ?_
  exact ⟨rfl, K⟩
end Go.Proofs.Ytgebfbnndgjkiaa
