/- Twenty-seventh part: keys in canonical order. Conditions: those that each theorem names. -/
import Derived.Test.YtgebfbnndgjkiaaW26
import Derived.Test.YtgebfbnndgjkiaaEngH
set_option linter.unusedVariables false
set_option linter.unusedSimpArgs false
namespace Go.Proofs.Ytgebfbnndgjkiaa
open Go.Tess Go.RowKit
set_option maxRecDepth 100000
set_option maxHeartbeats 1000000
/-- Whether the key at a place stands ahead of its neighbour on the left. -/
def lessAt (l : List KeyD) : Nat → Bool
  | 0 => false
  | j + 1 => match l[j + 1]?, l[j]? with
    | some a, some b => keyLess a b
    | _, _ => false
def swapAt (l : List KeyD) (j : Nat) : List KeyD :=
  match l[j + 1]?, l[j]? with
    | some a, some b => (l.set (j + 1) b).set j a
    | _, _ => l
/-- A key wanders to the left up to its place. -/
def insW (l : List KeyD) : Nat → List KeyD
  | 0 => l
  | j + 1 => if lessAt l (j + 1) then insW (swapAt l j) j else l
def canonF (ks : List KeyD) : List KeyD := ks.foldl (fun acc k => insW (acc ++ [k]) acc.length) []
theorem swapAt_len (l : List KeyD) (j : Nat) : (swapAt l j).length = l.length := by unfold swapAt; split <;> simp
theorem insW_len (l : List KeyD) (j : Nat) : (insW l j).length = l.length := by
  induction j generalizing l with
  | zero => rfl
  | succ j ih => simp only [insW]; split
                 · rw [ih, swapAt_len]
                 · rfl
theorem canonF_snoc (l : List KeyD) (x : KeyD) : canonF (l ++ [x]) = insW (canonF l ++ [x]) (canonF l).length := by simp only [canonF, List.foldl_append, List.foldl_cons, List.foldl_nil]
theorem canonF_len (l : List KeyD) : (canonF l).length = l.length := by
  have : ∀ (l acc : List KeyD), (l.foldl (fun acc k => insW (acc ++ [k]) acc.length) acc).length = acc.length + l.length := by
    intro l
    induction l with
    | nil => intro acc; simp
    | cons x l ih => intro acc; simp only [List.foldl_cons, ih, insW_len, List.length_append, List.length_cons, List.length_nil]; omega
  have := this l []
  simp only [List.length_nil, Nat.zero_add] at this
  exact this
theorem insW_stop {l : List KeyD} {j : Nat} (h : lessAt l j = false) : insW l j = l := by
  cases j with
  | zero => rfl
  | succ j => simp [insW, h]
theorem insW_go {l : List KeyD} {j : Nat} (h : lessAt l (j + 1) = true) : insW l (j + 1) = insW (swapAt l j) j := by simp [insW, h]

theorem c_SpanCanon (χ : Chi) (h : Heap) (A : Nat → Prop) (hA : Low A h) (v : Value) (ks : List KeyD) (hks : RKeys A h v ks) (hl : ks.length ≤ 100000) :
    Cl Try.prog χ 64 #[v] h (fun r h' => RKeys (Up N0 h h') h' r (canonF ks) ∧ Keep [] h h') := by
  obtain ⟨hlen, a, c, rfl, hx⟩ := hks.form
  refine cl_intro Try.func64 rfl rfl rfl ?_
  have K : Keep [] h h := Keep.refl _ _
  refine tr_seq ?_
  refine tr_reg ?_
  refine rs_v (v_assign rfl) rfl ?_
  refine rs_nil ?_
  refine q_thn ?_
  refine tr_seq ?_
  refine tr_reg ?_
  refine rs_v (v_assign rfl) rfl ?_
  refine rs_nil ?_
  refine q_thn ?_
  refine tr_seq ?_
  refine tr_seq ?_
  refine tr_reg ?_
  refine rs_v (v_move rfl) rfl ?_
  refine rs_v (v_len u_sl_spec_SpanKey rfl) rfl ?_
  refine rs_v (v_move rfl) rfl ?_
  refine rs_nil ?_
  refine q_thn ?_
  refine tr_block ?_
  refine tr_loop (fun m E h' => ∃ k v n, k ≤ ks.length ∧ m = ks.length - k ∧ E = [(3, v), (7, .slice a ks.length c), (8, .int .i64 (ks.length : Int)), (9, .int .i64 (k : Int))] ∧ Keep [] h h' ∧ n = (canonF (ks.take k)).length ∧ OutR N0 h h' h.size 102 3 cKey v n (canonF (ks.take k))) ks.length [(3, _), (7, _), (8, _), (9, _)] ⟨rfl, rfl, rfl, rfl, trivial⟩ ⟨0, _, 0, Nat.zero_le _, rfl, rfl, K, rfl, OutR.nil _ _ _ _ _ _ _⟩ ?_
  rintro m E hL1 ⟨k, v, n, hk, rfl, rfl, K, hn, hout⟩
  have hout0 := hout
  obtain ⟨xs, F, O, hrow, hF⟩ := hout
  have hob := own_ne O; have KL := Keep.refl [] hL1
  refine tr_seq ?_
  refine tr_reg ?_
  refine rs_v (v_lt rfl rfl) rfl ?_
  refine rs_nil ?_
  refine q_thn ?_
  refine tr_seq ?_
  refine tr_ifn rfl (fun hif => ?_) (fun hif => ?_)
  · -- no
    simp only [decide_eq_true_eq, decide_eq_false_iff_not] at hif
    have hkk : k = ks.length := by omega
    subst hkk
    refine tr_exit ?_
    refine q_thn_exit ?_
    refine q_lp_exit ?_
    refine q_blk_hit ?_
    refine q_thn ?_
    refine tr_seq ?_
    refine tr_reg ?_
    refine rs_v (v_move rfl) rfl ?_
    refine rs_v (v_assign rfl) rfl ?_
    refine rs_nil ?_
    refine q_thn ?_
    refine tr_ret ?_
    refine q_ret (res_tmp rfl rfl) ?_
    rw [List.take_length] at hout0 hn
    exact ⟨hout0.fin cKey_st hn (Nat.le_refl _) cKey_r, K⟩
  -- yes
  simp only [decide_eq_true_eq, decide_eq_false_iff_not] at hif
  rcases hx with rfl | ⟨b, o, rfl, hAb, hR⟩
  · simp at hif; omega
  obtain ⟨x, hsk⟩ := ex_get (L := ks) (k := k) (by omega)
  have hkl : k < ks.length := (List.getElem?_eq_some_iff.1 hsk).1
  have KL0 := K.1
  have hcells := K.cells (by simp) (hR k x hsk)
  have hnk : n = k := by rw [hn, canonF_len, List.length_take]; omega
  refine tr_skip ?_
  refine q_thn ?_
  refine tr_seq ?_
  refine tr_block ?_
  refine tr_seq ?_
  refine tr_reg ?_
  refine rs_v (v_indexAddrN u_sl_spec_SpanKey siz_spec_SpanKey rfl rfl (by omega)) rfl ?_
  refine rs_v (v_loadAgg (vs := [_, _, _]) many_spec_SpanKey rfl (by exact hcells)) rfl ?_
  refine rs_w (w_new zero_spec_SpanKey) rfl ?_
  rintro _ h2 ⟨rfl, B2, K2, Z2⟩
  have O := O.keep2 K2 (fun x hm => by have := hob x hm; simp; try omega)
  have S2 := K.1; have K := K.new0 K2; have KL := KL.new0 K2
  refine rs_w0 (w_put siz_spec_SpanKey rfl rfl rfl rfl B2 rfl) ?_
  rintro _ h3 ⟨B3, K3⟩
  have O := O.keep2 K3 (fun x hm => by have := hob x hm; simp; try omega)
  have B2 := B3; have K := K.new1 K3 (by first | (right; omega) | (left; simp; done)); have Z3 := K3.1; have KL := KL.new1 K3 (.inr (by omega))
  refine rs_nil ?_
  refine q_thn ?_
  refine tr_seq ?_
  refine tr_reg ?_
  refine rs_v (v_move rfl) rfl ?_
  refine rs_v (v_loadAgg (vs := [_, _, _]) many_spec_SpanKey rfl (by exact B2.sub _ 3 rfl)) rfl ?_
  refine rs_w (w_new1 u_sl_spec_SpanKey siz_spec_SpanKey zero_spec_SpanKey rfl rfl rfl rfl rfl) rfl ?_
  rintro _ h4 ⟨rfl, B4, K4, Z4⟩
  have B2 := K4.blk (by simp) B2
  have O := O.keep2 K4 (fun x hm => by have := hob x hm; simp; try omega)
  have S4 := K.1; have K := K.new0 K4; have KL := KL.new0 K4
  refine rs_w (w_app1 u_sl_spec_SpanKey info_spec_SpanKey rfl rfl rfl O rfl rfl B4 rfl (by omega) (by omega) (by omega)) rfl ?_
  rintro v5 h5 ⟨O5, K5, N5, F5⟩
  have K := K.newX K5 (fun x hm => .inr (by have := hob x hm; omega)); have Z5 := K5.1
  obtain ⟨g, c9, rfl, hgb, hgl, hcg4⟩ := own_some O5
  have B2 := K5.blk (fun hm => by have := hob _ hm; omega) B2
  have B4 := K5.blk (fun hm => by have := hob _ hm; omega) B4
  refine rs_v (v_assign rfl) rfl ?_
  refine rs_nil ?_
  refine q_thn ?_
  refine tr_seq ?_
  refine tr_reg ?_
  refine rs_v (v_move rfl) rfl ?_
  refine rs_v (v_len u_sl_spec_SpanKey rfl) rfl ?_
  refine rs_v (v_sub rfl rfl (by omega) (by omega)) rfl ?_
  refine rs_v (v_assign rfl) rfl ?_
  refine rs_nil ?_
  refine q_thn ?_
  refine tr_block ?_
  refine tr_loop (fun m E h' => ∃ j i l cs, i = ((j : Nat) : Int) ∧ j = m ∧ E = [(3, .slice (some ⟨g, 0, none⟩) (n + 1) c9), (7, .slice (some ⟨b, o, none⟩) ks.length c), (8, .int .i64 (ks.length : Int)), (9, .int .i64 (k : Int)), (6, .int .i64 i)] ∧ Keep [] h h' ∧ h4.size ≤ h'.size ∧ l.length = n + 1 ∧ j ≤ n ∧ insW l j = insW (canonF (ks.take k) ++ [x]) n ∧ Own h' h.size 102 3 (.slice (some ⟨g, 0, none⟩) (n + 1) c9) (n + 1) cs ∧ RowsR 3 (cKey N0 h) cs l) n [(3, _), (7, _), (8, _), (9, _), (6, _)] ⟨rfl, rfl, rfl, rfl, rfl, trivial⟩ ⟨n, (((n + 1 : Nat) : Int) - 1), _, _, by omega, rfl, rfl, K, by omega, by rw [List.length_append, ← hn]; rfl, Nat.le_refl _, rfl, O5, hrow.snoc rfl rfl⟩ ?_
  rintro m E hL6 ⟨j, i, l, cs, hij, rfl, rfl, K, hz3, hll, hjn, hins, O, hrowI⟩
  obtain ⟨g8, c8, e8, hg1, hg2, hcg⟩ := own_some O
  cases e8
  have hob := own_ne O; have KL := Keep.refl [] hL6
  refine tr_seq ?_
  refine tr_cut (fun E h' => Keep [] hL6 h' ∧ E = [(3, .slice (some ⟨g, 0, none⟩) (n + 1) c9), (7, .slice (some ⟨b, o, none⟩) ks.length c), (8, .int .i64 (ks.length : Int)), (9, .int .i64 (k : Int)), (6, .int .i64 i), (33, .bool (lessAt l j))]) ?_ ?_
  ·
    rcases Nat.eq_zero_or_pos j with g0 | g0
    · subst g0
      have g1 : decide ((0 : Int) < i) = false := decide_eq_false (by omega)
      refine tr_any (Keep []) (keep_pre _) (by kernel_rfl) (by kernel_rfl) ?_
      refine rm_v (keep_pre _) (fun h' hk => v_move rfl) ?_
      refine rm_v (keep_pre _) (fun h' hk => v_gt rfl rfl) ?_
      refine rm_v (keep_pre _) (fun h' hk => v_move rfl) ?_
      refine rm_gs (keep_pre _) rfl (lkm g1) rfl ?_
      refine rm_gs (keep_pre _) rfl (lkm g1) rfl ?_
      refine rm_gs (keep_pre _) rfl (lkm g1) rfl ?_
      refine rm_gs (keep_pre _) rfl (lkm g1) rfl ?_
      refine rm_gs (keep_pre _) rfl (lkm g1) rfl ?_
      refine rm_gs (keep_pre _) rfl (lkm g1) rfl ?_
      refine rm_gs (keep_pre _) rfl (lkm g1) rfl ?_
      refine rm_gs (keep_pre _) rfl (lkm g1) rfl ?_
      refine rm_gs (keep_pre _) rfl (lkm g1) rfl ?_
      refine rm_gs (keep_pre _) rfl (lkm g1) rfl ?_
      refine rm_v (keep_pre _) (fun h' hk => v_pick_f (lkb g1) rfl) ?_
      refine rm_end ?_; intro h7 K7; simp only [endM, hypF, ofE, argE, List.nil_append]
      have O := O.keep2 K7 (fun x hm => by have := hob x hm; simp; try omega)
      have K := K.new0 K7; have Z7 := K7.1
      refine q_cut [(3, _), (7, _), (8, _), (9, _), (6, _), (33, _)] ⟨rfl, rfl, rfl, rfl, rfl, rfl, trivial⟩ ⟨K7, ?_⟩
      rfl
    · obtain ⟨j, rfl⟩ : ∃ j', j = j' + 1 := ⟨j - 1, by omega⟩
      have g1 : decide ((0 : Int) < i) = true := decide_eq_true (by omega)
      obtain ⟨y, hy⟩ := ex_get (L := l) (k := j + 1) (by omega)
      obtain ⟨z, hz⟩ := ex_get (L := l) (k := j) (by omega)
      obtain ⟨cy, _, hcy, ey⟩ := hrowI.at hcg hy
      obtain ⟨cz, _, hcz, ez⟩ := hrowI.at hcg hz
      cases ey; cases ez
      have hle : lessAt l (j + 1) = keyLess y z := by simp [lessAt, hy, hz]
      refine tr_any (Keep []) (keep_pre _) (by kernel_rfl) (by kernel_rfl) ?_
      refine rm_v (keep_pre _) (fun h' hk => v_move rfl) ?_
      refine rm_v (keep_pre _) (fun h' hk => v_gt rfl rfl) ?_
      refine rm_v (keep_pre _) (fun h' hk => v_move rfl) ?_
      refine rm_gv (keep_pre _) rfl (lkm g1) (fun h' hk => v_move rfl) ?_
      refine rm_gv (keep_pre _) rfl (lkm g1) (fun h' hk => v_move rfl) ?_
      refine rm_gv (keep_pre _) rfl (lkm g1) (fun h' hk => v_indexAddrE (i := j + 1) u_sl_spec_SpanKey siz_spec_SpanKey rfl rfl hij (by omega)) ?_
      refine rm_gv (keep_pre _) rfl (lkm g1) (fun h' hk => v_loadAgg (vs := [_, _, _]) many_spec_SpanKey rfl (by exact hk.cells (by simp) hcy)) ?_
      refine rm_gv (keep_pre _) rfl (lkm g1) (fun h' hk => v_move rfl) ?_
      refine rm_gv (keep_pre _) rfl (lkm g1) (fun h' hk => v_move rfl) ?_
      refine rm_gv (keep_pre _) rfl (lkm g1) (fun h' hk => v_sub rfl rfl (by omega) (by omega)) ?_
      refine rm_gv (keep_pre _) rfl (lkm g1) (fun h' hk => v_indexAddrE (i := j) u_sl_spec_SpanKey siz_spec_SpanKey rfl rfl (by omega) (by omega)) ?_
      refine rm_gv (keep_pre _) rfl (lkm g1) (fun h' hk => v_loadAgg (vs := [_, _, _]) many_spec_SpanKey rfl (by exact hk.cells (by simp) hcz)) ?_
      refine rm_gc rfl (lkm g1) (fun h' hk => w_call (vs := [_, _]) ok_spec_spanKeyLess rfl ⟨rfl, rfl, trivial⟩ (c_spanKeyLess χ h' y z)) ?_
      refine rm_v (keep_pre _) (fun h' hk => v_pick_t (lkb g1) rfl) ?_
      refine rm_end ?_; intro h8 K8; simp only [endM, hypF, ofE, argE, List.nil_append]
      have O := O.keep2 K8 (fun x hm => by have := hob x hm; simp; try omega)
      have K := K.new0 K8; have Z8 := K8.1
      refine q_cut [(3, _), (7, _), (8, _), (9, _), (6, _), (33, _)] ⟨rfl, rfl, rfl, rfl, rfl, rfl, trivial⟩ ⟨K8, ?_⟩
      rw [hle]
  rintro E h9 ⟨K9, rfl⟩
  have K := K.new0 K9; have Z9 := K9.1
  have O := O.keep2 K9 (by simp)
  have hcg := K9.cells (by simp) hcg
  refine tr_ifn rfl (fun hif => ?_) (fun hif => ?_)
  · -- no
    skip
    refine tr_exit ?_
    refine q_thn_exit ?_
    refine q_lp_exit ?_
    refine q_blk_hit ?_
    refine q_blk_n ?_
    refine q_thn ?_
    refine tr_reg ?_
    refine rs_v (v_add rfl rfl (by omega) (by omega)) rfl ?_
    refine rs_v (v_move rfl) rfl ?_
    refine rs_nil ?_
    have hst : insW l j = l := insW_stop hif
    rw [hst] at hins
    refine q_lp (ks.length - (k + 1)) [(3, _), (7, _), (8, _), (9, _)] (by omega) ⟨rfl, rfl, rfl, rfl, trivial⟩ ⟨k + 1, _, n + 1, by omega, rfl, rfl, K, ?_, ?_⟩
    · rw [canonF_len, List.length_take]; omega
    · rw [take_snoc' hsk, canonF_snoc, ← hn, ← hins]
      exact ⟨cs, N0, O, hrowI, fun _ hb => hb.elim⟩
  -- yes
  skip
  refine tr_skip ?_
  refine q_thn ?_
  refine tr_seq ?_
  refine tr_block ?_
  obtain ⟨j, rfl⟩ : ∃ j', j = j' + 1 := by
    cases j with
    | zero => simp [lessAt] at hif
    | succ j => exact ⟨j, rfl⟩
  obtain ⟨y, hy⟩ := ex_get (L := l) (k := j + 1) (by omega)
  obtain ⟨z, hz⟩ := ex_get (L := l) (k := j) (by omega)
  obtain ⟨cy, _, hcy, ey⟩ := hrowI.at hcg hy
  obtain ⟨cz, _, hcz, ez⟩ := hrowI.at hcg hz
  cases ey; cases ez
  refine tr_draw [(true, 16), (false, 2)] _ (by kernel_rfl) (by kernel_rfl) (by kernel_rfl) ?_
  refine rx_one 15 ?_
  refine re_v rfl (by kernel_rfl) (v_move rfl) ?_
  refine re_v rfl (by kernel_rfl) (v_move rfl) ?_
  refine re_a rfl (fun h' => v_move rfl) ?_
  refine re_a rfl (fun h' => v_move rfl) ?_
  refine re_a rfl (fun h' => v_sub rfl rfl (by omega) (by omega)) ?_
  refine re_v rfl (by kernel_rfl) (v_move rfl) ?_
  refine re_v rfl (by kernel_rfl) (v_move rfl) ?_
  refine re_v rfl (by kernel_rfl) (v_sub rfl rfl (by omega) (by omega)) ?_
  refine re_v rfl (by kernel_rfl) (v_indexAddrE (i := j) u_sl_spec_SpanKey siz_spec_SpanKey rfl rfl (by omega) (by omega)) ?_
  refine re_v rfl (by kernel_rfl) (v_loadAgg (vs := [_, _, _]) many_spec_SpanKey rfl (by exact hcz)) ?_
  refine re_v rfl (by kernel_rfl) (v_move rfl) ?_
  refine re_v rfl (by kernel_rfl) (v_move rfl) ?_
  refine re_v rfl (by kernel_rfl) (v_indexAddrE (i := j + 1) u_sl_spec_SpanKey siz_spec_SpanKey rfl rfl (by omega) (by omega)) ?_
  refine re_v rfl (by kernel_rfl) (v_loadAgg (vs := [_, _, _]) many_spec_SpanKey rfl (by exact hcy)) ?_
  refine re_v rfl (by kernel_rfl) (v_indexAddrE (i := j + 1) u_sl_spec_SpanKey siz_spec_SpanKey rfl rfl (by omega) (by omega)) ?_
  refine re_w0 _ rfl (w_putOwn siz_spec_SpanKey rfl rfl rfl rfl O (Nat.zero_add _) (by omega)) ?_
  refine re_end ?_; intro hA2 _; simp only [endM, hypF, ofE, argE, List.nil_append]; rintro ⟨OA, KA⟩
  refine rx_seq ?_
  refine rs_v (v_indexAddrE (i := j) u_sl_spec_SpanKey siz_spec_SpanKey rfl rfl (by omega) (by omega)) rfl ?_
  refine rs_w0 (w_putOwn siz_spec_SpanKey rfl rfl rfl rfl OA (Nat.zero_add _) (by omega)) ?_
  rintro _ h10 ⟨OB, KB⟩
  have K := (K.new1 KA (.inr hg1)).new1 KB (.inr hg1); have ZB := KA.1; have ZC := KB.1
  refine rs_nil ?_
  refine q_con ?_
  refine rx_nil ?_
  refine q_blk_n ?_
  refine q_thn ?_
  refine tr_reg ?_
  refine rs_v (v_move rfl) rfl ?_
  refine rs_v (v_sub rfl rfl (by omega) (by omega)) rfl ?_
  refine rs_v (v_assign rfl) rfl ?_
  refine rs_nil ?_
  refine q_lp j [(3, _), (7, _), (8, _), (9, _), (6, _)] (by omega) ⟨rfl, rfl, rfl, rfl, rfl, trivial⟩ ⟨j, _, swapAt l j, _, by omega, rfl, rfl, K, by omega, by rw [swapAt_len]; exact hll, by omega, by rw [← hins, insW_go hif], OB, ?_⟩
  have e : swapAt l j = (l.set (j + 1) z).set j y := by simp [swapAt, hy, hz]
  rw [e]
  exact (hrowI.set rfl rfl (by omega)).set rfl rfl (by simp; omega)
end Go.Proofs.Ytgebfbnndgjkiaa
