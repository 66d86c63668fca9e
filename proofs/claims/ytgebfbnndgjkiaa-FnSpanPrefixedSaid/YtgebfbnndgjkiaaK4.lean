/- Texts W27 to W35, laid together by a program of ours. Conditions: those that each theorem names. -/
import Derived.Test.YtgebfbnndgjkiaaK3
import Derived.Test.YtgebfbnndgjkiaaRows
import Derived.ProofKit
import Derived.Deep.Slices
set_option linter.unusedVariables false
set_option linter.unusedSimpArgs false
set_option linter.unusedSectionVars false
/- Twenty-seventh part: keys in canonical order. Conditions: those that each theorem names. -/
namespace Go.Proofs.Ytgebfbnndgjkiaa
open Go.Tess Go.RowKit
set_option maxRecDepth 100000
set_option maxHeartbeats 1000000
/-- Whether the key at a place stands ahead of its neighbour on the left. -/
def lessAt (l : List KeyD) : Nat → Bool
  | 0 => false
  | j + 1 => match l[j + 1]?, l[j]? with
    | some a, some b => keyLess a b
    | _, _ => false
def swapAt (l : List KeyD) (j : Nat) : List KeyD :=
  match l[j + 1]?, l[j]? with
    | some a, some b => (l.set (j + 1) b).set j a
    | _, _ => l
/-- A key wanders to the left up to its place. -/
def insW (l : List KeyD) : Nat → List KeyD
  | 0 => l
  | j + 1 => if lessAt l (j + 1) then insW (swapAt l j) j else l
def canonF (ks : List KeyD) : List KeyD := ks.foldl (fun acc k => insW (acc ++ [k]) acc.length) []
theorem swapAt_len (l : List KeyD) (j : Nat) : (swapAt l j).length = l.length := by unfold swapAt; split <;> simp
theorem insW_len (l : List KeyD) (j : Nat) : (insW l j).length = l.length := by
  induction j generalizing l with
  | zero => rfl
  | succ j ih => simp only [insW]; split
                 · rw [ih, swapAt_len]
                 · rfl
theorem canonF_snoc (l : List KeyD) (x : KeyD) : canonF (l ++ [x]) = insW (canonF l ++ [x]) (canonF l).length := by simp only [canonF, List.foldl_append, List.foldl_cons, List.foldl_nil]
theorem canonF_len (l : List KeyD) : (canonF l).length = l.length := by
  have : ∀ (l acc : List KeyD), (l.foldl (fun acc k => insW (acc ++ [k]) acc.length) acc).length = acc.length + l.length := by
    intro l
    induction l with
    | nil => intro acc; simp
    | cons x l ih => intro acc; simp only [List.foldl_cons, ih, insW_len, List.length_append, List.length_cons, List.length_nil]; omega
  have := this l []
  simp only [List.length_nil, Nat.zero_add] at this
  exact this
theorem insW_stop {l : List KeyD} {j : Nat} (h : lessAt l j = false) : insW l j = l := by
  cases j with
  | zero => rfl
  | succ j => simp [insW, h]
theorem insW_go {l : List KeyD} {j : Nat} (h : lessAt l (j + 1) = true) : insW l (j + 1) = insW (swapAt l j) j := by simp [insW, h]

theorem c_SpanCanon (χ : Chi) (h : Heap) (A : Nat → Prop) (hA : Low A h) (v : Value) (ks : List KeyD) (hks : RKeys A h v ks) (hl : ks.length ≤ 100000) :
    Cl Try.prog χ 64 #[v] h (fun r h' => RKeys (Up N0 h h') h' r (canonF ks) ∧ Keep [] h h') := by
  obtain ⟨hlen, a, c, rfl, hx⟩ := hks.form
  refine cl_intro Try.func64 rfl rfl rfl ?_
  have K : Keep [] h h := Keep.refl _ _
  refine tr_seq ?_
  refine tr_reg ?_
  refine rs_v (v_assign rfl) rfl ?_
  refine rs_nil ?_
  refine q_thn ?_
  refine tr_seq ?_
  refine tr_reg ?_
  refine rs_v (v_assign rfl) rfl ?_
  refine rs_nil ?_
  refine q_thn ?_
  refine tr_seq ?_
  refine tr_seq ?_
  refine tr_reg ?_
  refine rs_v (v_move rfl) rfl ?_
  refine rs_v (v_len u_sl_spec_SpanKey rfl) rfl ?_
  refine rs_v (v_move rfl) rfl ?_
  refine rs_nil ?_
  refine q_thn ?_
  refine tr_block ?_
  refine tr_loop (fun m E h' => ∃ k v n, k ≤ ks.length ∧ m = ks.length - k ∧ E = [(3, v), (7, .slice a ks.length c), (8, .int .i64 (ks.length : Int)), (9, .int .i64 (k : Int))] ∧ Keep [] h h' ∧ n = (canonF (ks.take k)).length ∧ OutR N0 h h' h.size 102 3 cKey v n (canonF (ks.take k))) ks.length [(3, _), (7, _), (8, _), (9, _)] ⟨rfl, rfl, rfl, rfl, trivial⟩ ⟨0, _, 0, Nat.zero_le _, rfl, rfl, K, rfl, OutR.nil _ _ _ _ _ _ _⟩ ?_
  rintro m E hL1 ⟨k, v, n, hk, rfl, rfl, K, hn, hout⟩
  have hout0 := hout
  obtain ⟨xs, F, O, hrow, hF⟩ := hout
  have hob := own_ne O; have KL := Keep.refl [] hL1
  refine tr_seq ?_
  refine tr_reg ?_
  refine rs_v (v_lt rfl rfl) rfl ?_
  refine rs_nil ?_
  refine q_thn ?_
  refine tr_seq ?_
  refine tr_ifn rfl (fun hif => ?_) (fun hif => ?_)
  · -- no
    simp only [decide_eq_true_eq, decide_eq_false_iff_not] at hif
    have hkk : k = ks.length := by omega
    subst hkk
    refine tr_exit ?_
    refine q_thn_exit ?_
    refine q_lp_exit ?_
    refine q_blk_hit ?_
    refine q_thn ?_
    refine tr_seq ?_
    refine tr_reg ?_
    refine rs_v (v_move rfl) rfl ?_
    refine rs_v (v_assign rfl) rfl ?_
    refine rs_nil ?_
    refine q_thn ?_
    refine tr_ret ?_
    refine q_ret (res_tmp rfl rfl) ?_
    rw [List.take_length] at hout0 hn
    exact ⟨hout0.fin cKey_st hn (Nat.le_refl _) cKey_r, K⟩
  -- yes
  simp only [decide_eq_true_eq, decide_eq_false_iff_not] at hif
  rcases hx with rfl | ⟨b, o, rfl, hAb, hR⟩
  · simp at hif; omega
  obtain ⟨x, hsk⟩ := ex_get (L := ks) (k := k) (by omega)
  have hkl : k < ks.length := (List.getElem?_eq_some_iff.1 hsk).1
  have KL0 := K.1
  have hcells := K.cells (by simp) (hR k x hsk)
  have hnk : n = k := by rw [hn, canonF_len, List.length_take]; omega
  refine tr_skip ?_
  refine q_thn ?_
  refine tr_seq ?_
  refine tr_block ?_
  refine tr_seq ?_
  refine tr_reg ?_
  refine rs_v (v_indexAddrN u_sl_spec_SpanKey siz_spec_SpanKey rfl rfl (by omega)) rfl ?_
  refine rs_v (v_loadAgg (vs := [_, _, _]) many_spec_SpanKey rfl (by exact hcells)) rfl ?_
  refine rs_w (w_new zero_spec_SpanKey) rfl ?_
  rintro _ h2 ⟨rfl, B2, K2, Z2⟩
  have O := O.keep2 K2 (fun x hm => by have := hob x hm; simp; try omega)
  have S2 := K.1; have K := K.new0 K2; have KL := KL.new0 K2
  refine rs_w0 (w_put siz_spec_SpanKey rfl rfl rfl rfl B2 rfl) ?_
  rintro _ h3 ⟨B3, K3⟩
  have O := O.keep2 K3 (fun x hm => by have := hob x hm; simp; try omega)
  have B2 := B3; have K := K.new1 K3 (by first | (right; omega) | (left; simp; done)); have Z3 := K3.1; have KL := KL.new1 K3 (.inr (by omega))
  refine rs_nil ?_
  refine q_thn ?_
  refine tr_seq ?_
  refine tr_reg ?_
  refine rs_v (v_move rfl) rfl ?_
  refine rs_v (v_loadAgg (vs := [_, _, _]) many_spec_SpanKey rfl (by exact B2.sub _ 3 rfl)) rfl ?_
  refine rs_w (w_new1 u_sl_spec_SpanKey siz_spec_SpanKey zero_spec_SpanKey rfl rfl rfl rfl rfl) rfl ?_
  rintro _ h4 ⟨rfl, B4, K4, Z4⟩
  have B2 := K4.blk (by simp) B2
  have O := O.keep2 K4 (fun x hm => by have := hob x hm; simp; try omega)
  have S4 := K.1; have K := K.new0 K4; have KL := KL.new0 K4
  refine rs_w (w_app1 u_sl_spec_SpanKey info_spec_SpanKey rfl rfl rfl O rfl rfl B4 rfl (by omega) (by omega) (by omega)) rfl ?_
  rintro v5 h5 ⟨O5, K5, N5, F5⟩
  have K := K.newX K5 (fun x hm => .inr (by have := hob x hm; omega)); have Z5 := K5.1
  obtain ⟨g, c9, rfl, hgb, hgl, hcg4⟩ := own_some O5
  have B2 := K5.blk (fun hm => by have := hob _ hm; omega) B2
  have B4 := K5.blk (fun hm => by have := hob _ hm; omega) B4
  refine rs_v (v_assign rfl) rfl ?_
  refine rs_nil ?_
  refine q_thn ?_
  refine tr_seq ?_
  refine tr_reg ?_
  refine rs_v (v_move rfl) rfl ?_
  refine rs_v (v_len u_sl_spec_SpanKey rfl) rfl ?_
  refine rs_v (v_sub rfl rfl (by omega) (by omega)) rfl ?_
  refine rs_v (v_assign rfl) rfl ?_
  refine rs_nil ?_
  refine q_thn ?_
  refine tr_block ?_
  refine tr_loop (fun m E h' => ∃ j i l cs, i = ((j : Nat) : Int) ∧ j = m ∧ E = [(3, .slice (some ⟨g, 0, none⟩) (n + 1) c9), (7, .slice (some ⟨b, o, none⟩) ks.length c), (8, .int .i64 (ks.length : Int)), (9, .int .i64 (k : Int)), (6, .int .i64 i)] ∧ Keep [] h h' ∧ h4.size ≤ h'.size ∧ l.length = n + 1 ∧ j ≤ n ∧ insW l j = insW (canonF (ks.take k) ++ [x]) n ∧ Own h' h.size 102 3 (.slice (some ⟨g, 0, none⟩) (n + 1) c9) (n + 1) cs ∧ RowsR 3 (cKey N0 h) cs l) n [(3, _), (7, _), (8, _), (9, _), (6, _)] ⟨rfl, rfl, rfl, rfl, rfl, trivial⟩ ⟨n, (((n + 1 : Nat) : Int) - 1), _, _, by omega, rfl, rfl, K, by omega, by rw [List.length_append, ← hn]; rfl, Nat.le_refl _, rfl, O5, hrow.snoc rfl rfl⟩ ?_
  rintro m E hL6 ⟨j, i, l, cs, hij, rfl, rfl, K, hz3, hll, hjn, hins, O, hrowI⟩
  obtain ⟨g8, c8, e8, hg1, hg2, hcg⟩ := own_some O
  cases e8
  have hob := own_ne O; have KL := Keep.refl [] hL6
  refine tr_seq ?_
  refine tr_cut (fun E h' => Keep [] hL6 h' ∧ E = [(3, .slice (some ⟨g, 0, none⟩) (n + 1) c9), (7, .slice (some ⟨b, o, none⟩) ks.length c), (8, .int .i64 (ks.length : Int)), (9, .int .i64 (k : Int)), (6, .int .i64 i), (33, .bool (lessAt l j))]) ?_ ?_
  ·
    rcases Nat.eq_zero_or_pos j with g0 | g0
    · subst g0
      have g1 : decide ((0 : Int) < i) = false := decide_eq_false (by omega)
      refine tr_any (Keep []) (keep_pre _) (by kernel_rfl) (by kernel_rfl) ?_
      refine rm_v (keep_pre _) (fun h' hk => v_move rfl) ?_
      refine rm_v (keep_pre _) (fun h' hk => v_gt rfl rfl) ?_
      refine rm_v (keep_pre _) (fun h' hk => v_move rfl) ?_
      refine rm_gs (keep_pre _) rfl (lkm g1) rfl ?_
      refine rm_gs (keep_pre _) rfl (lkm g1) rfl ?_
      refine rm_gs (keep_pre _) rfl (lkm g1) rfl ?_
      refine rm_gs (keep_pre _) rfl (lkm g1) rfl ?_
      refine rm_gs (keep_pre _) rfl (lkm g1) rfl ?_
      refine rm_gs (keep_pre _) rfl (lkm g1) rfl ?_
      refine rm_gs (keep_pre _) rfl (lkm g1) rfl ?_
      refine rm_gs (keep_pre _) rfl (lkm g1) rfl ?_
      refine rm_gs (keep_pre _) rfl (lkm g1) rfl ?_
      refine rm_gs (keep_pre _) rfl (lkm g1) rfl ?_
      refine rm_v (keep_pre _) (fun h' hk => v_pick_f (lkb g1) rfl) ?_
      refine rm_end ?_; intro h7 K7; simp only [endM, hypF, ofE, argE, List.nil_append]
      have O := O.keep2 K7 (fun x hm => by have := hob x hm; simp; try omega)
      have K := K.new0 K7; have Z7 := K7.1
      refine q_cut [(3, _), (7, _), (8, _), (9, _), (6, _), (33, _)] ⟨rfl, rfl, rfl, rfl, rfl, rfl, trivial⟩ ⟨K7, ?_⟩
      rfl
    · obtain ⟨j, rfl⟩ : ∃ j', j = j' + 1 := ⟨j - 1, by omega⟩
      have g1 : decide ((0 : Int) < i) = true := decide_eq_true (by omega)
      obtain ⟨y, hy⟩ := ex_get (L := l) (k := j + 1) (by omega)
      obtain ⟨z, hz⟩ := ex_get (L := l) (k := j) (by omega)
      obtain ⟨cy, _, hcy, ey⟩ := hrowI.at hcg hy
      obtain ⟨cz, _, hcz, ez⟩ := hrowI.at hcg hz
      cases ey; cases ez
      have hle : lessAt l (j + 1) = keyLess y z := by simp [lessAt, hy, hz]
      refine tr_any (Keep []) (keep_pre _) (by kernel_rfl) (by kernel_rfl) ?_
      refine rm_v (keep_pre _) (fun h' hk => v_move rfl) ?_
      refine rm_v (keep_pre _) (fun h' hk => v_gt rfl rfl) ?_
      refine rm_v (keep_pre _) (fun h' hk => v_move rfl) ?_
      refine rm_gv (keep_pre _) rfl (lkm g1) (fun h' hk => v_move rfl) ?_
      refine rm_gv (keep_pre _) rfl (lkm g1) (fun h' hk => v_move rfl) ?_
      refine rm_gv (keep_pre _) rfl (lkm g1) (fun h' hk => v_indexAddrE (i := j + 1) u_sl_spec_SpanKey siz_spec_SpanKey rfl rfl hij (by omega)) ?_
      refine rm_gv (keep_pre _) rfl (lkm g1) (fun h' hk => v_loadAgg (vs := [_, _, _]) many_spec_SpanKey rfl (by exact hk.cells (by simp) hcy)) ?_
      refine rm_gv (keep_pre _) rfl (lkm g1) (fun h' hk => v_move rfl) ?_
      refine rm_gv (keep_pre _) rfl (lkm g1) (fun h' hk => v_move rfl) ?_
      refine rm_gv (keep_pre _) rfl (lkm g1) (fun h' hk => v_sub rfl rfl (by omega) (by omega)) ?_
      refine rm_gv (keep_pre _) rfl (lkm g1) (fun h' hk => v_indexAddrE (i := j) u_sl_spec_SpanKey siz_spec_SpanKey rfl rfl (by omega) (by omega)) ?_
      refine rm_gv (keep_pre _) rfl (lkm g1) (fun h' hk => v_loadAgg (vs := [_, _, _]) many_spec_SpanKey rfl (by exact hk.cells (by simp) hcz)) ?_
      refine rm_gc rfl (lkm g1) (fun h' hk => w_call (vs := [_, _]) ok_spec_spanKeyLess rfl ⟨rfl, rfl, trivial⟩ (c_spanKeyLess χ h' y z)) ?_
      refine rm_v (keep_pre _) (fun h' hk => v_pick_t (lkb g1) rfl) ?_
      refine rm_end ?_; intro h8 K8; simp only [endM, hypF, ofE, argE, List.nil_append]
      have O := O.keep2 K8 (fun x hm => by have := hob x hm; simp; try omega)
      have K := K.new0 K8; have Z8 := K8.1
      refine q_cut [(3, _), (7, _), (8, _), (9, _), (6, _), (33, _)] ⟨rfl, rfl, rfl, rfl, rfl, rfl, trivial⟩ ⟨K8, ?_⟩
      rw [hle]
  rintro E h9 ⟨K9, rfl⟩
  have K := K.new0 K9; have Z9 := K9.1
  have O := O.keep2 K9 (by simp)
  have hcg := K9.cells (by simp) hcg
  refine tr_ifn rfl (fun hif => ?_) (fun hif => ?_)
  · -- no
    skip
    refine tr_exit ?_
    refine q_thn_exit ?_
    refine q_lp_exit ?_
    refine q_blk_hit ?_
    refine q_blk_n ?_
    refine q_thn ?_
    refine tr_reg ?_
    refine rs_v (v_add rfl rfl (by omega) (by omega)) rfl ?_
    refine rs_v (v_move rfl) rfl ?_
    refine rs_nil ?_
    have hst : insW l j = l := insW_stop hif
    rw [hst] at hins
    refine q_lp (ks.length - (k + 1)) [(3, _), (7, _), (8, _), (9, _)] (by omega) ⟨rfl, rfl, rfl, rfl, trivial⟩ ⟨k + 1, _, n + 1, by omega, rfl, rfl, K, ?_, ?_⟩
    · rw [canonF_len, List.length_take]; omega
    · rw [take_snoc' hsk, canonF_snoc, ← hn, ← hins]
      exact ⟨cs, N0, O, hrowI, fun _ hb => hb.elim⟩
  -- yes
  skip
  refine tr_skip ?_
  refine q_thn ?_
  refine tr_seq ?_
  refine tr_block ?_
  obtain ⟨j, rfl⟩ : ∃ j', j = j' + 1 := by
    cases j with
    | zero => simp [lessAt] at hif
    | succ j => exact ⟨j, rfl⟩
  obtain ⟨y, hy⟩ := ex_get (L := l) (k := j + 1) (by omega)
  obtain ⟨z, hz⟩ := ex_get (L := l) (k := j) (by omega)
  obtain ⟨cy, _, hcy, ey⟩ := hrowI.at hcg hy
  obtain ⟨cz, _, hcz, ez⟩ := hrowI.at hcg hz
  cases ey; cases ez
  refine tr_draw [(true, 16), (false, 2)] _ (by kernel_rfl) (by kernel_rfl) (by kernel_rfl) ?_
  refine rx_one 15 ?_
  refine re_v rfl (by kernel_rfl) (v_move rfl) ?_
  refine re_v rfl (by kernel_rfl) (v_move rfl) ?_
  refine re_a rfl (fun h' => v_move rfl) ?_
  refine re_a rfl (fun h' => v_move rfl) ?_
  refine re_a rfl (fun h' => v_sub rfl rfl (by omega) (by omega)) ?_
  refine re_v rfl (by kernel_rfl) (v_move rfl) ?_
  refine re_v rfl (by kernel_rfl) (v_move rfl) ?_
  refine re_v rfl (by kernel_rfl) (v_sub rfl rfl (by omega) (by omega)) ?_
  refine re_v rfl (by kernel_rfl) (v_indexAddrE (i := j) u_sl_spec_SpanKey siz_spec_SpanKey rfl rfl (by omega) (by omega)) ?_
  refine re_v rfl (by kernel_rfl) (v_loadAgg (vs := [_, _, _]) many_spec_SpanKey rfl (by exact hcz)) ?_
  refine re_v rfl (by kernel_rfl) (v_move rfl) ?_
  refine re_v rfl (by kernel_rfl) (v_move rfl) ?_
  refine re_v rfl (by kernel_rfl) (v_indexAddrE (i := j + 1) u_sl_spec_SpanKey siz_spec_SpanKey rfl rfl (by omega) (by omega)) ?_
  refine re_v rfl (by kernel_rfl) (v_loadAgg (vs := [_, _, _]) many_spec_SpanKey rfl (by exact hcy)) ?_
  refine re_v rfl (by kernel_rfl) (v_indexAddrE (i := j + 1) u_sl_spec_SpanKey siz_spec_SpanKey rfl rfl (by omega) (by omega)) ?_
  refine re_w0 _ rfl (w_putOwn siz_spec_SpanKey rfl rfl rfl rfl O (Nat.zero_add _) (by omega)) ?_
  refine re_end ?_; intro hA2 _; simp only [endM, hypF, ofE, argE, List.nil_append]; rintro ⟨OA, KA⟩
  refine rx_seq ?_
  refine rs_v (v_indexAddrE (i := j) u_sl_spec_SpanKey siz_spec_SpanKey rfl rfl (by omega) (by omega)) rfl ?_
  refine rs_w0 (w_putOwn siz_spec_SpanKey rfl rfl rfl rfl OA (Nat.zero_add _) (by omega)) ?_
  rintro _ h10 ⟨OB, KB⟩
  have K := (K.new1 KA (.inr hg1)).new1 KB (.inr hg1); have ZB := KA.1; have ZC := KB.1
  refine rs_nil ?_
  refine q_con ?_
  refine rx_nil ?_
  refine q_blk_n ?_
  refine q_thn ?_
  refine tr_reg ?_
  refine rs_v (v_move rfl) rfl ?_
  refine rs_v (v_sub rfl rfl (by omega) (by omega)) rfl ?_
  refine rs_v (v_assign rfl) rfl ?_
  refine rs_nil ?_
  refine q_lp j [(3, _), (7, _), (8, _), (9, _), (6, _)] (by omega) ⟨rfl, rfl, rfl, rfl, rfl, trivial⟩ ⟨j, _, swapAt l j, _, by omega, rfl, rfl, K, by omega, by rw [swapAt_len]; exact hll, by omega, by rw [← hins, insW_go hif], OB, ?_⟩
  have e : swapAt l j = (l.set (j + 1) z).set j y := by simp [swapAt, hy, hz]
  rw [e]
  exact (hrowI.set rfl rfl (by omega)).set rfl rfl (by simp; omega)
end Go.Proofs.Ytgebfbnndgjkiaa

/- Twenty-eighth part: spans and answers that are alike. Conditions: those that each theorem names. -/
namespace Go.Proofs.Ytgebfbnndgjkiaa
open Go.Tess Go.RowKit
set_option maxRecDepth 100000
set_option maxHeartbeats 1000000
def canonS (s : SpanD) : SpanD := ⟨s.s, s.e, canonF s.ks⟩
/-- The same spans, but for the order of keys with equal trailers. -/
def Like (W W2 : List SpanD) : Prop := W.map canonS = W2.map canonS ∧ ∀ s, s ∈ W → descB s.ks = true
theorem Like.refl {W : List SpanD} (h : ∀ s, s ∈ W → descB s.ks = true) : Like W W := ⟨rfl, h⟩
def few (s : SpanD) : Prop := s.ks.length ≤ 100000
def AnsLike (G D : List AnsD) : Prop := G.length = D.length ∧ ∀ (i : Nat) a b, G[i]? = some a → D[i]? = some b → a.done = b.done ∧ a.ok = b.ok ∧ (a.ok = true → Like [a.sp] [b.sp] ∧ few a.sp ∧ few b.sp)
theorem rspans1 {A : Nat → Prop} {h : Heap} {b c : Nat} {s : SpanD} {kv : Value} {T : TypeId} (B : Blk h b [.string s.s, .string s.e, kv] T) (hk : RKeys A h kv s.ks) (hb : A b) : RSpans A h (.slice (some ⟨b, 0, none⟩) 1 c) [s] :=
  ⟨by simp, _, _, rfl, fun i x hi => ⟨b, 0, rfl, hb, by
    cases i with
    | zero => simp at hi; subst hi; exact ⟨kv, B.cells, hk⟩
    | succ i => simp at hi⟩⟩

theorem c_spanCanons (χ : Chi) (h : Heap) (A : Nat → Prop) (hA : Low A h) (v : Value) (W : List SpanD) (hW : RSpans A h v W) (hn : W.length ≤ 100000) (hm : ∀ s, s ∈ W → few s) :
    Cl Try.prog χ 31 #[v] h (fun r h' => RSpans (Up N0 h h') h' r (W.map canonS) ∧ Keep [] h h') := by
  obtain ⟨hlen, a, c, rfl, hx⟩ := hW.form
  refine cl_intro Try.func31 rfl rfl rfl ?_
  have K : Keep [] h h := Keep.refl _ _
  refine tr_seq ?_
  refine tr_reg ?_
  refine rs_v (v_assign rfl) rfl ?_
  refine rs_nil ?_
  refine q_thn ?_
  refine tr_seq ?_
  refine tr_reg ?_
  refine rs_v (v_assign rfl) rfl ?_
  refine rs_nil ?_
  refine q_thn ?_
  refine tr_seq ?_
  refine tr_seq ?_
  refine tr_reg ?_
  refine rs_v (v_move rfl) rfl ?_
  refine rs_v (v_len u_sl_spec_Span rfl) rfl ?_
  refine rs_v (v_move rfl) rfl ?_
  refine rs_nil ?_
  refine q_thn ?_
  refine tr_block ?_
  refine tr_loop (fun m E h' => ∃ k v n, k ≤ W.length ∧ m = W.length - k ∧ E = [(3, v), (6, .slice a W.length c), (7, .int .i64 (W.length : Int)), (8, .int .i64 (k : Int))] ∧ Keep [] h h' ∧ n = ((W.take k).map canonS).length ∧ OutR N0 h h' h.size 55 3 cSpan v n ((W.take k).map canonS)) W.length [(3, _), (6, _), (7, _), (8, _)] ⟨rfl, rfl, rfl, rfl, trivial⟩ ⟨0, _, 0, Nat.zero_le _, rfl, rfl, K, rfl, OutR.nil _ _ _ _ _ _ _⟩ ?_
  rintro m E hL1 ⟨k, v, n, hk, rfl, rfl, K, hn, hout⟩
  have hout0 := hout
  obtain ⟨xs, F, O, hrow, hF⟩ := hout
  have hob := own_ne O; have KL := Keep.refl [] hL1
  refine tr_seq ?_
  refine tr_reg ?_
  refine rs_v (v_lt rfl rfl) rfl ?_
  refine rs_nil ?_
  refine q_thn ?_
  refine tr_seq ?_
  refine tr_ifn rfl (fun hif => ?_) (fun hif => ?_)
  · -- no
    simp only [decide_eq_true_eq, decide_eq_false_iff_not] at hif
    have hkk : k = W.length := by omega
    subst hkk
    refine tr_exit ?_
    refine q_thn_exit ?_
    refine q_lp_exit ?_
    refine q_blk_hit ?_
    refine q_thn ?_
    refine tr_seq ?_
    refine tr_reg ?_
    refine rs_v (v_move rfl) rfl ?_
    refine rs_v (v_assign rfl) rfl ?_
    refine rs_nil ?_
    refine q_thn ?_
    refine tr_ret ?_
    refine q_ret (res_tmp rfl rfl) ?_
    rw [List.take_length] at hout0 hn
    exact ⟨hout0.fin cSpan_st hn (Nat.le_refl _) cSpan_r, K⟩
  -- yes
  simp only [decide_eq_true_eq, decide_eq_false_iff_not] at hif
  rcases hx with rfl | ⟨b, o, rfl, hAb, hR⟩
  · simp at hif; omega
  obtain ⟨x, hsk⟩ := ex_get (L := W) (k := k) (by omega)
  have hkl : k < W.length := (List.getElem?_eq_some_iff.1 hsk).1
  have KL0 := K.1
  obtain ⟨kv, hcc, hkx⟩ := hR k x hsk
  obtain ⟨ka, kc, rfl⟩ := hkx.form2
  have hcells := K.cells (by simp) hcc
  have hnk : n = k := by rw [hn, List.length_map, List.length_take]; omega
  refine tr_skip ?_
  refine q_thn ?_
  refine tr_seq ?_
  refine tr_block ?_
  refine tr_seq ?_
  refine tr_reg ?_
  refine rs_v (v_indexAddrN u_sl_spec_Span siz_spec_Span rfl rfl (by omega)) rfl ?_
  refine rs_v (v_loadAgg (vs := [_, _, _]) many_spec_Span rfl (by exact hcells)) rfl ?_
  refine rs_w (w_new zero_spec_Span) rfl ?_
  rintro _ h2 ⟨rfl, B2, K2, Z2⟩
  have O := O.keep2 K2 (fun x hm => by have := hob x hm; simp; try omega)
  have S2 := K.1; have K := K.new0 K2; have KL := KL.new0 K2
  refine rs_w0 (w_put siz_spec_Span rfl rfl rfl rfl B2 rfl) ?_
  rintro _ h3 ⟨B3, K3⟩
  have O := O.keep2 K3 (fun x hm => by have := hob x hm; simp; try omega)
  have B2 := B3; have K := K.new1 K3 (by first | (right; omega) | (left; simp; done)); have Z3 := K3.1; have KL := KL.new1 K3 (.inr (by omega))
  refine rs_nil ?_
  refine q_thn ?_
  refine tr_seq ?_
  refine tr_reg ?_
  refine rs_v (v_fieldAddr fa_spec_Span_2 rfl) rfl ?_
  refine rs_v (v_load one_sl_spec_SpanKey rfl (by exact B2.cell _ rfl)) rfl ?_
  refine rs_w (w_call (vs := [_]) ok_spec_SpanCanon rfl ⟨rfl, trivial⟩ (c_SpanCanon χ _ A (hA.mono (by omega)) _ x.ks (hkx.stab (K.st hA)) (hm x (List.mem_of_getElem? hsk)))) rfl ?_
  rintro kv4 h4 ⟨hkv4, K4⟩
  obtain ⟨a4, c4, rfl⟩ := hkv4.form2
  have B2 := K4.blk (by simp) B2
  have O := O.keep2 K4 (fun x hm => by have := hob x hm; simp; try omega)
  have K := K.new0 K4; have Z4 := K4.1; have KL := KL.new0 K4
  refine rs_v (v_fieldAddr fa_spec_Span_2 rfl) rfl ?_
  refine rs_w0 (w_put siz_sl_spec_SpanKey rfl rfl rfl rfl B2 rfl) ?_
  rintro _ h5 ⟨B5, K5⟩
  have O := O.keep2 K5 (fun x hm => by have := hob x hm; simp; try omega)
  have B2 := B5; have K := K.new1 K5 (by first | (right; omega) | (left; simp; done)); have Z5 := K5.1; have KL := KL.new1 K5 (.inr (by omega))
  refine rs_nil ?_
  refine q_thn ?_
  refine tr_reg ?_
  refine rs_v (v_move rfl) rfl ?_
  refine rs_v (v_loadAgg (vs := [_, _, _]) many_spec_Span rfl (by exact B2.sub _ 3 rfl)) rfl ?_
  refine rs_w (w_new1 u_sl_spec_Span siz_spec_Span zero_spec_Span rfl rfl rfl rfl rfl) rfl ?_
  rintro _ h6 ⟨rfl, B6, K6, Z6⟩
  have B2 := K6.blk (by simp) B2
  have O := O.keep2 K6 (fun x hm => by have := hob x hm; simp; try omega)
  have S6 := K.1; have K := K.new0 K6; have KL := KL.new0 K6
  refine rs_w (w_app1 u_sl_spec_Span info_spec_Span rfl rfl rfl O rfl rfl B6 rfl (by omega) (by omega) (by omega)) rfl ?_
  rintro v7 h7 ⟨O7, K7, N7, F7⟩
  have K := K.newX K7 (fun x hm => .inr (by have := hob x hm; omega)); have Z7 := K7.1
  have B2 := K7.blk (fun hm => by have := hob _ hm; omega) B2
  have B6 := K7.blk (fun hm => by have := hob _ hm; omega) B6
  refine rs_v (v_assign rfl) rfl ?_
  refine rs_nil ?_
  refine q_blk_n ?_
  refine q_thn ?_
  refine tr_reg ?_
  refine rs_v (v_add rfl rfl (by omega) (by omega)) rfl ?_
  refine rs_v (v_move rfl) rfl ?_
  refine rs_nil ?_
  refine q_lp (W.length - (k + 1)) [(3, _), (6, _), (7, _), (8, _)] (by omega) ⟨rfl, rfl, rfl, rfl, trivial⟩ ⟨k + 1, v7, n + 1, by omega, rfl, rfl, K, ?_, ?_⟩
  · rw [take_snoc' hsk, List.map_append]; rw [List.length_append, ← hn]; rfl
  · rw [take_snoc' hsk, List.map_append]
    exact OutR.snoc cSpan_st (n0low h) (by omega) hob hrow hF KL0 KL O7 K7 F7 rfl (⟨_, rfl, (upk (n0low _) (by omega) (rk_skip hkv4 Z4 K5 (by omega)) K6).mono (n0up (by omega) (Nat.le_refl _))⟩)
theorem c_spanLike (χ : Chi) (h : Heap) (A A2 : Nat → Prop) (hA : Low A h) (hA2 : Low A2 h) (v u : Value) (W W2 : List SpanD) (hW : RSpans A h v W) (hW2 : RSpans A2 h u W2) (hn : W.length ≤ 100000) (hn2 : W2.length ≤ 100000) (hm : ∀ s, s ∈ W → few s) (hm2 : ∀ s, s ∈ W2 → few s) (hlk : Like W W2) :
    Cl Try.prog χ 45 #[v, u] h (fun r h' => r = .bool true ∧ Keep [] h h') := by
  obtain ⟨a2, c2, rfl⟩ := SlR.form2 hW2
  refine cl_intro Try.func45 rfl rfl rfl ?_
  have K : Keep [] h h := Keep.refl _ _
  refine tr_seq ?_
  refine tr_reg ?_
  refine rs_v (v_assign rfl) rfl ?_
  refine rs_nil ?_
  refine q_thn ?_
  refine tr_seq ?_
  refine tr_reg ?_
  refine rs_v (v_move rfl) rfl ?_
  refine rs_w (w_call (vs := [_]) ok_laws_ofSpans rfl ⟨rfl, trivial⟩ (c_ofSpans χ h A hA _ W hW hn hm)) rfl ?_
  rintro v1 h1 ⟨hl1, K1⟩
  obtain ⟨hlen, a, c, rfl, hx⟩ := SlR.form hl1
  have K := K.new0 K1; have Z1 := K1.1
  refine rs_v (v_assign rfl) rfl ?_
  refine rs_nil ?_
  refine q_thn ?_
  refine tr_seq ?_
  refine tr_seq ?_
  refine tr_reg ?_
  refine rs_v (v_move rfl) rfl ?_
  refine rs_v (v_len u_sl_spec_Span rfl) rfl ?_
  refine rs_v (v_move rfl) rfl ?_
  refine rs_nil ?_
  refine q_thn ?_
  refine tr_block ?_
  refine tr_loop (fun m E h' => ∃ k, k ≤ W.length ∧ m = W.length - k ∧ E = [(1, .slice a2 W2.length c2), (5, .slice a W.length c), (10, .slice a W.length c), (11, .int .i64 (W.length : Int)), (12, .int .i64 (k : Int))] ∧ Keep [] h h' ∧ Keep [] h1 h') W.length [(1, _), (5, _), (10, _), (11, _), (12, _)] ⟨rfl, rfl, rfl, rfl, rfl, trivial⟩ ⟨0, Nat.zero_le _, rfl, rfl, K, Keep.refl _ _⟩ ?_
  rintro m E hL2 ⟨k, hk, rfl, rfl, K, KA⟩
  refine tr_seq ?_
  refine tr_reg ?_
  refine rs_v (v_lt rfl rfl) rfl ?_
  refine rs_nil ?_
  refine q_thn ?_
  refine tr_seq ?_
  refine tr_ifn rfl (fun hif => ?_) (fun hif => ?_)
  · -- no
    simp only [decide_eq_true_eq, decide_eq_false_iff_not] at hif
    refine tr_exit ?_
    refine q_thn_exit ?_
    refine q_lp_exit ?_
    refine q_blk_hit ?_
    refine q_thn ?_
    refine tr_seq ?_
    refine tr_reg ?_
    refine rs_v (v_move rfl) rfl ?_
    refine rs_w (w_call (vs := [_]) ok_laws_spanCanons rfl ⟨rfl, trivial⟩ (c_spanCanons χ _ (Up A h h1) ((hA.up Z1).mono KA.1) _ W (RSpans.stab hl1 (KA.st (hA.up Z1))) hn hm)) rfl ?_
    rintro v2 h3 ⟨hl2, K3⟩
    have KA := KA.newX K3 (fun x hx => .inr (by first | (simp at hx; done) | (simp at hx; omega)))
    have K := K.new0 K3; have Z3 := K3.1
    refine rs_v (v_move rfl) rfl ?_
    refine rs_w (w_call (vs := [_]) ok_laws_spanCanons rfl ⟨rfl, trivial⟩ (c_spanCanons χ _ A2 (hA2.mono K.1) _ W2 (hW2.stab (K.st hA2)) hn2 hm2)) rfl ?_
    rintro v3 h4 ⟨hl3, K4⟩
    have hz2 := K3.1
    have hl2 := hl2.stab (K4.st ((n0low _).up hz2))
    obtain ⟨aa2, cc2, rfl⟩ := SlR.form2 hl2
    obtain ⟨aa3, cc3, rfl⟩ := SlR.form2 hl3
    have KA := KA.newX K4 (fun x hx => .inr (by first | (simp at hx; done) | (simp at hx; omega)))
    have K := K.new0 K4; have Z4 := K4.1
    refine rs_w (w_call (vs := [_, _]) ok_laws_sameSpans rfl ⟨rfl, rfl, trivial⟩ (c_sameSpans χ _ _ _ (((n0low _).up hz2).mono Z4) ((n0low _).up Z4) _ _ (W.map canonS) hl2 (by rw [hlk.1]; exact hl3))) rfl ?_
    rintro _ h5 ⟨rfl, K5⟩
    have KA := KA.newX K5 (fun x hx => .inr (by first | (simp at hx; done) | (simp at hx; omega)))
    have K := K.new0 K5; have Z5 := K5.1
    refine rs_v (v_assign rfl) rfl ?_
    refine rs_nil ?_
    refine q_thn ?_
    refine tr_ret ?_
    refine q_ret (res_tmp rfl rfl) ?_
    exact ⟨rfl, K⟩
  -- yes
  simp only [decide_eq_true_eq, decide_eq_false_iff_not] at hif
  rcases hx with rfl | ⟨b, o, rfl, hAb, hR⟩
  · simp at hif; omega
  obtain ⟨x, hsk⟩ := ex_get (L := W) (k := k) (by omega)
  obtain ⟨kv, hcc, hkx⟩ := hR k x hsk
  obtain ⟨ka, kc, rfl⟩ := hkx.form2
  have hcells := KA.cells (by simp) hcc
  have hZA := KA.1
  have hd := hlk.2 x (List.mem_of_getElem? hsk)
  refine tr_skip ?_
  refine q_thn ?_
  refine tr_seq ?_
  refine tr_block ?_
  refine tr_seq ?_
  refine tr_reg ?_
  refine rs_v (v_indexAddrN u_sl_spec_Span siz_spec_Span rfl rfl (by omega)) rfl ?_
  refine rs_v (v_loadAgg (vs := [_, _, _]) many_spec_Span rfl (by exact hcells)) rfl ?_
  refine rs_w (w_new zero_spec_Span) rfl ?_
  rintro _ h6 ⟨rfl, B6, K6, Z6⟩
  have KA := KA.newX K6 (fun x hx => .inr (by first | (simp at hx; done) | (simp at hx; omega)))
  have S6 := K.1; have K := K.new0 K6
  refine rs_w0 (w_put siz_spec_Span rfl rfl rfl rfl B6 rfl) ?_
  rintro _ h7 ⟨B7, K7⟩
  have KA := KA.newX K7 (fun x hx => .inr (by first | (simp at hx; done) | (simp at hx; omega)))
  have B6 := B7; have K := K.new1 K7 (by first | (right; omega) | (left; simp; done)); have Z7 := K7.1
  refine rs_nil ?_
  refine q_thn ?_
  refine tr_seq ?_
  refine tr_reg ?_
  refine rs_v (v_fieldAddr fa_spec_Span_2 rfl) rfl ?_
  refine rs_v (v_load one_sl_spec_SpanKey rfl (by exact B6.cell _ rfl)) rfl ?_
  refine rs_w (w_call (vs := [_]) ok_spec_SpanDescending rfl ⟨rfl, trivial⟩ (c_SpanDescending χ _ (Up A h h1) _ x.ks (hkx.stab (KA.st (hA.up Z1))))) rfl ?_
  rintro _ h8 ⟨rfl, hsame⟩; have hsame := hsame.symm; subst hsame
  refine rs_v (v_not rfl) rfl ?_
  refine rs_nil ?_
  refine q_thn ?_
  refine tr_if_f (lkb (by rw [hd]; rfl)) ?_
  refine tr_skip ?_
  refine q_blk_n ?_
  refine q_thn ?_
  refine tr_reg ?_
  refine rs_v (v_add rfl rfl (by omega) (by omega)) rfl ?_
  refine rs_v (v_move rfl) rfl ?_
  refine rs_nil ?_
  refine q_lp (W.length - (k + 1)) [(1, _), (5, _), (10, _), (11, _), (12, _)] (by omega) ⟨rfl, rfl, rfl, rfl, rfl, trivial⟩ ⟨k + 1, by omega, rfl, rfl, K, KA⟩
theorem c_spanAnswers (χ : Chi) (h : Heap) (A A2 : Nat → Prop) (hA : Low A h) (hA2 : Low A2 h) (v u : Value) (G D : List AnsD) (hG : RAnss A h v G) (hD : RAnss A2 h u D) (hal : AnsLike G D) :
    Cl Try.prog χ 17 #[v, u] h (fun r h' => r = .bool true ∧ Keep [] h h') := by
  obtain ⟨hlen, a, c, rfl, hx⟩ := hG.form
  obtain ⟨_, a2, c2, rfl, hx2⟩ := hD.form
  obtain ⟨hGD, hall⟩ := hal
  rw [← hGD]
  refine cl_intro Try.func17 rfl rfl rfl ?_
  have K : Keep [] h h := Keep.refl _ _
  refine tr_seq ?_
  refine tr_reg ?_
  refine rs_v (v_assign rfl) rfl ?_
  refine rs_nil ?_
  refine q_thn ?_
  refine tr_seq ?_
  refine tr_seq ?_
  refine tr_reg ?_
  refine rs_v (v_move rfl) rfl ?_
  refine rs_v (v_len u_sl_impl_SpanAnswer rfl) rfl ?_
  refine rs_v (v_move rfl) rfl ?_
  refine rs_v (v_len u_sl_spec_SpanAnswer rfl) rfl ?_
  refine rs_v (v_ne rfl rfl) rfl ?_
  refine rs_nil ?_
  refine q_thn ?_
  refine tr_if_f (lkb (decide_eq_false (by simp))) ?_
  refine tr_skip ?_
  refine q_thn ?_
  refine tr_seq ?_
  refine tr_seq ?_
  refine tr_reg ?_
  refine rs_v (v_move rfl) rfl ?_
  refine rs_v (v_len u_sl_impl_SpanAnswer rfl) rfl ?_
  refine rs_v (v_move rfl) rfl ?_
  refine rs_nil ?_
  refine q_thn ?_
  refine tr_block ?_
  refine tr_loop (fun m E h' => ∃ k, k ≤ G.length ∧ m = G.length - k ∧ E = [(1, .slice a2 G.length c2), (13, .slice a G.length c), (14, .int .i64 (G.length : Int)), (15, .int .i64 (k : Int))] ∧ Keep [] h h') G.length [(1, _), (13, _), (14, _), (15, _)] ⟨rfl, rfl, rfl, rfl, trivial⟩ ⟨0, Nat.zero_le _, rfl, rfl, K⟩ ?_
  rintro m E hL1 ⟨k, hk, rfl, rfl, K⟩
  refine tr_seq ?_
  refine tr_reg ?_
  refine rs_v (v_lt rfl rfl) rfl ?_
  refine rs_nil ?_
  refine q_thn ?_
  refine tr_seq ?_
  refine tr_ifn rfl (fun hif => ?_) (fun hif => ?_)
  · -- no
    simp only [decide_eq_true_eq, decide_eq_false_iff_not] at hif
    refine tr_exit ?_
    refine q_thn_exit ?_
    refine q_lp_exit ?_
    refine q_blk_hit ?_
    refine q_thn ?_
    refine tr_seq ?_
    refine tr_reg ?_
    refine rs_v (v_assign rfl) rfl ?_
    refine rs_nil ?_
    refine q_thn ?_
    refine tr_ret ?_
    refine q_ret (res_tmp rfl rfl) ?_
    exact ⟨rfl, K⟩
  -- yes
  simp only [decide_eq_true_eq, decide_eq_false_iff_not] at hif
  rcases hx with rfl | ⟨b, o, rfl, hAb, hR⟩
  · simp at hif; omega
  rcases hx2 with rfl | ⟨b2, o2, rfl, hAb2, hR2⟩
  · have : G.length = 0 := hGD
    omega
  obtain ⟨x, hsk⟩ := ex_get (L := G) (k := k) (by omega)
  obtain ⟨y, hyk⟩ := ex_get (L := D) (k := k) (by omega)
  obtain ⟨kv, hc1, hkx⟩ := hR k x hsk
  obtain ⟨kv2, hc2, hky⟩ := hR2 k y hyk
  obtain ⟨ka, kc, rfl⟩ := hkx.form2
  obtain ⟨ka2, kc2, rfl⟩ := hky.form2
  obtain ⟨hdn, hoo, hlk⟩ := hall k x y hsk hyk
  have d1 : (x.done != y.done) = false := by rw [hdn]; simp
  have d2 : (x.ok != y.ok) = false := by rw [hoo]; simp
  have hc1 := K.cells (by simp) hc1
  refine tr_skip ?_
  refine q_thn ?_
  refine tr_seq ?_
  refine tr_block ?_
  refine tr_seq ?_
  refine tr_reg ?_
  refine rs_v (v_move rfl) rfl ?_
  refine rs_v (v_indexAddrN u_sl_impl_SpanAnswer siz_impl_SpanAnswer rfl rfl (by omega)) rfl ?_
  refine rs_v (v_loadAgg (vs := [_, _, _, _, _]) many_impl_SpanAnswer rfl (by exact hc1)) rfl ?_
  refine rs_w (w_new zero_impl_SpanAnswer) rfl ?_
  rintro _ h2 ⟨rfl, B2, K2, Z2⟩
  have S2 := K.1; have K := K.new0 K2
  refine rs_v (v_assign rfl) rfl ?_
  refine rs_w0 (w_put siz_impl_SpanAnswer rfl rfl rfl rfl B2 rfl) ?_
  rintro _ h3 ⟨B3, K3⟩
  have B2 := B3; have K := K.new1 K3 (by first | (right; omega) | (left; simp; done)); have Z3 := K3.1
  refine rs_nil ?_
  refine q_thn ?_
  refine tr_seq ?_
  refine tr_reg ?_
  refine rs_v (v_move rfl) rfl ?_
  refine rs_v (v_move rfl) rfl ?_
  refine rs_v (v_indexAddrN u_sl_spec_SpanAnswer siz_spec_SpanAnswer rfl rfl (by omega)) rfl ?_
  refine rs_v (v_loadAgg (vs := [_, _, _, _, _]) many_spec_SpanAnswer rfl (by exact K.cells (by simp) hc2)) rfl ?_
  refine rs_w (w_new zero_spec_SpanAnswer) rfl ?_
  rintro _ h4 ⟨rfl, B4, K4, Z4⟩
  have B2 := K4.blk (by simp) B2
  have S4 := K.1; have K := K.new0 K4
  refine rs_w0 (w_put siz_spec_SpanAnswer rfl rfl rfl rfl B4 rfl) ?_
  rintro _ h5 ⟨B5, K5⟩
  have B2 := K5.blk (by simp; omega) B2
  have B4 := B5; have K := K.new1 K5 (by first | (right; omega) | (left; simp; done)); have Z5 := K5.1
  refine rs_nil ?_
  refine q_thn ?_
  refine tr_cut (fun E h' => Keep [] h h' ∧ E = [(1, .slice (some ⟨b2, o2, none⟩) G.length c2), (13, .slice (some ⟨b, o, none⟩) G.length c), (14, .int .i64 (G.length : Int)), (15, .int .i64 (k : Int)), (49, .bool false)]) ?_ ?_
  ·
    rcases Bool.eq_false_or_eq_true x.ok with hok | hok
    · skip
      refine tr_reg ?_
      refine rs_v (v_fieldAddr fa_impl_SpanAnswer_0 rfl) rfl ?_
      refine rs_v (v_load one_bool rfl (by exact B2.cell _ rfl)) rfl ?_
      refine rs_v (v_fieldAddr fa_spec_SpanAnswer_0 rfl) rfl ?_
      refine rs_v (v_load one_bool rfl (by exact B4.cell _ rfl)) rfl ?_
      refine rs_v (v_bne u_bool rfl rfl) rfl ?_
      refine rs_v (v_move rfl) rfl ?_
      refine rs_gv rfl (lkb d1) (v_fieldAddr fa_impl_SpanAnswer_1 rfl) rfl ?_
      refine rs_gv rfl (lkb d1) (v_load one_bool rfl (by exact B2.cell _ rfl)) rfl ?_
      refine rs_gv rfl (lkb d1) (v_fieldAddr fa_spec_SpanAnswer_1 rfl) rfl ?_
      refine rs_gv rfl (lkb d1) (v_load one_bool rfl (by exact B4.cell _ rfl)) rfl ?_
      refine rs_gv rfl (lkb d1) (v_bne u_bool rfl rfl) rfl ?_
      refine rs_v (v_pick_f (lkb d1) rfl) rfl ?_
      refine rs_v (v_move rfl) rfl ?_
      refine rs_gv rfl (lkb d2) (v_fieldAddr fa_impl_SpanAnswer_1 rfl) rfl ?_
      refine rs_gv rfl (lkb d2) (v_load one_bool rfl (by exact B2.cell _ rfl)) rfl ?_
      refine rs_gv rfl (lkb d2) (v_move rfl) rfl ?_
      refine rs_gv rfl (lkb hok) (v_fieldAddr fa_impl_SpanAnswer_2 rfl) rfl ?_
      refine rs_gv rfl (lkb hok) (v_loadAgg (vs := [_, _, _]) many_impl_Span rfl (by exact B2.sub _ 3 rfl)) rfl ?_
      refine rs_gw rfl (lkb hok) (w_new1 u_sl_impl_Span siz_impl_Span zero_impl_Span rfl rfl rfl rfl rfl) rfl ?_
      rintro _ h6 ⟨rfl, B6, K6, Z6⟩
      have B2 := K6.blk (by simp) B2
      have B4 := K6.blk (by simp) B4
      have S6 := K.1; have K := K.new0 K6
      refine rs_gv rfl (lkb hok) (v_fieldAddr fa_spec_SpanAnswer_2 rfl) rfl ?_
      refine rs_gv rfl (lkb hok) (v_loadAgg (vs := [_, _, _]) many_spec_Span rfl (by exact B4.sub _ 3 rfl)) rfl ?_
      refine rs_gw rfl (lkb hok) (w_new1 u_sl_spec_Span siz_spec_Span zero_spec_Span rfl rfl rfl rfl rfl) rfl ?_
      rintro _ h7 ⟨rfl, B7, K7, Z7⟩
      have B2 := K7.blk (by simp) B2
      have B4 := K7.blk (by simp) B4
      have B6 := K7.blk (by simp) B6
      have S7 := K.1; have K := K.new0 K7
      refine rs_gw rfl (lkb hok) (w_call (vs := [_, _]) ok_laws_spanLike rfl ⟨rfl, rfl, trivial⟩ (c_spanLike χ _ (Up A h h7) (Up A2 h h7) (hA.up (by omega)) (hA2.up (by omega)) _ _ [x.sp] [y.sp] (rspans1 B6 (hkx.stab (K.st hA) |>.mono Up.old) (.inr ⟨by omega, by omega⟩)) (rspans1 B7 (hky.stab (K.st hA2) |>.mono Up.old) (.inr ⟨by omega, by omega⟩)) (by simp) (by simp)
            (by simpa using (hlk hok).2.1) (by simpa using (hlk hok).2.2) (hlk hok).1)) rfl ?_
      rintro _ h8 ⟨rfl, K8⟩
      have B2 := K8.blk (by simp) B2
      have B4 := K8.blk (by simp) B4
      have B6 := K8.blk (by simp) B6
      have B7 := K8.blk (by simp) B7
      have K := K.new0 K8; have Z8 := K8.1
      refine rs_gv rfl (lkb hok) (v_not rfl) rfl ?_
      refine rs_gv rfl (lkb d2) (v_pick_t (lkb hok) rfl) rfl ?_
      refine rs_v (v_pick_f (lkb d2) rfl) rfl ?_
      refine rs_nil ?_
      exact q_cut [(1, _), (13, _), (14, _), (15, _), (49, _)] ⟨rfl, rfl, rfl, rfl, rfl, trivial⟩ ⟨K, by first | rfl | (rw [d2]; rfl)⟩
    · skip
      refine tr_reg ?_
      refine rs_v (v_fieldAddr fa_impl_SpanAnswer_0 rfl) rfl ?_
      refine rs_v (v_load one_bool rfl (by exact B2.cell _ rfl)) rfl ?_
      refine rs_v (v_fieldAddr fa_spec_SpanAnswer_0 rfl) rfl ?_
      refine rs_v (v_load one_bool rfl (by exact B4.cell _ rfl)) rfl ?_
      refine rs_v (v_bne u_bool rfl rfl) rfl ?_
      refine rs_v (v_move rfl) rfl ?_
      refine rs_gv rfl (lkb d1) (v_fieldAddr fa_impl_SpanAnswer_1 rfl) rfl ?_
      refine rs_gv rfl (lkb d1) (v_load one_bool rfl (by exact B2.cell _ rfl)) rfl ?_
      refine rs_gv rfl (lkb d1) (v_fieldAddr fa_spec_SpanAnswer_1 rfl) rfl ?_
      refine rs_gv rfl (lkb d1) (v_load one_bool rfl (by exact B4.cell _ rfl)) rfl ?_
      refine rs_gv rfl (lkb d1) (v_bne u_bool rfl rfl) rfl ?_
      refine rs_v (v_pick_f (lkb d1) rfl) rfl ?_
      refine rs_v (v_move rfl) rfl ?_
      refine rs_gv rfl (lkb d2) (v_fieldAddr fa_impl_SpanAnswer_1 rfl) rfl ?_
      refine rs_gv rfl (lkb d2) (v_load one_bool rfl (by exact B2.cell _ rfl)) rfl ?_
      refine rs_gv rfl (lkb d2) (v_move rfl) rfl ?_
      refine rs_gs rfl (lkb hok) rfl rfl ?_
      refine rs_gs rfl (lkb hok) rfl rfl ?_
      refine rs_gs rfl (lkb hok) rfl rfl ?_
      refine rs_gs rfl (lkb hok) rfl rfl ?_
      refine rs_gs rfl (lkb hok) rfl rfl ?_
      refine rs_gs rfl (lkb hok) rfl rfl ?_
      refine rs_gs rfl (lkb hok) rfl rfl ?_
      refine rs_gs rfl (lkb hok) rfl rfl ?_
      refine rs_gv rfl (lkb d2) (v_pick_f (lkb hok) rfl) rfl ?_
      refine rs_v (v_pick_f (lkb d2) rfl) rfl ?_
      refine rs_nil ?_
      exact q_cut [(1, _), (13, _), (14, _), (15, _), (49, _)] ⟨rfl, rfl, rfl, rfl, rfl, trivial⟩ ⟨K, by first | rfl | (rw [d2]; rfl)⟩
  rintro E h99 ⟨K, rfl⟩
  refine tr_if_f rfl ?_
  refine tr_skip ?_
  refine q_blk_n ?_
  refine q_thn ?_
  refine tr_reg ?_
  refine rs_v (v_add rfl rfl (by omega) (by omega)) rfl ?_
  refine rs_v (v_move rfl) rfl ?_
  refine rs_nil ?_
  refine q_lp (G.length - (k + 1)) [(1, _), (13, _), (14, _), (15, _)] (by omega) ⟨rfl, rfl, rfl, rfl, trivial⟩ ⟨k + 1, by omega, rfl, rfl, K⟩
end Go.Proofs.Ytgebfbnndgjkiaa

/- Twenty-ninth part: what the laws ask of their input; answers of one script. Conditions: those that each theorem names. -/
namespace Go.Proofs.Ytgebfbnndgjkiaa
open Go.Tess Go.RowKit
set_option maxRecDepth 100000
set_option maxHeartbeats 1000000
theorem bsplit2 (a : Bool) : a = true ∨ a = false := Bool.eq_false_or_eq_true a
theorem bsplit3 (a b : Bool) : a = true ∨ (a = false ∧ b = true) ∨ (a = false ∧ b = false) := by cases a <;> cases b <;> simp
theorem bsplit4 (a b c : Bool) : a = true ∨ (a = false ∧ b = true) ∨ (a = false ∧ b = false ∧ c = true) ∨ (a = false ∧ b = false ∧ c = false) := by cases a <;> cases b <;> cases c <;> simp
theorem bsplit5 (a b c d : Bool) : a = true ∨ (a = false ∧ b = true) ∨ (a = false ∧ b = false ∧ c = true) ∨ (a = false ∧ b = false ∧ c = false ∧ d = true) ∨ (a = false ∧ b = false ∧ c = false ∧ d = false) := by cases a <;> cases b <;> cases c <;> cases d <;> simp
theorem bsplit6 (a b c d e : Bool) : a = true ∨ (a = false ∧ b = true) ∨ (a = false ∧ b = false ∧ c = true) ∨ (a = false ∧ b = false ∧ c = false ∧ d = true) ∨ (a = false ∧ b = false ∧ c = false ∧ d = false ∧ e = true) ∨ (a = false ∧ b = false ∧ c = false ∧ d = false ∧ e = false) := by cases a <;> cases b <;> cases c <;> cases d <;> cases e <;> simp
theorem desc_pair : ∀ (ks : List KeyD), descB ks = true ↔ ks.Pairwise (fun a b => b.tr ≤ a.tr)
  | [] => by simp [descB, chainB]
  | [a] => by simp [descB, chainB]
  | a :: b :: l => by
    have ih := desc_pair (b :: l)
    simp only [descB, chainB, Bool.and_eq_true, decide_eq_true_eq] at ih ⊢
    rw [ih, List.pairwise_cons (a := a)]
    constructor
    · rintro ⟨h1, h2⟩
      refine ⟨fun x hx => ?_, h2⟩
      rcases List.mem_cons.1 hx with rfl | hx
      · exact h1
      · exact Int.le_trans ((List.pairwise_cons.1 h2).1 x hx) h1
    · rintro ⟨h1, h2⟩
      exact ⟨h1 b (by simp), h2⟩
structure Good (W : List SpanD) : Prop where
  len : W.length ≤ 40
  full : ∀ s, s ∈ W → slt s.s s.e = true ∧ s.ks ≠ [] ∧ descB s.ks = true ∧ s.ks.length ≤ 40
  small : ∀ s, s ∈ W → SpanD.small s
  ord : Tess.Ord W
theorem Good.few {W : List SpanD} (h : Good W) : ∀ s, s ∈ W → few s := fun s hs => by have := (h.full s hs).2.2.2; unfold Go.Proofs.Ytgebfbnndgjkiaa.few; omega
theorem Good.n {W : List SpanD} (h : Good W) : W.length ≤ 100000 := by have := h.len; omega
theorem good_of {W : List SpanD} {n : Int} (hn : n ≤ 40) (h4 : fit4 W = true) (hm : (mostB W n && wellB W) = true) : Good W ∧ (W.length : Int) ≤ n := by
  simp only [fit4, mostB, wellB, Bool.and_eq_true, List.all_eq_true, decide_eq_true_eq] at h4 hm
  obtain ⟨⟨hm1, hm2⟩, hw1, hw2⟩ := hm
  have hfull : ∀ s, s ∈ W → slt s.s s.e = true ∧ s.ks ≠ [] ∧ descB s.ks = true ∧ s.ks.length ≤ 40 := fun s hs => by
    have := hw1 s hs
    simp only [fullB, Bool.and_eq_true, decide_eq_true_eq] at this
    exact ⟨this.1, fun e => by rw [e] at this; simp at this, this.2.2, hm1 s hs⟩
  refine ⟨⟨by omega, hfull, fun s hs => ?_, ⟨fun s hs => (hfull s hs).1, fun i a b ha hb => (chainB_iff _ W).1 hw2 i a b ha hb⟩⟩, hm2⟩
  have h5 := h4.2 s hs
  simp only [fit5, fit6, Bool.and_eq_true, List.all_eq_true, decide_eq_true_eq, MX] at h5
  refine ⟨by omega, by omega, by have := hm1 s hs; omega, fun k hk => ?_⟩
  have h7 := h5.2.2 k hk
  simp only [fit7, Bool.and_eq_true, decide_eq_true_eq, MX] at h7
  exact ⟨by omega, by omega⟩
theorem fit8_small {l : List StepD} (h : fit8 l = true) : ∀ s, s ∈ l → s.key.size ≤ 9223372036854775807 := fun s hs => by
  simp only [fit8, Bool.and_eq_true, List.all_eq_true] at h
  have := h.2 s hs
  simp only [fit9, decide_eq_true_eq, MX] at this
  omega
theorem ansOf_mem {W : List SpanD} {q : Option Pos} (h : (ansOf W q).ok = true) : (ansOf W q).sp ∈ W := by
  obtain ⟨j, sp, rfl, hj, ha⟩ := ans_ok h
  rw [ha]; exact List.mem_of_getElem? hj
theorem walkP_mem {W : List SpanD} : ∀ (l : List StepD) (p : Pos) a, a ∈ walkP W p l → a.ok = true → a.sp ∈ W
  | [], p, a, h, _ => by simp [walkP] at h
  | s :: l, p, a, h, ho => by
    simp only [walkP, List.mem_cons] at h
    rcases h with rfl | h
    · exact ansOf_mem ho
    · exact walkP_mem l _ a h ho
theorem ansLike_walk {W : List SpanD} (h : ∀ s, s ∈ W → descB s.ks = true ∧ few s) (p : Pos) (l : List StepD) : AnsLike (walkP W p l) (walkP W p l) :=
  ⟨rfl, fun i a b ha hb => by
    rw [ha] at hb; cases hb
    exact ⟨rfl, rfl, fun ho => by
      have hm := h _ (walkP_mem l p a (List.mem_of_getElem? ha) ho)
      exact ⟨Like.refl (by simpa using hm.1), hm.2, hm.2⟩⟩⟩

theorem c_spanWell_t (χ : Chi) (h : Heap) (A : Nat → Prop) (hA : Low A h) (v : Value) (W : List SpanD) (n : Int) (hW : RSpans A h v W) (hq : mostB W n = true) :
    Cl Try.prog χ 14 #[v, .int .i64 n] h (fun r h' => r = .bool (mostB W n && wellB W) ∧ Keep [] h h') := by
  refine cl_intro Try.func14 rfl rfl rfl ?_
  have K : Keep [] h h := Keep.refl _ _
  refine tr_seq ?_
  refine tr_reg ?_
  refine rs_v (v_assign rfl) rfl ?_
  refine rs_nil ?_
  refine q_thn ?_
  refine tr_seq ?_
  refine tr_reg ?_
  refine rs_v (v_move rfl) rfl ?_
  refine rs_v (v_move rfl) rfl ?_
  refine rs_w (w_call (vs := [_, _]) ok_laws_spanMost rfl ⟨rfl, rfl, trivial⟩ (c_spanMost χ h A _ W n hW)) rfl ?_
  rintro _ h1 ⟨rfl, K1⟩
  have K := K.new0 K1; have Z1 := K1.1
  refine rs_v (v_move rfl) rfl ?_
  refine rs_gv rfl (lkb hq) (v_move rfl) rfl ?_
  refine rs_gw rfl (lkb hq) (w_call (vs := [_]) ok_spec_SpanWell rfl ⟨rfl, trivial⟩ (c_SpanWell χ _ A (hA.mono K.1) _ W (hW.stab (K.st hA)))) rfl ?_
  rintro _ h2 ⟨rfl, K2⟩
  have K := K.new0 K2; have Z2 := K2.1
  refine rs_v (v_pick_t (lkb hq) rfl) rfl ?_
  refine rs_v (v_assign rfl) rfl ?_
  refine rs_nil ?_
  refine q_thn ?_
  refine tr_ret ?_
  refine q_ret (res_tmp rfl rfl) ?_
  exact ⟨by rw [hq]; rfl, K⟩
theorem c_spanWell_f (χ : Chi) (h : Heap) (A : Nat → Prop) (hA : Low A h) (v : Value) (W : List SpanD) (n : Int) (hW : RSpans A h v W) (hq : mostB W n = false) :
    Cl Try.prog χ 14 #[v, .int .i64 n] h (fun r h' => r = .bool (mostB W n && wellB W) ∧ Keep [] h h') := by
  refine cl_intro Try.func14 rfl rfl rfl ?_
  have K : Keep [] h h := Keep.refl _ _
  refine tr_seq ?_
  refine tr_reg ?_
  refine rs_v (v_assign rfl) rfl ?_
  refine rs_nil ?_
  refine q_thn ?_
  refine tr_seq ?_
  refine tr_reg ?_
  refine rs_v (v_move rfl) rfl ?_
  refine rs_v (v_move rfl) rfl ?_
  refine rs_w (w_call (vs := [_, _]) ok_laws_spanMost rfl ⟨rfl, rfl, trivial⟩ (c_spanMost χ h A _ W n hW)) rfl ?_
  rintro _ h1 ⟨rfl, K1⟩
  have K := K.new0 K1; have Z1 := K1.1
  refine rs_v (v_move rfl) rfl ?_
  refine rs_gs rfl (lkb hq) rfl rfl ?_
  refine rs_gs rfl (lkb hq) rfl rfl ?_
  refine rs_v (v_pick_f (lkb hq) rfl) rfl ?_
  refine rs_v (v_assign rfl) rfl ?_
  refine rs_nil ?_
  refine q_thn ?_
  refine tr_ret ?_
  refine q_ret (res_tmp rfl rfl) ?_
  exact ⟨by rw [hq]; rfl, K⟩
theorem c_spanWell (χ : Chi) (h : Heap) (A : Nat → Prop) (hA : Low A h) (v : Value) (W : List SpanD) (n : Int) (hW : RSpans A h v W) :
    Cl Try.prog χ 14 #[v, .int .i64 n] h (fun r h' => r = .bool (mostB W n && wellB W) ∧ Keep [] h h') := by
  rcases bsplit2 (mostB W n) with hq | hq
  · exact c_spanWell_t χ h A hA v W n hW hq
  · exact c_spanWell_f χ h A hA v W n hW hq
end Go.Proofs.Ytgebfbnndgjkiaa

/- Thirtieth part: the law of filtered spans, walked. Conditions: those that each theorem names. -/
namespace Go.Proofs.Ytgebfbnndgjkiaa
open Go.Tess Go.RowKit
set_option maxRecDepth 100000
set_option maxHeartbeats 1000000
/-- All blocks that are there. -/
def All (h : Heap) : Nat → Prop := fun b => b < h.size
theorem all_low (h : Heap) : Low (All h) h := fun _ hb => hb
section
variable {h h' : Heap} {v : Value}
theorem all_st (K : Keep [] h h') : Stab (All h) h h' := K.st (all_low h)
theorem all_up (K : Keep [] h h') : ∀ b, All h b → All h' b := fun _ hb => Nat.lt_of_lt_of_le hb K.1
theorem RSpans.kk {W : List SpanD} (hr : RSpans (All h) h v W) (K : Keep [] h h') : RSpans (All h') h' v W := (RSpans.stab hr (all_st K)).mono (all_up K)
theorem RSteps.kk {W : List StepD} (hr : RSteps (All h) h v W) (K : Keep [] h h') : RSteps (All h') h' v W := (RSteps.stab hr (all_st K)).mono (all_up K)
theorem RAnss.kk {W : List AnsD} (hr : RAnss (All h) h v W) (K : Keep [] h h') : RAnss (All h') h' v W := (RAnss.stab hr (all_st K)).mono (all_up K)
theorem upA (K : Keep [] h h') : ∀ b, Up (All h) h h' b → All h' b := (all_low h).up K.1
theorem upN (K : Keep [] h h') : ∀ b, Up N0 h h' b → All h' b := (n0low h).up K.1
end
theorem ffS_desc {low high : Int} {W : List SpanD} (hG : Good W) : ∀ s, s ∈ W.filterMap (ffS low high) → descB s.ks = true ∧ few s := by
  intro s hs
  obtain ⟨x, hx, hf⟩ := List.mem_filterMap.1 hs
  have h1 := (hG.full x hx).2.2
  unfold ffS at hf
  split at hf
  · cases hf
  · cases hf
    refine ⟨(desc_pair _).2 (((desc_pair _).1 h1.1).filter _), ?_⟩
    have := List.length_filter_le (passK low high) x.ks
    unfold few; show (x.ks.filter (passK low high)).length ≤ _; omega
def someW : List SpanD := [⟨⟨#[97]⟩, ⟨#[98]⟩, [⟨256, ByteArray.empty, ByteArray.empty⟩]⟩]
def startS : List StepD := [⟨0, ByteArray.empty⟩]
theorem ab_lt : slt ⟨#[97]⟩ ⟨#[98]⟩ = true := by rw [slt_cmp]; decide
theorem some_good : Good someW := ⟨by decide, by intro s hs; simp [someW] at hs; subst hs; exact ⟨ab_lt, by simp, by decide, by decide⟩, by
  intro s hs; simp [someW] at hs; subst hs; exact ⟨by decide, by decide, by decide, by intro k hk; simp at hk; subst hk; exact ⟨by decide, by decide⟩⟩, by
  refine ⟨by intro s hs; simp [someW] at hs; subst hs; exact ab_lt, ?_⟩
  intro i s t h1 h2
  cases i <;> simp [someW] at h2⟩
theorem start_small : ∀ s, s ∈ startS → s.key.size ≤ 9223372036854775807 := by intro s hs; simp [startS] at hs; subst hs; decide

theorem c_FnSpanFiltered (χ : Chi) (h : Heap) (A : Nat → Prop) (hA : Low A h) (v sv : Value) (W : List SpanD) (steps : List StepD) (low high : Int) (hW : RSpans A h v W) (hS : RSteps A h sv steps) :
    Cl Try.prog χ 3 #[v, .int .u64 low, .int .u64 high, sv] h (fun r h' => r = .bool true ∧ Keep [] h h') := by
  have hW := RSpans.mono hW hA
  have hS := RSteps.mono hS hA
  obtain ⟨a, c, rfl⟩ := SlR.form2 hW
  obtain ⟨a2, c2, rfl⟩ := SlR.form2 hS
  refine cl_intro Try.func3 rfl rfl rfl ?_
  have K : Keep [] h h := Keep.refl _ _
  refine tr_seq ?_
  refine tr_reg ?_
  refine rs_v (v_assign rfl) rfl ?_
  refine rs_nil ?_
  refine q_thn ?_
  refine tr_seq ?_
  refine tr_cut (fun E h' => Keep [] h h' ∧ E = [(0, .slice a W.length c), (1, .int .u64 low), (2, .int .u64 high), (3, .slice a2 steps.length c2), (8, .bool false), (17, .bool ((!fit4 W) || (!fit8 steps)))]) ?_ ?_
  ·
    rcases bsplit2 (!fit4 W) with g1 | g1
    · skip
      refine tr_reg ?_
      refine rs_v (v_move rfl) rfl ?_
      refine rs_w (w_call (vs := [_]) ok_laws_zzFits4 rfl ⟨rfl, trivial⟩ (c_zzFits4 χ h (All h) (all_low h) _ W hW)) rfl ?_
      rintro _ h1 ⟨rfl, K1⟩
      have K := K.new0 K1; have Z1 := K1.1
      refine rs_v (v_not rfl) rfl ?_
      refine rs_v (v_move rfl) rfl ?_
      refine rs_gs rfl (lkb g1) rfl rfl ?_
      refine rs_gs rfl (lkb g1) rfl rfl ?_
      refine rs_gs rfl (lkb g1) rfl rfl ?_
      refine rs_v (v_pick_t (lkb g1) rfl) rfl ?_
      refine rs_nil ?_
      exact q_cut [(0, _), (1, _), (2, _), (3, _), (8, _), (17, _)] ⟨rfl, rfl, rfl, rfl, rfl, rfl, trivial⟩ ⟨K, by rw [show ((!fit4 W) || (!fit8 steps)) = (true) from by simp only [g1, Bool.true_or, Bool.false_or]]⟩
    · skip
      refine tr_reg ?_
      refine rs_v (v_move rfl) rfl ?_
      refine rs_w (w_call (vs := [_]) ok_laws_zzFits4 rfl ⟨rfl, trivial⟩ (c_zzFits4 χ h (All h) (all_low h) _ W hW)) rfl ?_
      rintro _ h2 ⟨rfl, K2⟩
      have K := K.new0 K2; have Z2 := K2.1
      refine rs_v (v_not rfl) rfl ?_
      refine rs_v (v_move rfl) rfl ?_
      refine rs_gv rfl (lkb g1) (v_move rfl) rfl ?_
      refine rs_gw rfl (lkb g1) (w_call (vs := [_]) ok_laws_zzFits8 rfl ⟨rfl, trivial⟩ (c_zzFits8 χ _ _ _ steps (RSteps.kk hS K))) rfl ?_
      rintro _ h3 ⟨rfl, K3⟩
      have K := K.new0 K3; have Z3 := K3.1
      refine rs_gv rfl (lkb g1) (v_not rfl) rfl ?_
      refine rs_v (v_pick_f (lkb g1) rfl) rfl ?_
      refine rs_nil ?_
      exact q_cut [(0, _), (1, _), (2, _), (3, _), (8, _), (17, _)] ⟨rfl, rfl, rfl, rfl, rfl, rfl, trivial⟩ ⟨K, by rw [show ((!fit4 W) || (!fit8 steps)) = (!fit8 steps) from by simp only [g1, Bool.true_or, Bool.false_or]]⟩
  rintro E h99 ⟨K, rfl⟩
  refine tr_if rfl (fun hif => ?_) (fun hif => ?_)
  · -- yes
    skip
    refine tr_seq ?_
    refine tr_reg ?_
    refine rs_v (v_assign rfl) rfl ?_
    refine rs_nil ?_
    refine q_thn ?_
    refine tr_ret ?_
    refine q_thn_ret ?_
    refine q_ret (res_tmp rfl rfl) ?_
    exact ⟨rfl, K⟩
  -- no
  simp only [Bool.or_eq_false_iff, Bool.not_eq_false'] at hif
  obtain ⟨hf4, hf8⟩ := hif
  refine tr_skip ?_
  refine q_thn ?_
  refine tr_seq ?_
  refine tr_cut (fun E h' => Keep [] h h' ∧ E = [(0, .slice a W.length c), (1, .int .u64 low), (2, .int .u64 high), (3, .slice a2 steps.length c2), (8, .bool false), (25, .bool ((!(mostB W 40 && wellB W)) || (decide ((60 : Int) < (steps.length : Int)))))]) ?_ ?_
  ·
    rcases bsplit2 (!(mostB W 40 && wellB W)) with g1 | g1
    · skip
      refine tr_reg ?_
      refine rs_v (v_move rfl) rfl ?_
      refine rs_w (w_call (vs := [_, _]) ok_laws_spanWell rfl ⟨rfl, rfl, trivial⟩ (c_spanWell χ _ _ (all_low _) _ W 40 (RSpans.kk hW K))) rfl ?_
      rintro _ h5 ⟨rfl, K5⟩
      have K := K.new0 K5; have Z5 := K5.1
      refine rs_v (v_not rfl) rfl ?_
      refine rs_v (v_move rfl) rfl ?_
      refine rs_gs rfl (lkb g1) rfl rfl ?_
      refine rs_gs rfl (lkb g1) rfl rfl ?_
      refine rs_gs rfl (lkb g1) rfl rfl ?_
      refine rs_v (v_pick_t (lkb g1) rfl) rfl ?_
      refine rs_nil ?_
      exact q_cut [(0, _), (1, _), (2, _), (3, _), (8, _), (25, _)] ⟨rfl, rfl, rfl, rfl, rfl, rfl, trivial⟩ ⟨K, by rw [show ((!(mostB W 40 && wellB W)) || (decide ((60 : Int) < (steps.length : Int)))) = (true) from by simp only [g1, Bool.true_or, Bool.false_or]]⟩
    · skip
      refine tr_reg ?_
      refine rs_v (v_move rfl) rfl ?_
      refine rs_w (w_call (vs := [_, _]) ok_laws_spanWell rfl ⟨rfl, rfl, trivial⟩ (c_spanWell χ _ _ (all_low _) _ W 40 (RSpans.kk hW K))) rfl ?_
      rintro _ h6 ⟨rfl, K6⟩
      have K := K.new0 K6; have Z6 := K6.1
      refine rs_v (v_not rfl) rfl ?_
      refine rs_v (v_move rfl) rfl ?_
      refine rs_gv rfl (lkb g1) (v_move rfl) rfl ?_
      refine rs_gv rfl (lkb g1) (v_len u_sl_spec_Step rfl) rfl ?_
      refine rs_gv rfl (lkb g1) (v_gt rfl rfl) rfl ?_
      refine rs_v (v_pick_f (lkb g1) rfl) rfl ?_
      refine rs_nil ?_
      exact q_cut [(0, _), (1, _), (2, _), (3, _), (8, _), (25, _)] ⟨rfl, rfl, rfl, rfl, rfl, rfl, trivial⟩ ⟨K, by rw [show ((!(mostB W 40 && wellB W)) || (decide ((60 : Int) < (steps.length : Int)))) = (decide ((60 : Int) < (steps.length : Int))) from by simp only [g1, Bool.true_or, Bool.false_or]]⟩
  rintro E h99 ⟨K, rfl⟩
  refine tr_if rfl (fun hif => ?_) (fun hif => ?_)
  · -- yes
    skip
    refine tr_seq ?_
    refine tr_reg ?_
    refine rs_v (v_assign rfl) rfl ?_
    refine rs_nil ?_
    refine q_thn ?_
    refine tr_ret ?_
    refine q_thn_ret ?_
    refine q_ret (res_tmp rfl rfl) ?_
    exact ⟨rfl, K⟩
  -- no
  simp only [Bool.or_eq_false_iff, Bool.not_eq_false', decide_eq_false_iff_not] at hif
  obtain ⟨hw, hl6⟩ := hif
  obtain ⟨hG, _⟩ := good_of (by decide) hf4 hw
  have hk8 := fit8_small hf8
  refine tr_skip ?_
  refine q_thn ?_
  refine tr_seq ?_
  refine tr_reg ?_
  refine rs_v (v_move rfl) rfl ?_
  refine rs_v (v_move rfl) rfl ?_
  refine rs_v (v_move rfl) rfl ?_
  refine rs_w (w_call (vs := [_, _, _]) ok_spec_SpanFiltered rfl ⟨rfl, rfl, rfl, trivial⟩ (c_SpanFiltered χ _ _ (all_low _) _ W low high (RSpans.kk hW K) hG.n hG.few)) rfl ?_
  rintro hFv h8 ⟨hF, K8⟩
  have hF := RSpans.mono hF (upN K8)
  obtain ⟨hFa, hFc, rfl⟩ := SlR.form2 hF
  have K := K.new0 K8; have Z8 := K8.1
  refine rs_v (v_move rfl) rfl ?_
  refine rs_w (w_call (vs := [_, _]) ok_spec_SpanWalk rfl ⟨rfl, rfl, trivial⟩ (c_SpanWalk χ _ _ (all_low _) _ _ _ steps hF (RSteps.kk hS K) (by omega))) rfl ?_
  rintro hwantv h9 ⟨hwant, K9⟩
  have hwant := RAnss.mono hwant (upA K9)
  obtain ⟨hwanta, hwantc, rfl⟩ := SlR.form2 hwant
  have hF := RSpans.kk hF K9
  have K := K.new0 K9; have Z9 := K9.1
  refine rs_v (v_assign rfl) rfl ?_
  refine rs_nil ?_
  refine q_thn ?_
  refine tr_seq ?_
  refine tr_reg ?_
  refine rs_v (v_move rfl) rfl ?_
  refine rs_w (w_call (vs := [_]) ok_laws_toSpans rfl ⟨rfl, trivial⟩ (c_toSpans χ _ _ (all_low _) _ W (RSpans.kk hW K) hG.n hG.few)) rfl ?_
  rintro hPv h10 ⟨hP, K10⟩
  have hP := RSpans.mono hP (upA K10)
  obtain ⟨hPa, hPc, rfl⟩ := SlR.form2 hP
  have hF := RSpans.kk hF K10
  have hwant := RAnss.kk hwant K10
  have K := K.new0 K10; have Z10 := K10.1
  refine rs_v (v_move rfl) rfl ?_
  refine rs_v (v_move rfl) rfl ?_
  refine rs_v (v_move rfl) rfl ?_
  refine rs_w (w_call (vs := [_]) ok_laws_toSteps rfl ⟨rfl, trivial⟩ (c_toSteps χ _ _ (all_low _) _ steps (RSteps.kk hS K) (by omega))) rfl ?_
  rintro hQv h11 ⟨hQ, K11⟩
  have hQ := RSteps.mono hQ (upA K11)
  obtain ⟨hQa, hQc, rfl⟩ := SlR.form2 hQ
  have hF := RSpans.kk hF K11
  have hwant := RAnss.kk hwant K11
  have hP := RSpans.kk hP K11
  have K := K.new0 K11; have Z11 := K11.1
  refine rs_w (w_call (vs := [_, _, _, _]) ok_impl_SpanFiltered rfl ⟨rfl, rfl, rfl, rfl, trivial⟩ (c_implSpanFiltered χ _ _ (all_low _) _ _ W steps low high hP hG.n hG.small hG.ord hQ (by omega) hk8)) rfl ?_
  rintro hgotv h12 ⟨hgot, K12⟩
  have hgot := RAnss.mono hgot (upN K12)
  obtain ⟨hgota, hgotc, rfl⟩ := SlR.form2 hgot
  have hF := RSpans.kk hF K12
  have hwant := RAnss.kk hwant K12
  have hP := RSpans.kk hP K12
  have hQ := RSteps.kk hQ K12
  have K := K.new0 K12; have Z12 := K12.1
  refine rs_v (v_move rfl) rfl ?_
  refine rs_w (w_call (vs := [_, _]) ok_laws_spanAnswers rfl ⟨rfl, rfl, trivial⟩ (c_spanAnswers χ _ _ _ (all_low _) (all_low _) _ _ _ _ hgot hwant (ansLike_walk (ffS_desc hG) _ _))) rfl ?_
  rintro _ h13 ⟨rfl, K13⟩
  have hF := RSpans.kk hF K13
  have hwant := RAnss.kk hwant K13
  have hP := RSpans.kk hP K13
  have hQ := RSteps.kk hQ K13
  have hgot := RAnss.kk hgot K13
  have K := K.new0 K13; have Z13 := K13.1
  refine rs_v (v_move rfl) rfl ?_
  refine rs_gw rfl (rfl) (w_call (vs := []) ok_laws_spanSome rfl trivial (c_spanSome χ _)) rfl ?_
  rintro hP2v h14 ⟨hP2, K14⟩
  have hP2 := RSpans.mono hP2 (upN K14)
  obtain ⟨hP2a, hP2c, rfl⟩ := SlR.form2 hP2
  have hF := RSpans.kk hF K14
  have hwant := RAnss.kk hwant K14
  have hP := RSpans.kk hP K14
  have hQ := RSteps.kk hQ K14
  have hgot := RAnss.kk hgot K14
  have K := K.new0 K14; have Z14 := K14.1
  refine rs_gw rfl (rfl) (w_call (vs := []) ok_laws_spanStart rfl trivial (c_spanStart χ _)) rfl ?_
  rintro hQ2v h15 ⟨hQ2, K15⟩
  have hQ2 := RSteps.mono hQ2 (upN K15)
  obtain ⟨hQ2a, hQ2c, rfl⟩ := SlR.form2 hQ2
  have hF := RSpans.kk hF K15
  have hwant := RAnss.kk hwant K15
  have hP := RSpans.kk hP K15
  have hQ := RSteps.kk hQ K15
  have hgot := RAnss.kk hgot K15
  have hP2 := RSpans.kk hP2 K15
  have K := K.new0 K15; have Z15 := K15.1
  refine rs_gw rfl (rfl) (w_call (vs := [_, _, _, _]) ok_impl_SpanFiltered rfl ⟨rfl, rfl, rfl, rfl, trivial⟩ (c_implSpanFiltered χ _ _ (all_low _) _ _ someW startS 0 256 hP2 some_good.n some_good.small some_good.ord hQ2 (by decide) start_small)) rfl ?_
  rintro hg2v h16 ⟨hg2, K16⟩
  have hg2 := RAnss.mono hg2 (upN K16)
  obtain ⟨hg2a, hg2c, rfl⟩ := SlR.form2 hg2
  have hF := RSpans.kk hF K16
  have hwant := RAnss.kk hwant K16
  have hP := RSpans.kk hP K16
  have hQ := RSteps.kk hQ K16
  have hgot := RAnss.kk hgot K16
  have hP2 := RSpans.kk hP2 K16
  have hQ2 := RSteps.kk hQ2 K16
  have K := K.new0 K16; have Z16 := K16.1
  refine rs_gw rfl (rfl) (w_call (vs := [_]) ok_laws_spanFound rfl ⟨rfl, trivial⟩ (c_spanFound χ _ _ _ ⟨true, true, ⟨⟨#[97]⟩, ⟨#[98]⟩, [⟨256, ByteArray.empty, ByteArray.empty⟩]⟩⟩ hg2)) rfl ?_
  rintro _ h17 ⟨rfl, K17⟩
  have hF := RSpans.kk hF K17
  have hwant := RAnss.kk hwant K17
  have hP := RSpans.kk hP K17
  have hQ := RSteps.kk hQ K17
  have hgot := RAnss.kk hgot K17
  have hP2 := RSpans.kk hP2 K17
  have hQ2 := RSteps.kk hQ2 K17
  have hg2 := RAnss.kk hg2 K17
  have K := K.new0 K17; have Z17 := K17.1
  refine rs_v (v_pick_t rfl rfl) rfl ?_
  refine rs_v (v_assign rfl) rfl ?_
  refine rs_nil ?_
  refine q_thn ?_
  refine tr_ret ?_
  refine q_ret (res_tmp rfl rfl) ?_
  exact ⟨rfl, K⟩
end Go.Proofs.Ytgebfbnndgjkiaa

/- Thirty-first part: what an argument reads as; a law's contract lifted to its statement. Conditions: those that each theorem names. -/
namespace Go.Proofs.Ytgebfbnndgjkiaa
open Go.Tess Go.ChangeShapes Go.WideShapes Go.ChangeAt Go.RowKit
set_option maxRecDepth 100000
theorem take_open {α : Type} {n : Nat} {p : Nat → α → Prop} (hh : ∀ i, i < n → ∃ a, p i a) : ∃ xs : List α, xs.length = n ∧ ∀ (i : Nat) a, xs[i]? = some a → p i a := by
  induction n with
  | zero => exact ⟨[], rfl, fun i a h => by simp at h⟩
  | succ n ih =>
    obtain ⟨xs, hl, hx⟩ := ih fun i hi => hh i (by omega)
    obtain ⟨a, ha⟩ := hh n (by omega)
    refine ⟨xs ++ [a], by simp [hl], fun i b hb => ?_⟩
    by_cases hi : i < n
    · rw [List.getElem?_append_left (by omega)] at hb; exact hx i b hb
    · have := (List.getElem?_eq_some_iff.1 hb).1
      simp [hl] at this
      have e : i = n := by omega
      subst e
      rw [List.getElem?_append_right (by omega), hl] at hb
      simp at hb; subst hb; exact ha
section
variable {H : Type} {enc : TypeId × Value → H} {χ : Chi} {h : Heap} {d : Nat} {sp : Nat → Bool} {hd : Bool}
theorem sl_open {P : Program} {α : Type} {t e : TypeId} {sz : Nat} {R : List Value → α → Prop} (ht : P.underlying t = some (.slice e)) (hc : P.cellsOf e = sz) (h0 : 0 < sz)
    (hop : ∀ n cs x, DataW.trod enc P (mkw χ h d) 0 sp hd n e cs = some x → ∃ a, R cs a) {fuel : Nat} {v : Value} {x : DataW H × List MemPlace} (htr : DataW.trod enc P (mkw χ h d) 0 sp hd fuel t [v] = some x) :
    ∃ xs : List α, SlR h (All h) sz (fun h b o a => ∃ cs, CellsAt h b o cs ∧ R cs a) v xs := by
  rcases Deep.open_slice ht htr with ⟨hcs, _⟩ | ⟨a, len, cap, m, n, D, Pl, hcs, _, hl, hm, hmm, _, hel⟩
  · cases hcs; exact ⟨[], SlR.nil _ _ _ _⟩
  cases hcs
  have hlm : len ≤ m := by rw [hmm]; split <;> omega
  obtain ⟨xs, hxl, hx⟩ := take_open (α := α) (n := len) (p := fun i a' => ∃ cs', (mkw χ h d).cells? 0 (a.add (i * sz)) sz = some cs' ∧ R cs' a') fun i hi => by
    obtain ⟨cs', h1, h2⟩ := hel i (by omega)
    rw [hc] at h1
    obtain ⟨a', ha'⟩ := hop _ _ _ h2
    exact ⟨a', cs', h1, ha'⟩
  have hspot : 0 < len → ∃ b o, a = ⟨b, o, none⟩ := fun hpos => by
    obtain ⟨cs', h1, _⟩ := hel 0 (by omega)
    rw [hc] at h1
    obtain ⟨_, hlen, hcell⟩ := World.cells?_some h1
    have h2 := hcell 0 h0
    rw [List.getElem?_eq_getElem (by omega)] at h2
    have h3 := World.cell?_spot h2
    simp [Addr.add] at h3
    obtain ⟨b, o, q⟩ := a
    simp at h3; subst h3
    exact ⟨b, o, rfl⟩
  refine ⟨xs, by unfold maxLen at hm; omega, some a, cap, by rw [hxl], fun i x hi => ?_⟩
  have hlt := (List.getElem?_eq_some_iff.1 hi).1
  obtain ⟨b, o, rfl⟩ := hspot (by omega)
  obtain ⟨cs', h1, h2⟩ := hx i x hi
  obtain ⟨_, hlen, hcell⟩ := World.cells?_some h1
  have hcells : CellsAt h b (o + i * sz) cs' := fun j v hj => by
    have := hcell j (by have := (List.getElem?_eq_some_iff.1 hj).1; omega)
    rw [addr_add, addr_add, cell_mkw, hj] at this
    exact this
  refine ⟨b, o, rfl, ?_, cs', hcells, h2⟩
  have := hcells 0 cs'[0] (List.getElem?_eq_getElem (by omega))
  exact cellH_lt this
theorem field_open {P : Program} {w : World} {T : TypeId} {fs : Array Field} {n : Nat} {cs : List Value} {x : DataW H × List MemPlace} (ht : P.underlying T = some (.struct fs)) (hx : DataW.trod enc P w 0 sp hd n T cs = some x) (i : Nat) (ft off sz : Nat)
    (hf : (fs[i]?).map (fun f => (f.type, f.offset)) = some (ft, off)) (hsz : P.cellsOf ft = sz) : ∃ m y, DataW.trod enc P w 0 sp hd m ft ((cs.drop off).take sz) = some y := by
  obtain ⟨xs, m, _, _, _, hl, hfs⟩ := DataW.trod_struct ht hx
  cases hq : fs[i]? with
  | none => rw [hq] at hf; simp at hf
  | some f =>
    rw [hq] at hf
    simp only [Option.map_some, Option.some.injEq, Prod.mk.injEq] at hf
    have := hfs i f hq
    have hi : i < fs.size := (Array.getElem?_eq_some_iff.1 hq).1
    rw [List.getElem?_eq_getElem (by omega), hf.1, hf.2, hsz] at this
    exact ⟨m, _, this⟩
theorem struct_len {P : Program} {w : World} {T : TypeId} {fs : Array Field} {n sz : Nat} {cs : List Value} {x : DataW H × List MemPlace} (ht : P.underlying T = some (.struct fs)) (hx : DataW.trod enc P w 0 sp hd n T cs = some x) (hsz : P.cellsOf T = sz) : cs.length = sz := by
  obtain ⟨_, _, _, _, hl, _⟩ := DataW.trod_struct ht hx
  rw [hl, hsz]
theorem st_key : Try.prog.underlying 102 = some (.struct (Try.prog.fieldsOf 102)) := by kernel_rfl
theorem st_span : Try.prog.underlying 55 = some (.struct (Try.prog.fieldsOf 55)) := by kernel_rfl
theorem st_step : Try.prog.underlying 52 = some (.struct (Try.prog.fieldsOf 52)) := by kernel_rfl
theorem open_key {n : Nat} {cs : List Value} {x : DataW H × List MemPlace} (hx : DataW.trod enc Try.prog (mkw χ h d) 0 sp hd n 102 cs = some x) : ∃ k : KeyD, cs = k.cells := by
  have hl := struct_len st_key hx (sz := 3) (by kernel_rfl)
  match cs, hl with
  | [c0, c1, c2], _ =>
    obtain ⟨_, _, y0⟩ := field_open st_key hx 0 23 0 1 (by kernel_rfl) (by kernel_rfl)
    obtain ⟨_, _, y1⟩ := field_open st_key hx 1 9 1 1 (by kernel_rfl) (by kernel_rfl)
    obtain ⟨_, _, y2⟩ := field_open st_key hx 2 9 2 1 (by kernel_rfl) (by kernel_rfl)
    obtain ⟨i, e0, _⟩ := DataW.trod_int u_uint64 y0
    obtain ⟨s, e1, _⟩ := DataW.trod_string u_string y1
    obtain ⟨u, e2, _⟩ := DataW.trod_string u_string y2
    cases e0; cases e1; cases e2
    exact ⟨⟨i, s, u⟩, rfl⟩
theorem open_keys {n : Nat} {v : Value} {x : DataW H × List MemPlace} (hx : DataW.trod enc Try.prog (mkw χ h d) 0 sp hd n 53 [v] = some x) : ∃ ks : List KeyD, RKeys (All h) h v ks := by
  obtain ⟨ks, hk⟩ := sl_open (R := fun cs (k : KeyD) => cs = k.cells) u_sl_spec_SpanKey (sz := 3) (by kernel_rfl) (by omega) (fun n cs x hx => open_key hx) hx
  exact ⟨ks, SlR.mono hk (fun _ h => h) fun b o x _ hc => by obtain ⟨cs, h1, rfl⟩ := hc; exact h1⟩
theorem open_span {n : Nat} {cs : List Value} {x : DataW H × List MemPlace} (hx : DataW.trod enc Try.prog (mkw χ h d) 0 sp hd n 55 cs = some x) : ∃ s : SpanD, ∃ kv, cs = [.string s.s, .string s.e, kv] ∧ RKeys (All h) h kv s.ks := by
  have hl := struct_len st_span hx (sz := 3) (by kernel_rfl)
  match cs, hl with
  | [c0, c1, c2], _ =>
    obtain ⟨_, _, y0⟩ := field_open st_span hx 0 9 0 1 (by kernel_rfl) (by kernel_rfl)
    obtain ⟨_, _, y1⟩ := field_open st_span hx 1 9 1 1 (by kernel_rfl) (by kernel_rfl)
    obtain ⟨_, _, y2⟩ := field_open st_span hx 2 53 2 1 (by kernel_rfl) (by kernel_rfl)
    obtain ⟨s, e1, _⟩ := DataW.trod_string u_string y0
    obtain ⟨u, e2, _⟩ := DataW.trod_string u_string y1
    obtain ⟨ks, hk⟩ := open_keys y2
    cases e1; cases e2
    exact ⟨⟨s, u, ks⟩, _, rfl, hk⟩
theorem open_spans {n : Nat} {v : Value} {x : DataW H × List MemPlace} (hx : DataW.trod enc Try.prog (mkw χ h d) 0 sp hd n 22 [v] = some x) : ∃ W : List SpanD, RSpans (All h) h v W := by
  obtain ⟨W, hW⟩ := sl_open (R := fun cs (s : SpanD) => ∃ kv, cs = [.string s.s, .string s.e, kv] ∧ RKeys (All h) h kv s.ks) u_sl_spec_Span (sz := 3) (by kernel_rfl) (by omega) (fun n cs x hx => open_span hx) hx
  exact ⟨W, SlR.mono hW (fun _ h => h) fun b o x _ hc => by obtain ⟨cs, h1, kv, rfl, hk⟩ := hc; exact ⟨kv, h1, hk⟩⟩
theorem open_step {n : Nat} {cs : List Value} {x : DataW H × List MemPlace} (hx : DataW.trod enc Try.prog (mkw χ h d) 0 sp hd n 52 cs = some x) : ∃ k : StepD, cs = k.cells := by
  have hl := struct_len st_step hx (sz := 2) (by kernel_rfl)
  match cs, hl with
  | [c0, c1], _ =>
    obtain ⟨_, _, y0⟩ := field_open st_step hx 0 5 0 1 (by kernel_rfl) (by kernel_rfl)
    obtain ⟨_, _, y1⟩ := field_open st_step hx 1 9 1 1 (by kernel_rfl) (by kernel_rfl)
    obtain ⟨i, e0, _⟩ := DataW.trod_int u_uint8 y0
    obtain ⟨s, e1, _⟩ := DataW.trod_string u_string y1
    cases e0; cases e1
    exact ⟨⟨i, s⟩, rfl⟩
theorem open_steps {n : Nat} {v : Value} {x : DataW H × List MemPlace} (hx : DataW.trod enc Try.prog (mkw χ h d) 0 sp hd n 24 [v] = some x) : ∃ ks : List StepD, RSteps (All h) h v ks := by
  obtain ⟨ks, hk⟩ := sl_open (R := fun cs (k : StepD) => cs = k.cells) u_sl_spec_Step (sz := 2) (by kernel_rfl) (by omega) (fun n cs x hx => open_step hx) hx
  exact ⟨ks, SlR.mono hk (fun _ h => h) fun b o x _ hc => by obtain ⟨cs, h1, rfl⟩ := hc; exact h1⟩
end
theorem below_of {χ : Chi} {h h' : Heap} {d d' : Nat} (K : Keep [] h h') : Below h.size (mkw χ h d) (mkw χ h' d') := ⟨rfl, rfl, rfl, K.1, fun k hk => K.2 k hk (by simp)⟩
theorem laidOut : laidOutB Try.prog = true := by kernel_rfl
theorem trodAll_below {P : Program} (hl : laidOutB P = true) {H : Type} {enc : TypeId × Value → H} {W W' : World} (hb : Below W.heap.size W W') : ∀ (ts : List TypeId) (vs : List Value) (ds : List (DataW H)) (ps : List MemPlace),
    (ts.all fun t => P.readableRec t && decide (t < P.types.size)) = true → DataW.TrodAll enc P W 0 (fun _ => true) true ts vs ds ps → (∀ x, x ∈ ps → x.block < W.heap.size) →
    DataW.TrodAll enc P W' 0 (fun b => decide (b < W.heap.size)) true ts vs ds ps
  | [], vs, ds, ps, _, h, _ => by
    obtain ⟨rfl, rfl, rfl⟩ := trodAll_nil h
    exact trodAll_mk0
  | t :: ts, vs, ds, ps, hr, h, hlt => by
    obtain ⟨v, vs1, d, ds1, a, b, rfl, rfl, rfl, h1, h2⟩ := trodAll_cons h
    rw [List.all_cons, Bool.and_eq_true, Bool.and_eq_true] at hr
    exact ⟨a, b, Below.trod hl hr.1.1 (of_decide_eq_true hr.1.2) h1 hb (fun x hx => hlt x (List.mem_append_left _ hx)),
      trodAll_below hl hb ts vs1 ds1 b hr.2 h2 (fun x hx => hlt x (List.mem_append_right _ hx)), rfl⟩
theorem Try.own : ownKnob Try.prog.godebug = none := by kernel_rfl
theorem law_lift {H : Type} {enc : TypeId × Value → H} {os : Os} (started : os.Started) {f : FuncId} {fn : Func} {s : ChangeSpec} {conds : List PathCond} (noInit : Try.prog.inits.idxOf? f = none) (hfn : Try.prog.funcs[f]? = some fn)
    (witness : ∃ (w : World) (tape : Tape) (i : Input), w.os = os ∧ (w.forCall tape i).Shaped Try.prog ∧ i.vars = [] ∧ Input.okWide Try.prog (w.forCall tape i) .any w.heap.size f i ∧
      s.pre6 enc Try.prog fn conds false (w.forCall tape i).memory i.args ∧ Assume.holds {} Try.prog (lone (Frame.enter Try.prog f i.args .normal) [] (w.forCall tape i)))
    (hres : fn.resultTypes = #[4]) (hvars : s.vars = []) (hread : (fn.params.toList.all fun t => Try.prog.readableRec t && decide (t < Try.prog.types.size)) = true)
    (hs : ∀ ds : List (DataW H), ds.length = fn.params.toList.length → (s.fn H ds).results = [.lit (.bool true)] ∧ (s.fn H ds).args = ds ∧ (s.fn H ds).vars = [])
    (contract : ∀ (W : World) (args : Array Value) (ds : List (DataW H)) (ps : List MemPlace) (b0 : Nat), (∀ (j : Nat) t v, fn.params[j]? = some t → args[j]? = some v → Value.okWide Try.prog W .any b0 t v) →
      DataW.TrodAll enc Try.prog W 0 (fun _ => true) true fn.params.toList args.toList ds ps → Cl Try.prog ⟨W.tape, W.os, W.output⟩ f args W.heap (fun r h' => r = .bool true ∧ Keep [] W.heap h')) :
    ReturnsInHanded {} Try.checked os f .any (s.pre6 enc Try.prog fn conds false) (s.post enc Try.prog fn false true false false) := by
  refine returnsInHanded_of_change (C := Try.checked) Try.own started noInit hfn witness ?_
  intro W base args ds gs before hval hW _ _
  have hW' := hW
  obtain ⟨p, q, hA, hV, rfl, _, _⟩ := hW
  have hlen : ∀ (ts : List TypeId) (vs : List Value) (ds : List (DataW H)) (ps : List MemPlace), DataW.TrodAll enc Try.prog W 0 (fun _ => true) true ts vs ds ps → ds.length = ts.length := by
    intro ts
    induction ts with
    | nil => intro vs ds ps h; obtain ⟨_, rfl, _⟩ := trodAll_nil h; rfl
    | cons t ts ih => intro vs ds ps h; obtain ⟨v, vs1, d, ds1, a, b, rfl, rfl, rfl, h1, h2⟩ := trodAll_cons h; simp [ih _ _ _ h2]
  have hV0 : gs = [] ∧ q = [] := by
    rw [hvars] at hV
    cases gs with
    | nil => exact ⟨rfl, hV⟩
    | cons g gs => exact hV.elim
  obtain ⟨rfl, rfl⟩ := hV0
  obtain ⟨e1, e2, e3⟩ := hs ds (hlen _ _ _ _ hA)
  refine (contract W args ds p base hval hA W.drawn).mono fun e W' hW2 => ?_
  obtain ⟨v, h', d', rfl, rfl, rfl, K⟩ := hW2
  have hb0 : Below W.heap.size (mkw ⟨W.tape, W.os, W.output⟩ W.heap W.drawn) (mkw ⟨W.tape, W.os, W.output⟩ h' d') := below_of K
  have hb : Below W.heap.size W (mkw ⟨W.tape, W.os, W.output⟩ h' d') := hb0
  have hlt : ∀ x ∈ p, x.block < W.heap.size := fun x hx => by simpa using hW'.lt x (by simpa using hx)
  refine ⟨_, rfl, ds, [], p ++ [], [], p, [], hW', ?_, ?_, ?_, hb.frame _, fun h => by cases h⟩
  · rw [List.append_nil, e1, hres]
    exact trodAll_mk1 (shut_bool (show Try.prog.underlying 4 = some .bool from u_bool) _)
  · rw [List.append_nil, e2]
    exact trodAll_below laidOut hb _ _ _ _ hread hA hlt
  · rw [List.append_nil, e3, hvars]
    rfl

end Go.Proofs.Ytgebfbnndgjkiaa

/- Thirty-second part: the function of Truncate's filter. Conditions: those that each theorem names. -/
namespace Go.Proofs.Ytgebfbnndgjkiaa
open Go.Tess Go.RowKit
set_option maxRecDepth 100000
set_option maxHeartbeats 1000000
/-- A span that lies wholly ahead of the first internal key, behind the second one. -/
def stB (st : Option ByteArray) (s : SpanD) : Bool := match st with | none => false | some k => sle s.e k
def enB (en : Option ByteArray) (s : SpanD) : Bool := match en with | none => false | some k => slt k s.s
def cutLo (lo : ByteArray) (s : SpanD) : ByteArray := if slt s.s lo then lo else s.s
def cutUp (up : ByteArray) (s : SpanD) : ByteArray := if slt up s.e then up else s.e
def ffT (st en : Option ByteArray) (lo up : ByteArray) (s : SpanD) : Option SpanD :=
  if stB st s then none else if enB en s then none else if slt (cutLo lo s) (cutUp up s) then some ⟨cutLo lo s, cutUp up s, s.ks⟩ else none
/-- An internal key behind a pointer, or none. -/
def PBnd (G : Nat → Prop) (h : Heap) (p : Option Addr) (k : Option ByteArray) : Prop := match k with
  | none => p = none
  | some k => ∃ b o kv tr, p = some ⟨b, o, none⟩ ∧ G b ∧ CellsAt h b o [kv, tr] ∧ RBytes G h kv k
structure EnvT (bst bcm ben blo bup bpn : Nat) (st en : Option ByteArray) (lo up : ByteArray) (G : Nat → Prop) (h : Heap) : Prop where
  low : Low G h
  g : G bst ∧ G bcm ∧ G ben ∧ G blo ∧ G bup ∧ G bpn
  bs : ∃ p, Blk h bst [.pointer p] 171 ∧ PBnd G h p st
  bc : Blk h bcm [cmpF] 104
  be : ∃ p, Blk h ben [.pointer p] 171 ∧ PBnd G h p en
  bl : ∃ v, Blk h blo [v] 123 ∧ RBytes G h v lo
  bu : ∃ v, Blk h bup [v] 123 ∧ RBytes G h v up
  bp : Blk h bpn [.bool false] 4
theorem PBnd.stab {G : Nat → Prop} {h h' : Heap} {p : Option Addr} {k : Option ByteArray} (hp : PBnd G h p k) (s : Stab G h h') : PBnd G h' p k := by
  cases k with
  | none => exact hp
  | some k =>
    obtain ⟨b, o, kv, tr, e, h1, h2, h3⟩ := hp
    exact ⟨b, o, kv, tr, e, h1, s.cells h1 h2, h3.stab s⟩
section
variable {bst bcm ben blo bup bpn : Nat} {st en : Option ByteArray} {lo up : ByteArray} {G : Nat → Prop} {h h' : Heap}
theorem EnvT.stab (hE : EnvT bst bcm ben blo bup bpn st en lo up G h) (s : Stab G h h') (hz : h.size ≤ h'.size) : EnvT bst bcm ben blo bup bpn st en lo up G h' where
  low := hE.low.mono hz
  g := hE.g
  bs := by obtain ⟨p, h1, h2⟩ := hE.bs; exact ⟨p, (s _ hE.g.1).trans h1, h2.stab s⟩
  bc := (s _ hE.g.2.1).trans hE.bc
  be := by obtain ⟨p, h1, h2⟩ := hE.be; exact ⟨p, (s _ hE.g.2.2.1).trans h1, h2.stab s⟩
  bl := by obtain ⟨p, h1, h2⟩ := hE.bl; exact ⟨p, (s _ hE.g.2.2.2.1).trans h1, h2.stab s⟩
  bu := by obtain ⟨p, h1, h2⟩ := hE.bu; exact ⟨p, (s _ hE.g.2.2.2.2.1).trans h1, h2.stab s⟩
  bp := (s _ hE.g.2.2.2.2.2).trans hE.bp
end
theorem cPKey_one (G : Nat → Prop) (h : Heap) (c : List Value) (k : KeyD) (hc : cPKey G h c k) : c.all (fun u => u.oneCell') = true := by
  obtain ⟨sv, vv, rfl, h1, h2⟩ := hc
  obtain ⟨_, _, rfl⟩ := h1.form2
  obtain ⟨_, _, rfl⟩ := h2.form2
  rfl

theorem c_Empty (χ : Chi) (h : Heap) (b o : Nat) (a : Option Addr) (n cc : Nat) (hc : cellH h b (o + 2) = some (.slice a n cc)) :
    Cl Try.prog χ 92 #[.pointer (some ⟨b, o, none⟩)] h (fun r h' => r = .bool (decide ((n : Int) = 0)) ∧ h' = h) := by
  refine cl_intro Try.func92 rfl rfl rfl ?_
  have K : Keep [] h h := Keep.refl _ _
  refine tr_seq ?_
  refine tr_reg ?_
  refine rs_v (v_assign rfl) rfl ?_
  refine rs_nil ?_
  refine q_thn ?_
  refine tr_seq ?_
  refine tr_reg ?_
  refine rs_v (v_move rfl) rfl ?_
  refine rs_v (v_peq u_p_keyspan_Span rfl rfl) rfl ?_
  refine rs_v (v_move rfl) rfl ?_
  refine rs_gv rfl (rfl) (v_move rfl) rfl ?_
  refine rs_gv rfl (rfl) (v_nilCheck_ptr rfl) rfl ?_
  refine rs_gv rfl (rfl) (v_fieldAddr fa_keyspan_Span_2 rfl) rfl ?_
  refine rs_gv rfl (rfl) (v_load one_sl_keyspan_Key rfl (by exact hc)) rfl ?_
  refine rs_gv rfl (rfl) (v_len u_sl_keyspan_Key rfl) rfl ?_
  refine rs_gv rfl (rfl) (v_eq rfl rfl) rfl ?_
  refine rs_v (v_pick_f rfl rfl) rfl ?_
  refine rs_v (v_assign rfl) rfl ?_
  refine rs_nil ?_
  refine q_thn ?_
  refine tr_ret ?_
  refine q_ret (res_tmp rfl rfl) ?_
  exact ⟨rfl, rfl⟩
theorem c_fnT (χ : Chi) (h : Heap) (Fin : Nat → Prop) (hlow : Low Fin h) (s : SpanD) (bi oi : Nat) (hin : PSpan Fin h bi oi s) (hbi : Fin bi) (c : Nat) (x0 x1 x2 sv0 ev0 kv0 : Value) (kk : Int) (Bc : Blk h c [x0, x1, x2, sv0, ev0, kv0, .int .i8 kk] 185)
    (hcF : ¬ Fin c) (n0 : Nat) (xs0 : List Value) (O : Own h 0 130 3 kv0 n0 xs0) (bst bcm ben blo bup bpn : Nat) (st en : Option ByteArray) (lo up : ByteArray) (G : Nat → Prop) (hE : EnvT bst bcm ben blo bup bpn st en lo up G h)
    (hob0 : ∀ x, x ∈ kv0.ownBlock.toList → x ≠ c ∧ ¬ Fin x ∧ ¬ G x) (hcG : ¬ G c) (hn : s.ks.length ≤ 100000) (hne : s.ks ≠ []) (hen : en ≠ some s.s) :
    Cl Try.prog χ 91 #[.pointer (some ⟨bi, oi, none⟩), .pointer (some ⟨c, 3, none⟩), .pointer (some ⟨bst, 0, none⟩), .pointer (some ⟨bcm, 0, none⟩), .pointer (some ⟨ben, 0, none⟩), .pointer (some ⟨blo, 0, none⟩), .pointer (some ⟨bup, 0, none⟩), .pointer (some ⟨bpn, 0, none⟩)] h (FnPost (ffT st en lo up) s (fun b => Fin b ∨ G b) c x0 x1 x2 kk kv0.ownBlock.toList h) := by
  obtain ⟨a0, c0, rfl⟩ := Own.form3 O
  obtain ⟨sv1, ev1, kv1, kk1, hcell, r1, r2, r3⟩ := hin
  obtain ⟨as1, cs1, rfl⟩ := r1.form2
  obtain ⟨ae1, ce1, rfl⟩ := r2.form2
  obtain ⟨hlen, a, cc, rfl, hx⟩ := r3.form
  rcases hx with hx | ⟨b, o, rfl, hAb, hR⟩
  · exact absurd hx hne
  have hbc : bi ≠ c := fun e => hcF (e ▸ hbi)
  have hFX : ∀ b, Fin b → b ∉ (c :: (Value.slice a0 n0 c0).ownBlock.toList) := fun b hb hm => by
    rcases List.mem_cons.1 hm with e | e
    · subst e; exact hcF hb
    · exact (hob0 b e).2.1 hb
  have hGX : ∀ b, G b → b ∉ (c :: (Value.slice a0 n0 c0).ownBlock.toList) := fun b hb hm => by
    rcases List.mem_cons.1 hm with e | e
    · subst e; exact hcG hb
    · exact (hob0 b e).2.2 hb
  have hclt := Bc.lt
  refine cl_intro Try.func91 rfl rfl rfl ?_
  have K : Keep (c :: (Value.slice a0 n0 c0).ownBlock.toList) h h := Keep.refl _ _
  refine tr_seq ?_
  refine tr_reg ?_
  refine rs_v (v_assign rfl) rfl ?_
  refine rs_nil ?_
  refine q_thn ?_
  refine tr_seq ?_
  refine tr_draw [(true, 13), (false, 3)] _ (by kernel_rfl) (by kernel_rfl) (by kernel_rfl) ?_
  refine rx_any (KeepB c [x0, x1, x2, .slice as1 s.s.data.toList.length cs1, ev0, .slice a0 n0 c0, .int .i8 kk] 185) (keepB_pre _ _ _) ?_
  refine rm_v (keepB_pre _ _ _) (fun h' hk => v_move rfl) ?_
  refine rm_v (keepB_pre _ _ _) (fun h' hk => v_move rfl) ?_
  refine rm_v (keepB_pre _ _ _) (fun h' hk => v_move rfl) ?_
  refine rm_v (keepB_pre _ _ _) (fun h' hk => v_nilCheck_ptr rfl) ?_
  refine rm_v (keepB_pre _ _ _) (fun h' hk => v_fieldAddr fa_keyspan_Span_0 rfl) ?_
  refine rm_v (keepB_pre _ _ _) (fun h' hk => v_load one_sl_uint8 rfl ((hk.1.cells (by simpa using hbc) hcell).at 0 rfl)) ?_
  refine rm_v (keepB_pre _ _ _) (fun h' hk => v_move rfl) ?_
  refine rm_v (keepB_pre _ _ _) (fun h' hk => v_nilCheck_ptr rfl) ?_
  refine rm_v (keepB_pre _ _ _) (fun h' hk => v_fieldAddr fa_keyspan_Span_1 rfl) ?_
  refine rm_v (keepB_pre _ _ _) (fun h' hk => v_load one_sl_uint8 rfl ((hk.1.cells (by simpa using hbc) hcell).at 1 rfl)) ?_
  refine rm_v (keepB_pre _ _ _) (fun h' hk => v_nilCheck_ptr rfl) ?_
  refine rm_v (keepB_pre _ _ _) (fun h' hk => v_fieldAddr fa_keyspan_Span_0 rfl) ?_
  refine rm_w0 _ keepB_stab (fun h' hk => w_putB siz_sl_uint8 rfl rfl rfl rfl Bc hk rfl rfl rfl rfl) ?_
  refine rm_end ?_; intro ha Ka; simp only [endM, hypF, ofE, argE, List.nil_append]; intro Bc
  have K := K.new1 Ka.1 (by left; simp); have Za := Ka.1.1
  have O := O.keep2 Ka.1 (fun x hx hm => (hob0 x hx).1 (by simpa using hm))
  refine rx_seq ?_
  refine rs_v (v_nilCheck_ptr rfl) rfl ?_
  refine rs_v (v_fieldAddr fa_keyspan_Span_1 rfl) rfl ?_
  refine rs_w0 (w_put siz_sl_uint8 rfl rfl rfl rfl Bc rfl) ?_
  rintro _ h1 ⟨B1, K1⟩
  have Bc := B1; have K := K.new1 K1 (by left; simp); have Z1 := K1.1
  have O := O.keep2 K1 (fun x hx hm => (hob0 x hx).1 (by simpa using hm))
  refine rs_nil ?_
  refine q_con ?_
  refine rx_nil ?_
  refine q_thn ?_
  refine tr_seq ?_
  have O0 := Own.cut0 O
  have hcell1 := K.cells (hFX _ hbi) hcell
  obtain ⟨news, hnc, hnr⟩ := rows_of (sz := 3) (R := cPKey Fin h) (fun i x hi => by
    obtain ⟨sv9, vv9, g1, g2, g3⟩ := hR i x hi
    exact ⟨_, rfl, K.cells (hFX _ hAb) g1, sv9, vv9, rfl, g2, g3⟩) (by omega)
  have hn1 := hnr.all1 (fun c k hc => cPKey_one _ _ c k hc)
  have hnl := hnr.len
  refine tr_draw [(true, 11), (false, 3)] _ (by kernel_rfl) (by kernel_rfl) (by kernel_rfl) ?_
  refine rx_one 10 ?_
  refine re_a rfl (fun h' => v_move rfl) ?_
  refine re_v rfl (by kernel_rfl) (v_move rfl) ?_
  refine re_v rfl (by kernel_rfl) (v_nilCheck_ptr rfl) ?_
  refine re_v rfl (by kernel_rfl) (v_fieldAddr fa_keyspan_Span_2 rfl) ?_
  refine re_v rfl (by kernel_rfl) (v_load one_sl_keyspan_Key rfl (Bc.cell _ rfl)) ?_
  refine re_v rfl (by kernel_rfl) (v_slice_h u_sl_keyspan_Key siz_keyspan_Key (i := 0) rfl rfl rfl (by omega)) ?_
  refine re_v rfl (by kernel_rfl) (v_move rfl) ?_
  refine re_v rfl (by kernel_rfl) (v_nilCheck_ptr rfl) ?_
  refine re_v rfl (by kernel_rfl) (v_fieldAddr fa_keyspan_Span_2 rfl) ?_
  refine re_v rfl (by kernel_rfl) (v_load one_sl_keyspan_Key rfl (hcell1.at 2 rfl)) ?_
  refine re_w _ rfl (w_appN u_sl_keyspan_Key info_keyspan_Key rfl rfl rfl O0 rfl hnl hnc hn1 (by omega) (by omega) (by omega)) ?_
  refine re_end ?_; intro hb _; simp only [endM, hypF, ofE, argE, List.nil_append]; rintro v38 ⟨O, Kb, Fb⟩
  obtain ⟨a9, c9, rfl⟩ := Own.form3 O
  rw [own_block0 (a := a0) (m := 0) (m2 := n0) (c2 := c0)] at Kb Fb
  have hclt1 := Bc.lt
  have Bc := Kb.blk (fun hm => (hob0 c hm).1 rfl) Bc
  have hK1 := K.1
  have K := K.newX Kb (fun x hm => .inl (List.mem_cons_of_mem _ hm)); have Zb := Kb.1
  have hfc : ∀ x, x ∈ (Value.slice a9 (0 + s.ks.length) c9).ownBlock.toList → (x ∈ (Value.slice a0 n0 c0).ownBlock.toList ∨ h.size ≤ x) ∧ x ≠ c := fun x hx => by
    rcases Fb with e | e
    · rw [e] at hx; exact ⟨.inl hx, (hob0 x hx).1⟩
    · rw [e] at hx; simp at hx; exact ⟨.inr (by omega), by omega⟩
  refine rx_seq ?_
  refine rs_v (v_nilCheck_ptr rfl) rfl ?_
  refine rs_v (v_fieldAddr fa_keyspan_Span_2 rfl) rfl ?_
  refine rs_w0 (w_put siz_sl_keyspan_Key rfl rfl rfl rfl Bc rfl) ?_
  rintro _ h2 ⟨B2, K2⟩
  have Bc := B2; have K := K.new1 K2 (by left; simp); have Z2 := K2.1
  have O := O.keep2 K2 (fun x hx hm => (hfc x hx).2 (by simpa using hm))
  rw [Nat.zero_add s.ks.length] at O hfc Bc
  have hSF : Stab Fin h h2 := K.stab fun b hb => ⟨hlow b hb, hFX b hb⟩
  have hFc : ∀ b, Fin b → b < (h2).size ∧ b ∉ [c] := fun b hb => ⟨Nat.lt_of_lt_of_le (hlow b hb) K.1, fun hm => hcF (by rw [List.mem_singleton] at hm; rw [← hm]; exact hb)⟩
  have hGc : ∀ b, G b → b < (h2).size ∧ b ∉ [c] := fun b hb => ⟨Nat.lt_of_lt_of_le (hE.low b hb) K.1, fun hm => hcG (by rw [List.mem_singleton] at hm; rw [← hm]; exact hb)⟩
  have hFGc : ∀ b, (Fin b ∨ G b) → b < (h2).size ∧ b ∉ [c] := fun b hb => hb.elim (hFc b) (hGc b)
  have hE2 := hE.stab (K.stab fun b hb => ⟨hE.low b hb, hGX b hb⟩) K.1
  have hg := hE.g
  obtain ⟨ps, BS, hps⟩ := hE2.bs
  obtain ⟨pe, BE, hpe⟩ := hE2.be
  obtain ⟨vl, BL, hvl⟩ := hE2.bl
  obtain ⟨vu, BU, hvu⟩ := hE2.bu
  have BC := hE2.bc
  have BP := hE2.bp
  obtain ⟨al, cl, rfl⟩ := hvl.form2
  obtain ⟨au, cu, rfl⟩ := hvu.form2
  have hcell2 := K.cells (hFX _ hbi) hcell
  have q1 := r1.stab hSF
  have q2 := r2.stab hSF
  refine rs_nil ?_
  refine q_con ?_
  refine rx_nil ?_
  refine q_thn ?_
  refine tr_seq ?_
  refine tr_cut (fun E h' => h2 = h' ∧ E = [(0, .pointer (some ⟨bi, oi, none⟩)), (1, .pointer (some ⟨c, 3, none⟩)), (2, .pointer (some ⟨bst, 0, none⟩)), (3, .pointer (some ⟨bcm, 0, none⟩)), (4, .pointer (some ⟨ben, 0, none⟩)), (5, .pointer (some ⟨blo, 0, none⟩)), (6, .pointer (some ⟨bup, 0, none⟩)), (7, .pointer (some ⟨bpn, 0, none⟩)), (55, .bool (stB st s))]) ?_ ?_
  ·
    rcases st with _ | k
    · have hps0 : ps = none := hps
      subst hps0
      refine tr_quiet (by kernel_rfl) (by kernel_rfl) ?_
      refine rq_v (v_load one_p_base_InternalKey rfl (by exact BS.cell _ rfl)) ?_
      refine rq_v (v_pne u_p_base_InternalKey rfl rfl) ?_
      refine rq_v (v_move rfl) ?_
      refine rm_gs same_pre rfl rfl rfl ?_
      refine rm_gs same_pre rfl rfl rfl ?_
      refine rm_gs same_pre rfl rfl rfl ?_
      refine rm_gs same_pre rfl rfl rfl ?_
      refine rm_gs same_pre rfl rfl rfl ?_
      refine rm_gs same_pre rfl rfl rfl ?_
      refine rm_gs same_pre rfl rfl rfl ?_
      refine rm_gs same_pre rfl rfl rfl ?_
      refine rm_gs same_pre rfl rfl rfl ?_
      refine rm_gs same_pre rfl rfl rfl ?_
      refine rm_gs same_pre rfl rfl rfl ?_
      refine rq_v (v_pick_f rfl rfl) ?_
      refine rm_end ?_; simp only [endM, hypF, ofE, argE]
      exact q_cut [(0, _), (1, _), (2, _), (3, _), (4, _), (5, _), (6, _), (7, _), (55, _)] ⟨rfl, rfl, rfl, rfl, rfl, rfl, rfl, rfl, rfl, trivial⟩ ⟨rfl, rfl⟩
    · obtain ⟨bk, ok, kvk, trk, rfl, hgk, hck, hrk⟩ := hps
      refine tr_quiet (by kernel_rfl) (by kernel_rfl) ?_
      refine rq_v (v_load one_p_base_InternalKey rfl (by exact BS.cell _ rfl)) ?_
      refine rq_v (v_pne u_p_base_InternalKey rfl rfl) ?_
      refine rq_v (v_move rfl) ?_
      refine rq_gv rfl rfl (v_load one_base_Compare rfl (by exact BC.cell _ rfl)) ?_
      refine rq_gv rfl rfl (v_move rfl) ?_
      refine rq_gv rfl rfl (v_nilCheck_ptr rfl) ?_
      refine rq_gv rfl rfl (v_fieldAddr fa_keyspan_Span_1 rfl) ?_
      refine rq_gv rfl rfl (v_load one_sl_uint8 rfl (by exact hcell2.at 1 rfl)) ?_
      refine rq_gv rfl rfl (v_load one_p_base_InternalKey rfl (by exact BS.cell _ rfl)) ?_
      refine rq_gv rfl rfl (v_nilCheck_ptr rfl) ?_
      refine rq_gv rfl rfl (v_fieldAddr fa_base_InternalKey_0 rfl) ?_
      refine rq_gv rfl rfl (v_load one_sl_uint8 rfl (by exact hck.at 0 rfl)) ?_
      refine rq_gw rfl rfl (w_callv (first := []) (cap := []) (vs := [_, _]) ok_bytes_Compare rfl ⟨rfl, rfl, trivial⟩ (c_Compare χ _ _ _ s.e k (RBytes.by q2) (RBytes.by hrk))) ?_
      refine rq_gv rfl rfl (v_le rfl rfl) ?_
      refine rq_v (v_pick_t rfl rfl) ?_
      refine rm_end ?_; simp only [endM, hypF, ofE, argE]
      refine q_cut [(0, _), (1, _), (2, _), (3, _), (4, _), (5, _), (6, _), (7, _), (55, _)] ⟨rfl, rfl, rfl, rfl, rfl, rfl, rfl, rfl, rfl, trivial⟩ ⟨rfl, ?_⟩
      rw [show stB (some k) s = decide (cmpB s.e k ≤ 0) from sle_cmp _ _]
  rintro E h9 ⟨hh, rfl⟩
  subst hh
  refine tr_if rfl (fun hif => ?_) (fun hif => ?_)
  · -- yes
    skip
    refine tr_seq ?_
    refine tr_reg ?_
    refine rs_v (v_assign rfl) rfl ?_
    refine rs_nil ?_
    refine q_thn ?_
    refine tr_ret ?_
    refine q_thn_ret ?_
    refine q_ret (res_tmp rfl rfl) ?_
    have hnone : ffT st en lo up s = none := by simp [ffT, hif]
    exact ⟨by rw [hnone]; rfl, _, _, _, _, _, Bc, O, K, hfc, fun s' hs' => by rw [hnone] at hs'; cases hs'⟩
  -- no
  have hst0 := hif
  refine tr_skip ?_
  refine q_thn ?_
  refine tr_cut (fun E h' => h2 = h' ∧ enB en s = false ∧ E = [(0, .pointer (some ⟨bi, oi, none⟩)), (1, .pointer (some ⟨c, 3, none⟩)), (2, .pointer (some ⟨bst, 0, none⟩)), (3, .pointer (some ⟨bcm, 0, none⟩)), (4, .pointer (some ⟨ben, 0, none⟩)), (5, .pointer (some ⟨blo, 0, none⟩)), (6, .pointer (some ⟨bup, 0, none⟩)), (7, .pointer (some ⟨bpn, 0, none⟩))]) ?_ ?_
  ·
    refine tr_seq ?_
    refine tr_reg ?_
    refine rs_v (v_load one_p_base_InternalKey rfl (by exact BE.cell _ rfl)) rfl ?_
    refine rs_v (v_pne u_p_base_InternalKey rfl rfl) rfl ?_
    refine rs_nil ?_
    refine q_thn ?_
    refine tr_if rfl (fun hif => ?_) (fun hif => ?_)
    · -- yes
      rcases en with _ | ke
      · have hpe0 : pe = none := hpe
        subst hpe0; cases hif
      obtain ⟨bk, ok, kvk, trk, rfl, hgk, hck, hrk⟩ := hpe
      refine tr_seq ?_
      refine tr_quiet (by kernel_rfl) (by kernel_rfl) ?_
      refine rq_v (v_load one_base_Compare rfl (by exact BC.cell _ rfl)) ?_
      refine rq_v (v_move rfl) ?_
      refine rq_v (v_nilCheck_ptr rfl) ?_
      refine rq_v (v_fieldAddr fa_keyspan_Span_0 rfl) ?_
      refine rq_v (v_load one_sl_uint8 rfl (by exact hcell2.at 0 rfl)) ?_
      refine rq_v (v_load one_p_base_InternalKey rfl (by exact BE.cell _ rfl)) ?_
      refine rq_v (v_nilCheck_ptr rfl) ?_
      refine rq_v (v_fieldAddr fa_base_InternalKey_0 rfl) ?_
      refine rq_v (v_load one_sl_uint8 rfl (by exact hck.at 0 rfl)) ?_
      refine rq_w (w_callv (first := []) (cap := []) (vs := [_, _]) ok_bytes_Compare rfl ⟨rfl, rfl, trivial⟩ (c_Compare χ _ _ _ s.s ke (RBytes.by q1) (RBytes.by hrk))) ?_
      refine rq_v (v_assign rfl) ?_
      refine rm_end ?_; simp only [endM, hypF, ofE, argE]
      refine q_thn ?_
      refine tr_block ?_
      refine tr_seq ?_
      refine tr_reg ?_
      refine rs_v (v_move rfl) rfl ?_
      refine rs_v (v_gt rfl rfl) rfl ?_
      refine rs_v (v_assign rfl) rfl ?_
      refine rs_nil ?_
      refine q_thn ?_
      refine tr_if rfl (fun hif => ?_) (fun hif => ?_)
      · -- yes
        have h9 : enB (some ke) s = true := by
          simp only [enB]
          rw [slt_cmp, cmpB_anti s.s ke]
          have := of_decide_eq_true hif
          simp; omega
        refine tr_seq ?_
        refine tr_reg ?_
        refine rs_v (v_assign rfl) rfl ?_
        refine rs_nil ?_
        refine q_thn ?_
        refine tr_ret ?_
        refine q_blk_ret ?_
        refine q_cut_ret ?_
        refine q_ret (res_tmp rfl rfl) ?_
        have hnone : ffT st (some ke) lo up s = none := by simp [ffT, h9]
        exact ⟨by rw [hnone]; rfl, _, _, _, _, _, Bc, O, K, hfc, fun s' hs' => by rw [hnone] at hs'; cases hs'⟩
      -- no
      have hgt := hif
      have hne0 : ¬ cmpB s.s ke = 0 := fun e => hen (by rw [show s.s = ke from seq'_eq.1 (by rw [seq_cmp]; exact decide_eq_true e)])
      refine tr_seq ?_
      refine tr_reg ?_
      refine rs_v (v_move rfl) rfl ?_
      refine rs_v (v_eq rfl rfl) rfl ?_
      refine rs_v (v_assign rfl) rfl ?_
      refine rs_nil ?_
      refine q_thn ?_
      refine tr_if_f (lkb (decide_eq_false hne0)) ?_
      refine tr_skip ?_
      refine q_blk_n ?_
      exact q_cut [(0, _), (1, _), (2, _), (3, _), (4, _), (5, _), (6, _), (7, _)] ⟨rfl, rfl, rfl, rfl, rfl, rfl, rfl, rfl, trivial⟩ ⟨rfl, by have := of_decide_eq_false hgt; simp only [enB]; rw [slt_cmp, cmpB_anti s.s ke]; simp; omega, rfl⟩
    -- no
    rcases en with _ | ke
    rotate_left
    · obtain ⟨bk, ok, kvk, trk, rfl, hgk, hck, hrk⟩ := hpe
      cases hif
    refine tr_skip ?_
    exact q_cut [(0, _), (1, _), (2, _), (3, _), (4, _), (5, _), (6, _), (7, _)] ⟨rfl, rfl, rfl, rfl, rfl, rfl, rfl, rfl, trivial⟩ ⟨rfl, rfl, rfl⟩
  rintro E h9 ⟨hh, hen0, rfl⟩
  subst hh
  refine tr_seq ?_
  refine tr_reg ?_
  refine rs_v (v_assign rfl) rfl ?_
  refine rs_nil ?_
  refine q_thn ?_
  refine tr_cut (fun E h' => ∃ sv sn sc, E = [(0, .pointer (some ⟨bi, oi, none⟩)), (1, .pointer (some ⟨c, 3, none⟩)), (2, .pointer (some ⟨bst, 0, none⟩)), (3, .pointer (some ⟨bcm, 0, none⟩)), (4, .pointer (some ⟨ben, 0, none⟩)), (5, .pointer (some ⟨blo, 0, none⟩)), (6, .pointer (some ⟨bup, 0, none⟩)), (7, .pointer (some ⟨bpn, 0, none⟩)), (13, .bool false)] ∧ Blk h' c [x0, x1, x2, .slice sv sn sc, .slice ae1 s.e.data.toList.length ce1, .slice a9 s.ks.length c9, .int .i8 kk] 185 ∧ Keep (c :: (Value.slice a0 n0 c0).ownBlock.toList) h h' ∧ Keep [c] h2 h' ∧ RBytes (fun b => Fin b ∨ G b) h2 (.slice sv sn sc) (cutLo lo s)) ?_ ?_
  ·
    refine tr_seq ?_
    refine tr_quiet (by kernel_rfl) (by kernel_rfl) ?_
    refine rq_v (v_load one_base_Compare rfl (by exact BC.cell _ rfl)) ?_
    refine rq_v (v_move rfl) ?_
    refine rq_v (v_nilCheck_ptr rfl) ?_
    refine rq_v (v_fieldAddr fa_keyspan_Span_0 rfl) ?_
    refine rq_v (v_load one_sl_uint8 rfl (by exact hcell2.at 0 rfl)) ?_
    refine rq_v (v_load one_sl_uint8 rfl (by exact BL.cell _ rfl)) ?_
    refine rq_w (w_callv (first := []) (cap := []) (vs := [_, _]) ok_bytes_Compare rfl ⟨rfl, rfl, trivial⟩ (c_Compare χ _ _ _ s.s lo (RBytes.by q1) (RBytes.by hvl))) ?_
    refine rq_v (v_lt rfl rfl) ?_
    refine rm_end ?_; simp only [endM, hypF, ofE, argE]
    refine q_thn ?_
    refine tr_if rfl (fun hif => ?_) (fun hif => ?_)
    · -- yes
      have hlo : slt s.s lo = true := by rw [slt_cmp]; exact hif
      refine tr_reg ?_
      refine rs_v (v_move rfl) rfl ?_
      refine rs_v (v_load one_sl_uint8 rfl (by exact BL.cell _ rfl)) rfl ?_
      refine rs_v (v_nilCheck_ptr rfl) rfl ?_
      refine rs_v (v_fieldAddr fa_keyspan_Span_0 rfl) rfl ?_
      refine rs_w0 (w_put siz_sl_uint8 rfl rfl rfl rfl Bc rfl) ?_
      rintro _ h5 ⟨B5, K5⟩
      have Bc := B5; have K := K.new1 K5 (by first | (right; omega) | (left; simp; done)); have Z5 := K5.1
      refine rs_nil ?_
      exact q_cut [(0, _), (1, _), (2, _), (3, _), (4, _), (5, _), (6, _), (7, _), (13, _)] ⟨rfl, rfl, rfl, rfl, rfl, rfl, rfl, rfl, rfl, trivial⟩ ⟨_, _, _, rfl, Bc, K, K5, by rw [show cutLo lo s = lo from if_pos hlo]; exact hvl.mono (fun b hb => .inr hb)⟩
    -- no
    have hlo : ¬ slt s.s lo = true := by rw [slt_cmp, hif]; decide
    refine tr_skip ?_
    exact q_cut [(0, _), (1, _), (2, _), (3, _), (4, _), (5, _), (6, _), (7, _), (13, _)] ⟨rfl, rfl, rfl, rfl, rfl, rfl, rfl, rfl, rfl, trivial⟩ ⟨_, _, _, rfl, Bc, K, Keep.refl _ _, by rw [show cutLo lo s = s.s from if_neg hlo]; exact q1.mono (fun b hb => .inl hb)⟩
  rintro E h17 ⟨sv, sn, sc, rfl, Bc, K, K2, hs1⟩
  have Z17 := K2.1
  have BC := K2.blk (fun hm => hcG (by rw [List.mem_singleton] at hm; rw [← hm]; exact hg.2.1)) BC
  have BU := K2.blk (fun hm => hcG (by rw [List.mem_singleton] at hm; rw [← hm]; exact hg.2.2.2.2.1)) BU
  have BP := K2.blk (fun hm => hcG (by rw [List.mem_singleton] at hm; rw [← hm]; exact hg.2.2.2.2.2)) BP
  have hcell2 := K2.cells (by simpa using hbc) hcell2
  have q2b := q2.stab (K2.stab hFc)
  have hvu2 := hvu.stab (K2.stab hGc)
  refine tr_cut (fun E h' => ∃ tb ev en' ec, E = [(0, .pointer (some ⟨bi, oi, none⟩)), (1, .pointer (some ⟨c, 3, none⟩)), (2, .pointer (some ⟨bst, 0, none⟩)), (3, .pointer (some ⟨bcm, 0, none⟩)), (4, .pointer (some ⟨ben, 0, none⟩)), (5, .pointer (some ⟨blo, 0, none⟩)), (6, .pointer (some ⟨bup, 0, none⟩)), (7, .pointer (some ⟨bpn, 0, none⟩)), (13, .bool tb)] ∧ Blk h' c [x0, x1, x2, .slice sv sn sc, .slice ev en' ec, .slice a9 s.ks.length c9, .int .i8 kk] 185 ∧ Keep (c :: (Value.slice a0 n0 c0).ownBlock.toList) h h' ∧ Keep [c] h2 h' ∧ RBytes (fun b => Fin b ∨ G b) h2 (.slice ev en' ec) (cutUp up s)) ?_ ?_
  ·
    refine tr_seq ?_
    refine tr_quiet (by kernel_rfl) (by kernel_rfl) ?_
    refine rq_v (v_load one_base_Compare rfl (by exact BC.cell _ rfl)) ?_
    refine rq_v (v_move rfl) ?_
    refine rq_v (v_nilCheck_ptr rfl) ?_
    refine rq_v (v_fieldAddr fa_keyspan_Span_1 rfl) ?_
    refine rq_v (v_load one_sl_uint8 rfl (by exact hcell2.at 1 rfl)) ?_
    refine rq_v (v_load one_sl_uint8 rfl (by exact BU.cell _ rfl)) ?_
    refine rq_w (w_callv (first := []) (cap := []) (vs := [_, _]) ok_bytes_Compare rfl ⟨rfl, rfl, trivial⟩ (c_Compare χ _ _ _ s.e up (RBytes.by q2b) (RBytes.by hvu2))) ?_
    refine rq_v (v_gt rfl rfl) ?_
    refine rm_end ?_; simp only [endM, hypF, ofE, argE]
    refine q_thn ?_
    refine tr_if rfl (fun hif => ?_) (fun hif => ?_)
    · -- yes
      have hup : slt up s.e = true := by rw [slt_cmp, cmpB_anti s.e up]; exact decide_eq_true (by have := of_decide_eq_true hif; omega)
      refine tr_seq ?_
      refine tr_reg ?_
      refine rs_v (v_assign rfl) rfl ?_
      refine rs_nil ?_
      refine q_thn ?_
      refine tr_reg ?_
      refine rs_v (v_move rfl) rfl ?_
      refine rs_v (v_load one_sl_uint8 rfl (by exact BU.cell _ rfl)) rfl ?_
      refine rs_v (v_nilCheck_ptr rfl) rfl ?_
      refine rs_v (v_fieldAddr fa_keyspan_Span_1 rfl) rfl ?_
      refine rs_w0 (w_put siz_sl_uint8 rfl rfl rfl rfl Bc rfl) ?_
      rintro _ h7 ⟨B7, K7⟩
      have Bc := B7; have K := K.new1 K7 (by first | (right; omega) | (left; simp; done)); have Z7 := K7.1
      refine rs_nil ?_
      exact q_cut [(0, _), (1, _), (2, _), (3, _), (4, _), (5, _), (6, _), (7, _), (13, _)] ⟨rfl, rfl, rfl, rfl, rfl, rfl, rfl, rfl, rfl, trivial⟩ ⟨_, _, _, _, rfl, Bc, K, K2.trans K7, by rw [show cutUp up s = up from if_pos hup]; exact hvu.mono (fun b hb => .inr hb)⟩
    -- no
    have hup : ¬ slt up s.e = true := by rw [slt_cmp, cmpB_anti s.e up]; have := of_decide_eq_false hif; simp; omega
    refine tr_skip ?_
    exact q_cut [(0, _), (1, _), (2, _), (3, _), (4, _), (5, _), (6, _), (7, _), (13, _)] ⟨rfl, rfl, rfl, rfl, rfl, rfl, rfl, rfl, rfl, trivial⟩ ⟨_, _, _, _, rfl, Bc, K, K2, by rw [show cutUp up s = s.e from if_neg hup]; exact q2.mono (fun b hb => .inl hb)⟩
  rintro E h19 ⟨tb, ev, en9, ec, rfl, Bc, K, K2, hs2⟩
  have Z19 := K2.1
  have BC := hE2.bc
  have BP := hE2.bp
  have BC := K2.blk (fun hm => hcG (by rw [List.mem_singleton] at hm; rw [← hm]; exact hg.2.1)) BC
  have BP := K2.blk (fun hm => hcG (by rw [List.mem_singleton] at hm; rw [← hm]; exact hg.2.2.2.2.2)) BP
  have O := O.keep2 K2 (fun x hx hm => (hfc x hx).2 (by simpa using hm))
  have SFG := K2.stab hFGc
  have hs1 := hs1.stab SFG
  have hs2 := hs2.stab SFG
  have g1 : (!decide ((s.ks.length : Int) = 0)) = true := by have := List.length_pos_iff.2 hne; simp; omega
  refine tr_seq ?_
  refine tr_seq ?_
  refine tr_reg ?_
  refine rs_v (v_load one_bool rfl (by exact BP.cell _ rfl)) rfl ?_
  refine rs_v (v_move rfl) rfl ?_
  refine rs_gs rfl (rfl) rfl rfl ?_
  refine rs_v (v_pick_f rfl rfl) rfl ?_
  refine rs_nil ?_
  refine q_thn ?_
  refine tr_if_f rfl ?_
  refine tr_skip ?_
  refine q_thn ?_
  refine tr_seq ?_
  refine tr_quiet (by kernel_rfl) (by kernel_rfl) ?_
  refine rq_v (v_move rfl) ?_
  refine rq_w (w_call (vs := [_]) ok_keyspan_Span_Empty rfl ⟨rfl, trivial⟩ (c_Empty χ _ c 3 a9 s.ks.length c9 (Bc.cell _ rfl))) ?_
  refine rq_v (v_not rfl) ?_
  refine rq_v (v_move rfl) ?_
  refine rq_gv rfl (lkm g1) (v_load one_base_Compare rfl (by exact BC.cell _ rfl)) ?_
  refine rq_gv rfl (lkm g1) (v_move rfl) ?_
  refine rq_gv rfl (lkm g1) (v_nilCheck_ptr rfl) ?_
  refine rq_gv rfl (lkm g1) (v_fieldAddr fa_keyspan_Span_0 rfl) ?_
  refine rq_gv rfl (lkm g1) (v_load one_sl_uint8 rfl (by exact Bc.cell _ rfl)) ?_
  refine rq_gv rfl (lkm g1) (v_move rfl) ?_
  refine rq_gv rfl (lkm g1) (v_nilCheck_ptr rfl) ?_
  refine rq_gv rfl (lkm g1) (v_fieldAddr fa_keyspan_Span_1 rfl) ?_
  refine rq_gv rfl (lkm g1) (v_load one_sl_uint8 rfl (by exact Bc.cell _ rfl)) ?_
  refine rq_gw rfl (lkm g1) (w_callv (first := []) (cap := []) (vs := [_, _]) ok_bytes_Compare rfl ⟨rfl, rfl, trivial⟩ (c_Compare χ _ _ _ (cutLo lo s) (cutUp up s) (RBytes.by hs1) (RBytes.by hs2))) ?_
  refine rq_gv rfl (lkm g1) (v_lt rfl rfl) ?_
  refine rq_v (v_pick_t (lkb g1) rfl) ?_
  refine rq_v (v_assign rfl) ?_
  refine rm_end ?_; simp only [endM, hypF, ofE, argE]
  refine q_thn ?_
  refine tr_ret ?_
  refine q_ret (res_tmp rfl rfl) ?_
  have hsl := slt_cmp (cutLo lo s) (cutUp up s)
  refine ⟨?_, _, _, _, _, _, Bc, O, K, hfc, fun s' hs' => ?_⟩
  · rw [← hsl]; unfold ffT; rw [hst0, hen0]
    cases slt (cutLo lo s) (cutUp up s) <;> rfl
  · unfold ffT at hs'; rw [hst0, hen0] at hs'
    simp only [Bool.false_eq_true, if_false] at hs'
    split at hs'
    · cases hs'
      exact ⟨hs1, hs2, rfl, hnr.mono fun c a hr => cPKey_st.stab _ _ _ _ _ SFG (cPKey_st.mono _ _ _ _ _ (fun b hb => .inl hb) (cPKey_st.stab _ _ _ _ _ hSF hr))⟩
    · cases hs'
end Go.Proofs.Ytgebfbnndgjkiaa

/- Thirty-third part: the specification's truncated spans, and those within two internal keys. Conditions: those that each theorem names. -/
namespace Go.Proofs.Ytgebfbnndgjkiaa
open Go.Tess Go.RowKit
set_option maxRecDepth 100000
set_option maxHeartbeats 1000000
structure EntD where
  user : ByteArray
  tr : Int
  val : ByteArray
def EntD.v (e : EntD) : Value := .agg #[.string e.user, .int .u64 e.tr, .string e.val]
def ffW (st en : ByteArray) (s : SpanD) : Option SpanD := if sle s.e st || slt en s.s then none else some s
theorem nsle (a b : ByteArray) : (!(sle a b)) = slt b a := by
  cases h : sle a b with
  | false => rw [not_sle.1 h]; rfl
  | true =>
    cases h2 : slt b a with
    | false => rfl
    | true => rw [not_sle.2 h2] at h; cases h
theorem ffT_both (st en lo up : ByteArray) (W : List SpanD) : (W.filterMap (ffW st en)).filterMap (ffT none none lo up) = W.filterMap (ffT (some st) (some en) lo up) := by
  rw [List.filterMap_filterMap]
  congr 1
  funext s
  simp only [ffW, ffT, stB, enB]
  rcases Bool.eq_false_or_eq_true (sle s.e st) with h1 | h1 <;> rcases Bool.eq_false_or_eq_true (slt en s.s) with h2 | h2 <;> simp [h1, h2, ffT, stB, enB]
theorem ffT_plain (lo up : ByteArray) (s : SpanD) : ffT none none lo up s = if slt (cutLo lo s) (cutUp up s) then some ⟨cutLo lo s, cutUp up s, s.ks⟩ else none := by simp [ffT, stB, enB]
theorem cutUp_sle (up : ByteArray) (s : SpanD) : (if sle s.e up then s.e else up) = cutUp up s := by
  unfold cutUp
  cases h : slt up s.e with
  | true => rw [if_neg (by rw [not_sle.2 h]; decide)]; rfl
  | false => rw [if_pos (not_slt.1 h)]; rfl

theorem c_SpanTruncated (χ : Chi) (h : Heap) (A : Nat → Prop) (hA : Low A h) (v : Value) (W : List SpanD) (lo up : ByteArray) (hW : RSpans A h v W) (hn : W.length ≤ 100000) :
    Cl Try.prog χ 38 #[v, .string lo, .string up] h (fun r h' => RSpans (Up A h h') h' r (W.filterMap (ffT none none lo up)) ∧ Keep [] h h') := by
  obtain ⟨hlen, a, c, rfl, hx⟩ := hW.form
  refine cl_intro Try.func38 rfl rfl rfl ?_
  have K : Keep [] h h := Keep.refl _ _
  refine tr_seq ?_
  refine tr_reg ?_
  refine rs_v (v_assign rfl) rfl ?_
  refine rs_nil ?_
  refine q_thn ?_
  refine tr_seq ?_
  refine tr_reg ?_
  refine rs_v (v_assign rfl) rfl ?_
  refine rs_nil ?_
  refine q_thn ?_
  refine tr_seq ?_
  refine tr_seq ?_
  refine tr_reg ?_
  refine rs_v (v_move rfl) rfl ?_
  refine rs_v (v_len u_sl_spec_Span rfl) rfl ?_
  refine rs_v (v_move rfl) rfl ?_
  refine rs_nil ?_
  refine q_thn ?_
  refine tr_block ?_
  refine tr_loop (fun m E h' => ∃ k v n, k ≤ W.length ∧ m = W.length - k ∧ E = [(7, v), (1, .string lo), (2, .string up), (10, .slice a W.length c), (11, .int .i64 (W.length : Int)), (12, .int .i64 (k : Int))] ∧ Keep [] h h' ∧ n = ((W.take k).filterMap (ffT none none lo up)).length ∧ OutR A h h' h.size 55 3 cSpan v n ((W.take k).filterMap (ffT none none lo up))) W.length [(7, _), (1, _), (2, _), (10, _), (11, _), (12, _)] ⟨rfl, rfl, rfl, rfl, rfl, rfl, trivial⟩ ⟨0, _, 0, Nat.zero_le _, rfl, rfl, K, rfl, OutR.nil _ _ _ _ _ _ _⟩ ?_
  rintro m E hL1 ⟨k, v, n, hk, rfl, rfl, K, hn, hout⟩
  have hout0 := hout
  obtain ⟨xs, F, O, hrow, hF⟩ := hout
  have KL0 := K.1
  have hob := own_ne O; have KL := Keep.refl [] hL1
  refine tr_seq ?_
  refine tr_reg ?_
  refine rs_v (v_lt rfl rfl) rfl ?_
  refine rs_nil ?_
  refine q_thn ?_
  refine tr_seq ?_
  refine tr_ifn rfl (fun hif => ?_) (fun hif => ?_)
  · -- no
    simp only [decide_eq_true_eq, decide_eq_false_iff_not] at hif
    have hkk : k = W.length := by omega
    subst hkk
    refine tr_exit ?_
    refine q_thn_exit ?_
    refine q_lp_exit ?_
    refine q_blk_hit ?_
    refine q_thn ?_
    refine tr_seq ?_
    refine tr_reg ?_
    refine rs_v (v_move rfl) rfl ?_
    refine rs_v (v_assign rfl) rfl ?_
    refine rs_nil ?_
    refine q_thn ?_
    refine tr_ret ?_
    refine q_ret (res_tmp rfl rfl) ?_
    rw [List.take_length] at hout0 hn
    exact ⟨hout0.fin cSpan_st hn (Nat.le_refl _) cSpan_r, K⟩
  -- yes
  simp only [decide_eq_true_eq, decide_eq_false_iff_not] at hif
  rcases hx with rfl | ⟨b, o, rfl, hAb, hR⟩
  · simp at hif; omega
  obtain ⟨x, hsk⟩ := ex_get (L := W) (k := k) (by omega)
  have hkl : k < W.length := (List.getElem?_eq_some_iff.1 hsk).1
  have KL0 := K.1
  obtain ⟨kv, hcc, hkx⟩ := hR k x hsk
  obtain ⟨ka, kc, rfl⟩ := hkx.form2
  have hcells := K.cells (by simp) hcc
  have hnk : n ≤ k := by rw [hn]; exact Nat.le_trans (List.length_filterMap_le _ _) (by rw [List.length_take]; omega)
  refine tr_skip ?_
  refine q_thn ?_
  refine tr_seq ?_
  refine tr_block ?_
  refine tr_seq ?_
  refine tr_reg ?_
  refine rs_v (v_indexAddrN u_sl_spec_Span siz_spec_Span rfl rfl (by omega)) rfl ?_
  refine rs_v (v_loadAgg (vs := [_, _, _]) many_spec_Span rfl (by exact hcells)) rfl ?_
  refine rs_w (w_new zero_spec_Span) rfl ?_
  rintro _ h2 ⟨rfl, B2, K2, Z2⟩
  have O := O.keep2 K2 (fun x hm => by have := hob x hm; simp; try omega)
  have S2 := K.1; have K := K.new0 K2; have KL := KL.new0 K2
  refine rs_w0 (w_put siz_spec_Span rfl rfl rfl rfl B2 rfl) ?_
  rintro _ h3 ⟨B3, K3⟩
  have O := O.keep2 K3 (fun x hm => by have := hob x hm; simp; try omega)
  have B2 := B3; have K := K.new1 K3 (by first | (right; omega) | (left; simp; done)); have Z3 := K3.1; have KL := KL.new1 K3 (.inr (by omega))
  refine rs_nil ?_
  refine q_thn ?_
  refine tr_seq ?_
  refine tr_reg ?_
  refine rs_v (v_fieldAddr fa_spec_Span_0 rfl) rfl ?_
  refine rs_v (v_load one_string rfl (by exact B2.cell _ rfl)) rfl ?_
  refine rs_v (v_move rfl) rfl ?_
  refine rs_v (v_smax rfl rfl) rfl ?_
  refine rs_v (v_fieldAddr fa_spec_Span_1 rfl) rfl ?_
  refine rs_v (v_load one_string rfl (by exact B2.cell _ rfl)) rfl ?_
  refine rs_v (v_move rfl) rfl ?_
  refine rs_v (v_smin rfl rfl) rfl ?_
  refine rs_v (v_fieldAddr fa_spec_Span_0 rfl) rfl ?_
  refine rs_w0 (w_put siz_string rfl rfl rfl rfl B2 rfl) ?_
  rintro _ h4 ⟨B4, K4⟩
  have O := O.keep2 K4 (fun x hm => by have := hob x hm; simp; try omega)
  have B2 := B4; have K := K.new1 K4 (by first | (right; omega) | (left; simp; done)); have Z4 := K4.1; have KL := KL.new1 K4 (.inr (by omega))
  refine rs_v (v_fieldAddr fa_spec_Span_1 rfl) rfl ?_
  refine rs_w0 (w_put siz_string rfl rfl rfl rfl B2 rfl) ?_
  rintro _ h5 ⟨B5, K5⟩
  have O := O.keep2 K5 (fun x hm => by have := hob x hm; simp; try omega)
  have B2 := B5; have K := K.new1 K5 (by first | (right; omega) | (left; simp; done)); have Z5 := K5.1; have KL := KL.new1 K5 (.inr (by omega))
  refine rs_nil ?_
  refine q_thn ?_
  refine tr_seq ?_
  refine tr_reg ?_
  refine rs_v (v_fieldAddr fa_spec_Span_0 rfl) rfl ?_
  refine rs_v (v_load one_string rfl (by exact B2.cell _ rfl)) rfl ?_
  refine rs_v (v_fieldAddr fa_spec_Span_1 rfl) rfl ?_
  refine rs_v (v_load one_string rfl (by exact B2.cell _ rfl)) rfl ?_
  refine rs_v (v_slt rfl rfl) rfl ?_
  refine rs_nil ?_
  refine q_thn ?_
  refine tr_if rfl (fun hif => ?_) (fun hif => ?_)
  · -- yes
    skip
    refine tr_reg ?_
    refine rs_v (v_move rfl) rfl ?_
    refine rs_v (v_loadAgg (vs := [_, _, _]) many_spec_Span rfl (by exact B2.sub _ 3 rfl)) rfl ?_
    refine rs_w (w_new1 u_sl_spec_Span siz_spec_Span zero_spec_Span rfl rfl rfl rfl rfl) rfl ?_
    rintro _ h6 ⟨rfl, B6, K6, Z6⟩
    have B2 := K6.blk (by simp) B2
    have O := O.keep2 K6 (fun x hm => by have := hob x hm; simp; try omega)
    have S6 := K.1; have K := K.new0 K6; have KL := KL.new0 K6
    refine rs_w (w_app1 u_sl_spec_Span info_spec_Span rfl rfl rfl O rfl rfl B6 rfl (by omega) (by omega) (by omega)) rfl ?_
    have K70 := K
    have KL70 := KL
    rintro v7 h7 ⟨O7, K7, N7, F7⟩
    have K := K.newX K7 (fun x hm => .inr (by have := hob x hm; omega)); have Z7 := K7.1
    have B2 := K7.blk (fun hm => by have := hob _ hm; omega) B2
    have B6 := K7.blk (fun hm => by have := hob _ hm; omega) B6
    refine rs_v (v_assign rfl) rfl ?_
    refine rs_nil ?_
    refine q_blk_n ?_
    refine q_thn ?_
    refine tr_reg ?_
    refine rs_v (v_add rfl rfl (by omega) (by omega)) rfl ?_
    refine rs_v (v_move rfl) rfl ?_
    refine rs_nil ?_
    rw [cutUp_sle] at hif O7
    have hff : ffT none none lo up x = some ⟨cutLo lo x, cutUp up x, x.ks⟩ := by rw [ffT_plain]; exact if_pos hif
    refine q_lp (W.length - (k + 1)) [(7, _), (1, _), (2, _), (10, _), (11, _), (12, _)] (by omega) ⟨rfl, rfl, rfl, rfl, rfl, rfl, trivial⟩ ⟨k + 1, v7, n + 1, by omega, rfl, rfl, K, ?_, ?_⟩
    · rw [take_snoc' hsk, fm_snoc1, hff, List.length_append, ← hn]; rfl
    · rw [take_snoc' hsk, fm_snoc1, hff]
      exact OutR.snoc cSpan_st hA (by omega) hob hrow hF KL0 KL70 O7 K7 F7 rfl ⟨_, rfl, (hkx.stab (K70.st hA)).mono Up.old⟩
  -- no
  skip
  refine tr_skip ?_
  refine q_blk_n ?_
  refine q_thn ?_
  refine tr_reg ?_
  refine rs_v (v_add rfl rfl (by omega) (by omega)) rfl ?_
  refine rs_v (v_move rfl) rfl ?_
  refine rs_nil ?_
  rw [cutUp_sle] at hif
  have hff : ffT none none lo up x = none := by rw [ffT_plain]; exact if_neg (by rw [show cutLo lo x = (if slt x.s lo then lo else x.s) from rfl, hif]; decide)
  refine q_lp (W.length - (k + 1)) [(7, _), (1, _), (2, _), (10, _), (11, _), (12, _)] (by omega) ⟨rfl, rfl, rfl, rfl, rfl, rfl, trivial⟩ ⟨k + 1, v, n, by omega, rfl, rfl, K, ?_, ?_⟩
  · rw [take_snoc' hsk, fm_snoc1, hff, Option.toList_none, List.append_nil]; exact hn
  · rw [take_snoc' hsk, fm_snoc1, hff, Option.toList_none, List.append_nil]
    exact hout0.keep cSpan_st KL
theorem c_SpanWithin (χ : Chi) (h : Heap) (A : Nat → Prop) (hA : Low A h) (v : Value) (W : List SpanD) (st en : EntD) (hW : RSpans A h v W) (hn : W.length ≤ 100000) :
    Cl Try.prog χ 40 #[v, st.v, en.v] h (fun r h' => RSpans (Up A h h') h' r (W.filterMap (ffW st.user en.user)) ∧ Keep [] h h') := by
  obtain ⟨hlen, a, c, rfl, hx⟩ := hW.form
  unfold EntD.v
  refine cl_intro Try.func40 rfl rfl rfl ?_
  have K : Keep [] h h := Keep.refl _ _
  refine tr_seq ?_
  refine tr_reg ?_
  refine rs_w (w_newbox rfl) rfl ?_
  rintro _ h1 ⟨rfl, B1, K1, Z1⟩
  have S1 := K.1; have K := K.new0 K1
  refine rs_w (w_newbox rfl) rfl ?_
  rintro _ h2 ⟨rfl, B2, K2, Z2⟩
  have B1 := K2.blk (by simp) B1
  have S2 := K.1; have K := K.new0 K2
  refine rs_v (v_assign rfl) rfl ?_
  refine rs_nil ?_
  refine q_thn ?_
  refine tr_seq ?_
  refine tr_reg ?_
  refine rs_v (v_assign rfl) rfl ?_
  refine rs_nil ?_
  refine q_thn ?_
  refine tr_seq ?_
  refine tr_seq ?_
  refine tr_reg ?_
  refine rs_v (v_move rfl) rfl ?_
  refine rs_v (v_len u_sl_spec_Span rfl) rfl ?_
  refine rs_v (v_move rfl) rfl ?_
  refine rs_nil ?_
  refine q_thn ?_
  refine tr_block ?_
  refine tr_loop (fun m E h' => ∃ k v n, k ≤ W.length ∧ m = W.length - k ∧ E = [(7, v), (4, .pointer (some ⟨h.size, 0, none⟩)), (5, .pointer (some ⟨h1.size, 0, none⟩)), (10, .slice a W.length c), (11, .int .i64 (W.length : Int)), (12, .int .i64 (k : Int))] ∧ Keep [] h h' ∧ n = ((W.take k).filterMap (ffW st.user en.user)).length ∧ OutR A h h' h2.size 55 3 cSpan v n ((W.take k).filterMap (ffW st.user en.user)) ∧ Blk h' h.size [.string st.user, .int .u64 st.tr, .string st.val] 81 ∧ Blk h' h1.size [.string en.user, .int .u64 en.tr, .string en.val] 81 ∧ h2.size ≤ h'.size) W.length [(7, _), (4, _), (5, _), (10, _), (11, _), (12, _)] ⟨rfl, rfl, rfl, rfl, rfl, rfl, trivial⟩ ⟨0, _, 0, Nat.zero_le _, rfl, rfl, K, rfl, OutR.nil _ _ _ _ _ _ _, B1, B2, Nat.le_refl _⟩ ?_
  rintro m E hL3 ⟨k, v, n, hk, rfl, rfl, K, hn, hout, B1, B2, hz2⟩
  have hout0 := hout
  obtain ⟨xs, F, O, hrow, hF⟩ := hout
  have KL0 := K.1
  have hl1 := B1.lt
  have hl2 := B2.lt
  have hob := own_ne O; have KL := Keep.refl [] hL3
  refine tr_seq ?_
  refine tr_reg ?_
  refine rs_v (v_lt rfl rfl) rfl ?_
  refine rs_nil ?_
  refine q_thn ?_
  refine tr_seq ?_
  refine tr_ifn rfl (fun hif => ?_) (fun hif => ?_)
  · -- no
    simp only [decide_eq_true_eq, decide_eq_false_iff_not] at hif
    have hkk : k = W.length := by omega
    subst hkk
    refine tr_exit ?_
    refine q_thn_exit ?_
    refine q_lp_exit ?_
    refine q_blk_hit ?_
    refine q_thn ?_
    refine tr_seq ?_
    refine tr_reg ?_
    refine rs_v (v_move rfl) rfl ?_
    refine rs_v (v_assign rfl) rfl ?_
    refine rs_nil ?_
    refine q_thn ?_
    refine tr_ret ?_
    refine q_ret (res_tmp rfl rfl) ?_
    rw [List.take_length] at hout0 hn
    exact ⟨hout0.fin cSpan_st hn (by omega) cSpan_r, K⟩
  -- yes
  simp only [decide_eq_true_eq, decide_eq_false_iff_not] at hif
  rcases hx with rfl | ⟨b, o, rfl, hAb, hR⟩
  · simp at hif; omega
  obtain ⟨x, hsk⟩ := ex_get (L := W) (k := k) (by omega)
  have hkl : k < W.length := (List.getElem?_eq_some_iff.1 hsk).1
  have KL0 := K.1
  obtain ⟨kv, hcc, hkx⟩ := hR k x hsk
  obtain ⟨ka, kc, rfl⟩ := hkx.form2
  have hcells := K.cells (by simp) hcc
  have hnk : n ≤ k := by rw [hn]; exact Nat.le_trans (List.length_filterMap_le _ _) (by rw [List.length_take]; omega)
  refine tr_skip ?_
  refine q_thn ?_
  refine tr_seq ?_
  refine tr_block ?_
  refine tr_seq ?_
  refine tr_reg ?_
  refine rs_v (v_indexAddrN u_sl_spec_Span siz_spec_Span rfl rfl (by omega)) rfl ?_
  refine rs_v (v_loadAgg (vs := [_, _, _]) many_spec_Span rfl (by exact hcells)) rfl ?_
  refine rs_w (w_new zero_spec_Span) rfl ?_
  rintro _ h4 ⟨rfl, B4, K4, Z4⟩
  have B1 := K4.blk (by simp) B1
  have B2 := K4.blk (by simp) B2
  have O := O.keep2 K4 (fun x hm => by have := hob x hm; simp; try omega)
  have S4 := K.1; have K := K.new0 K4; have KL := KL.new0 K4
  refine rs_w0 (w_put siz_spec_Span rfl rfl rfl rfl B4 rfl) ?_
  rintro _ h5 ⟨B5, K5⟩
  have B1 := K5.blk (by simp; omega) B1
  have B2 := K5.blk (by simp; omega) B2
  have O := O.keep2 K5 (fun x hm => by have := hob x hm; simp; try omega)
  have B4 := B5; have K := K.new1 K5 (by first | (right; omega) | (left; simp; done)); have Z5 := K5.1; have KL := KL.new1 K5 (.inr (by omega))
  refine rs_nil ?_
  refine q_thn ?_
  refine tr_seq ?_
  refine tr_cut (fun E h' => h5 = h' ∧ E = [(7, v), (4, .pointer (some ⟨h.size, 0, none⟩)), (5, .pointer (some ⟨h1.size, 0, none⟩)), (10, .slice (some ⟨b, o, none⟩) W.length c), (11, .int .i64 (W.length : Int)), (12, .int .i64 (k : Int)), (9, .pointer (some ⟨hL3.size, 0, none⟩)), (27, .bool ((sle x.e st.user) || (!(sle x.s en.user))))]) ?_ ?_
  ·
    rcases bsplit2 (sle x.e st.user) with g1 | g1
    · skip
      refine tr_reg ?_
      refine rs_v (v_fieldAddr fa_spec_Span_1 rfl) rfl ?_
      refine rs_v (v_load one_string rfl (by exact B4.cell _ rfl)) rfl ?_
      refine rs_v (v_fieldAddr fa_spec_Entry_0 rfl) rfl ?_
      refine rs_v (v_load one_string rfl (by exact B1.cell _ rfl)) rfl ?_
      refine rs_v (v_sle rfl rfl) rfl ?_
      refine rs_v (v_move rfl) rfl ?_
      refine rs_gs rfl (lkb g1) rfl rfl ?_
      refine rs_gs rfl (lkb g1) rfl rfl ?_
      refine rs_gs rfl (lkb g1) rfl rfl ?_
      refine rs_gs rfl (lkb g1) rfl rfl ?_
      refine rs_gs rfl (lkb g1) rfl rfl ?_
      refine rs_v (v_pick_t (lkb g1) rfl) rfl ?_
      refine rs_nil ?_
      exact q_cut [(7, _), (4, _), (5, _), (10, _), (11, _), (12, _), (9, _), (27, _)] ⟨rfl, rfl, rfl, rfl, rfl, rfl, rfl, rfl, trivial⟩ ⟨rfl, by rw [show ((sle x.e st.user) || (!(sle x.s en.user))) = (true) from by simp only [g1, Bool.true_or, Bool.false_or]]⟩
    · skip
      refine tr_reg ?_
      refine rs_v (v_fieldAddr fa_spec_Span_1 rfl) rfl ?_
      refine rs_v (v_load one_string rfl (by exact B4.cell _ rfl)) rfl ?_
      refine rs_v (v_fieldAddr fa_spec_Entry_0 rfl) rfl ?_
      refine rs_v (v_load one_string rfl (by exact B1.cell _ rfl)) rfl ?_
      refine rs_v (v_sle rfl rfl) rfl ?_
      refine rs_v (v_move rfl) rfl ?_
      refine rs_gv rfl (lkb g1) (v_fieldAddr fa_spec_Span_0 rfl) rfl ?_
      refine rs_gv rfl (lkb g1) (v_load one_string rfl (by exact B4.cell _ rfl)) rfl ?_
      refine rs_gv rfl (lkb g1) (v_fieldAddr fa_spec_Entry_0 rfl) rfl ?_
      refine rs_gv rfl (lkb g1) (v_load one_string rfl (by exact B2.cell _ rfl)) rfl ?_
      refine rs_gv rfl (lkb g1) (v_sgt rfl rfl) rfl ?_
      refine rs_v (v_pick_f (lkb g1) rfl) rfl ?_
      refine rs_nil ?_
      exact q_cut [(7, _), (4, _), (5, _), (10, _), (11, _), (12, _), (9, _), (27, _)] ⟨rfl, rfl, rfl, rfl, rfl, rfl, rfl, rfl, trivial⟩ ⟨rfl, by rw [show ((sle x.e st.user) || (!(sle x.s en.user))) = (!(sle x.s en.user)) from by simp only [g1, Bool.true_or, Bool.false_or]]⟩
  rintro E h99 ⟨hh, rfl⟩
  subst hh
  refine tr_if rfl (fun hif => ?_) (fun hif => ?_)
  · -- yes
    skip
    refine tr_exit ?_
    refine q_thn_exit ?_
    refine q_blk_hit ?_
    refine q_thn ?_
    refine tr_reg ?_
    refine rs_v (v_add rfl rfl (by omega) (by omega)) rfl ?_
    refine rs_v (v_move rfl) rfl ?_
    refine rs_nil ?_
    rw [nsle] at hif
    have hff : ffW st.user en.user x = none := by simp only [ffW, hif, if_true]
    refine q_lp (W.length - (k + 1)) [(7, _), (4, _), (5, _), (10, _), (11, _), (12, _)] (by omega) ⟨rfl, rfl, rfl, rfl, rfl, rfl, trivial⟩ ⟨k + 1, v, n, by omega, rfl, rfl, K, ?_, ?_, B1, B2, by omega⟩
    · rw [take_snoc' hsk, fm_snoc1, hff, Option.toList_none, List.append_nil]; exact hn
    · rw [take_snoc' hsk, fm_snoc1, hff, Option.toList_none, List.append_nil]
      exact hout0.keep cSpan_st KL
  -- no
  skip
  refine tr_skip ?_
  refine q_thn ?_
  refine tr_reg ?_
  refine rs_v (v_move rfl) rfl ?_
  refine rs_v (v_loadAgg (vs := [_, _, _]) many_spec_Span rfl (by exact B4.sub _ 3 rfl)) rfl ?_
  refine rs_w (w_new1 u_sl_spec_Span siz_spec_Span zero_spec_Span rfl rfl rfl rfl rfl) rfl ?_
  rintro _ h7 ⟨rfl, B7, K7, Z7⟩
  have B1 := K7.blk (by simp) B1
  have B2 := K7.blk (by simp) B2
  have B4 := K7.blk (by simp) B4
  have O := O.keep2 K7 (fun x hm => by have := hob x hm; simp; try omega)
  have S7 := K.1; have K := K.new0 K7; have KL := KL.new0 K7
  refine rs_w (w_app1 u_sl_spec_Span info_spec_Span rfl rfl rfl O rfl rfl B7 rfl (by omega) (by omega) (by omega)) rfl ?_
  have K70 := K
  have KL70 := KL
  rintro v8 h8 ⟨O8, K8, N8, F8⟩
  have K := K.newX K8 (fun x hm => .inr (by have := hob x hm; omega)); have Z8 := K8.1
  have B1 := K8.blk (fun hm => by have := hob _ hm; omega) B1
  have B2 := K8.blk (fun hm => by have := hob _ hm; omega) B2
  have B4 := K8.blk (fun hm => by have := hob _ hm; omega) B4
  have B7 := K8.blk (fun hm => by have := hob _ hm; omega) B7
  refine rs_v (v_assign rfl) rfl ?_
  refine rs_nil ?_
  refine q_blk_n ?_
  refine q_thn ?_
  refine tr_reg ?_
  refine rs_v (v_add rfl rfl (by omega) (by omega)) rfl ?_
  refine rs_v (v_move rfl) rfl ?_
  refine rs_nil ?_
  rw [nsle] at hif
  have hff : ffW st.user en.user x = some x := by simp [ffW, hif]
  refine q_lp (W.length - (k + 1)) [(7, _), (4, _), (5, _), (10, _), (11, _), (12, _)] (by omega) ⟨rfl, rfl, rfl, rfl, rfl, rfl, trivial⟩ ⟨k + 1, v8, n + 1, by omega, rfl, rfl, K, ?_, ?_, B1, B2, by omega⟩
  · rw [take_snoc' hsk, fm_snoc1, hff, List.length_append, ← hn]; rfl
  · rw [take_snoc' hsk, fm_snoc1, hff]
    exact OutR.snoc cSpan_st hA (by omega) hob hrow hF KL0 KL70 O8 K8 F8 rfl ⟨_, rfl, (hkx.stab (K70.st hA)).mono Up.old⟩
end Go.Proofs.Ytgebfbnndgjkiaa

/- Thirty-fourth part: Truncate, and impl.SpanTruncated. Conditions: those that each theorem names. -/
namespace Go.Proofs.Ytgebfbnndgjkiaa
open Go.Tess Go.RowKit
set_option maxRecDepth 100000
set_option maxHeartbeats 1000000
theorem cutLo_ge (lo : ByteArray) (s : SpanD) : sle s.s (cutLo lo s) = true := by
  unfold cutLo
  split
  · rename_i h; exact slt_sle h
  · exact sle_refl _
theorem cutUp_le (up : ByteArray) (s : SpanD) : sle (cutUp up s) s.e = true := by
  unfold cutUp
  split
  · rename_i h; exact slt_sle h
  · exact sle_refl _
theorem ffT_some {st en : Option ByteArray} {lo up : ByteArray} {s s' : SpanD} (h : ffT st en lo up s = some s') : slt (cutLo lo s) (cutUp up s) = true ∧ s' = ⟨cutLo lo s, cutUp up s, s.ks⟩ := by
  unfold ffT at h
  split at h
  · cases h
  split at h
  · cases h
  split at h
  · rename_i hlt; cases h; exact ⟨hlt, rfl⟩
  · cases h
theorem ffT_shrink (st en : Option ByteArray) (lo up : ByteArray) (W : List SpanD) : Shrink (ffT st en lo up) W := fun s s' _ hf => by
  obtain ⟨h1, rfl⟩ := ffT_some hf
  exact ⟨cutLo_ge lo s, h1, cutUp_le up s⟩
theorem ffT_len {st en : Option ByteArray} {lo up : ByteArray} {W : List SpanD} (hm : ∀ s, s ∈ W → s.ks.length ≤ 100000) : ∀ s, s ∈ W.filterMap (ffT st en lo up) → s.ks.length ≤ 100000 := by
  intro s hs
  obtain ⟨x, hx, hf⟩ := List.mem_filterMap.1 hs
  obtain ⟨_, rfl⟩ := ffT_some hf
  exact hm x hx
def fnTv (bst bcm ben blo bup bpn : Nat) : Value := .func (.func 91) #[] #[.pointer (some ⟨bst, 0, none⟩), .pointer (some ⟨bcm, 0, none⟩), .pointer (some ⟨ben, 0, none⟩), .pointer (some ⟨blo, 0, none⟩), .pointer (some ⟨bup, 0, none⟩), .pointer (some ⟨bpn, 0, none⟩)]
theorem fnT_ok (χ : Chi) (W : List SpanD) (bst bcm ben blo bup bpn : Nat) (st en : Option ByteArray) (lo up : ByteArray) (G : Nat → Prop) (hWn : ∀ s, s ∈ W → s.ks.length ≤ 100000 ∧ s.ks ≠ [] ∧ en ≠ some s.s) :
    FnOK χ W (ffT st en lo up) (fnTv bst bcm ben blo bup bpn) G (EnvT bst bcm ben blo bup bpn st en lo up G) where
  form := ⟨_, [.pointer (some ⟨bst, 0, none⟩), .pointer (some ⟨bcm, 0, none⟩), .pointer (some ⟨ben, 0, none⟩), .pointer (some ⟨blo, 0, none⟩), .pointer (some ⟨bup, 0, none⟩), .pointer (some ⟨bpn, 0, none⟩)], rfl, ok_keyspan_Truncate_c1, fun h Fin s bi oi c x0 x1 x2 sv0 ev0 kv0 kk n0 xs0 hl hin hbi B hcF O hx hE hg hmem =>
    c_fnT χ h Fin hl s bi oi hin hbi c x0 x1 x2 sv0 ev0 kv0 kk B hcF n0 xs0 O bst bcm ben blo bup bpn st en lo up G hE hx hg (hWn s hmem).1 (hWn s hmem).2.1 (hWn s hmem).2.2⟩
  low := fun hE => hE.low
  stab := fun hE hs hz => hE.stab hs hz

theorem c_Truncate (χ : Chi) (h : Heap) (t : TypeId) (v0 : Value) (al au : Option Addr) (nl cl nu cu : Nat) (ps pe : Option Addr) :
    Cl Try.prog χ 70 #[cmpF, .iface t v0, .slice al nl cl, .slice au nu cu, .pointer ps, .pointer pe, .bool false] h
      (fun r h' => ∃ b0 b1 b2 b3 b4 b5 c, h.size ≤ b0 ∧ b0 < b1 ∧ b1 < b2 ∧ b2 < b3 ∧ b3 < b4 ∧ b4 < b5 ∧ b5 < c ∧ r = .iface 183 (.pointer (some ⟨c, 0, none⟩)) ∧
        Blk h' c [.iface t v0, fnTv b3 b0 b4 b1 b2 b5, cmpF, .slice none 0 0, .slice none 0 0, .slice none 0 0, .int .i8 0] 185 ∧
        Blk h' b0 [cmpF] 104 ∧ Blk h' b1 [.slice al nl cl] 123 ∧ Blk h' b2 [.slice au nu cu] 123 ∧ Blk h' b3 [.pointer ps] 171 ∧ Blk h' b4 [.pointer pe] 171 ∧ Blk h' b5 [.bool false] 4 ∧ Keep [] h h') := by
  unfold cmpF
  refine cl_intro Try.func70 rfl rfl rfl ?_
  have K : Keep [] h h := Keep.refl _ _
  refine tr_seq ?_
  refine tr_reg ?_
  refine rs_w (w_newbox rfl) rfl ?_
  rintro _ h1 ⟨rfl, B1, K1, Z1⟩
  have S1 := K.1; have K := K.new0 K1
  refine rs_w (w_newbox rfl) rfl ?_
  rintro _ h2 ⟨rfl, B2, K2, Z2⟩
  have B1 := K2.blk (by simp) B1
  have S2 := K.1; have K := K.new0 K2
  refine rs_w (w_newbox rfl) rfl ?_
  rintro _ h3 ⟨rfl, B3, K3, Z3⟩
  have B1 := K3.blk (by simp) B1
  have B2 := K3.blk (by simp) B2
  have S3 := K.1; have K := K.new0 K3
  refine rs_w (w_newbox rfl) rfl ?_
  rintro _ h4 ⟨rfl, B4, K4, Z4⟩
  have B1 := K4.blk (by simp) B1
  have B2 := K4.blk (by simp) B2
  have B3 := K4.blk (by simp) B3
  have S4 := K.1; have K := K.new0 K4
  refine rs_w (w_newbox rfl) rfl ?_
  rintro _ h5 ⟨rfl, B5, K5, Z5⟩
  have B1 := K5.blk (by simp) B1
  have B2 := K5.blk (by simp) B2
  have B3 := K5.blk (by simp) B3
  have B4 := K5.blk (by simp) B4
  have S5 := K.1; have K := K.new0 K5
  refine rs_w (w_newbox rfl) rfl ?_
  rintro _ h6 ⟨rfl, B6, K6, Z6⟩
  have B1 := K6.blk (by simp) B1
  have B2 := K6.blk (by simp) B2
  have B3 := K6.blk (by simp) B3
  have B4 := K6.blk (by simp) B4
  have B5 := K6.blk (by simp) B5
  have S6 := K.1; have K := K.new0 K6
  refine rs_v (v_assign rfl) rfl ?_
  refine rs_nil ?_
  refine q_thn ?_
  refine tr_seq ?_
  refine tr_reg ?_
  refine rs_v (v_move rfl) rfl ?_
  refine rs_v (v_makeFunc (vs := [_, _, _, _, _, _]) ⟨rfl, rfl, rfl, rfl, rfl, rfl, trivial⟩) rfl ?_
  refine rs_v (v_load one_base_Compare rfl (by exact B1.cell _ rfl)) rfl ?_
  refine rs_w (w_call (vs := [_, _, _]) ok_keyspan_Filter rfl ⟨rfl, rfl, rfl, trivial⟩ (c_Filter χ _ _ _ _ _)) rfl ?_
  rintro _ h7 ⟨rfl, Bf, K7⟩
  have B1 := K7.blk (by simp) B1
  have B2 := K7.blk (by simp) B2
  have B3 := K7.blk (by simp) B3
  have B4 := K7.blk (by simp) B4
  have B5 := K7.blk (by simp) B5
  have B6 := K7.blk (by simp) B6
  have K := K.new0 K7; have Z7 := K7.1
  refine rs_v (v_assign rfl) rfl ?_
  refine rs_nil ?_
  refine q_thn ?_
  refine tr_ret ?_
  refine q_ret (res_tmp rfl rfl) ?_
  exact ⟨_, _, _, _, _, _, _, Nat.le_refl _, by omega, by omega, by omega, by omega, by omega, by omega, rfl, Bf, B1, B2, B3, B4, B5, B6, K⟩
theorem c_implSpanTruncated (χ : Chi) (h : Heap) (A : Nat → Prop) (hA : Low A h) (v sv : Value) (W : List SpanD) (steps : List StepD) (lo up : ByteArray) (hW : RSpans A h v W) (hn : W.length ≤ 100000) (hm : ∀ s, s ∈ W → SpanD.small s) (hne : ∀ s, s ∈ W → s.ks ≠ []) (hO : Tess.Ord W)
    (hlo : lo.size ≤ 9223372036854775807) (hup : up.size ≤ 9223372036854775807) (hS : RSteps A h sv steps) (hsn : steps.length ≤ 1000) (hz : ∀ s, s ∈ steps → s.key.size ≤ 9223372036854775807) :
    Cl Try.prog χ 37 #[v, .string lo, .string up, sv] h (fun r h' => RAnss (Up N0 h h') h' r (walkP (W.filterMap (ffT none none lo up)) .nowhere steps) ∧ Keep [] h h') := by
  refine cl_intro Try.func37 rfl rfl rfl ?_
  have K : Keep [] h h := Keep.refl _ _
  refine tr_seq ?_
  refine tr_reg ?_
  refine rs_v (v_assign rfl) rfl ?_
  refine rs_nil ?_
  refine q_thn ?_
  refine tr_seq ?_
  refine tr_reg ?_
  refine rs_w (w_call (vs := []) ok_base_DefaultComparer rfl trivial (c_DefaultComparer χ _)) rfl ?_
  rintro _ h1 ⟨rfl, ⟨rest, Bq⟩, K1⟩
  have K := K.new0 K1; have Z1 := K1.1
  refine rs_v (v_nilCheck_ptr rfl) rfl ?_
  refine rs_v (v_fieldAddr fa_base_Comparer_0 rfl) rfl ?_
  refine rs_v (v_load one_base_Compare rfl (by exact Bq.cell _ rfl)) rfl ?_
  refine rs_v (v_assign rfl) rfl ?_
  refine rs_nil ?_
  refine q_thn ?_
  refine tr_seq ?_
  refine tr_reg ?_
  refine rs_v (v_move rfl) rfl ?_
  refine rs_v (v_move rfl) rfl ?_
  refine rs_v (v_move rfl) rfl ?_
  refine rs_w (w_call (vs := [_]) ok_impl_spans rfl ⟨rfl, trivial⟩ (c_spans χ _ A (hA.mono (by omega)) v W (hW.stab (K.st hA)) hn hm)) rfl ?_
  rintro w2 h2 ⟨hPW, K2⟩
  obtain ⟨wa, wc, rfl⟩ := SlR.form2 hPW
  have K := K.new0 K2; have Z2 := K2.1
  refine rs_w (w_call (vs := [_, _]) ok_keyspan_NewIter rfl ⟨rfl, rfl, trivial⟩ (c_NewIter χ _ wa W.length wc)) rfl ?_
  rintro _ h3 ⟨rfl, Bi, K3⟩
  have hPW := hPW.stab (K3.st ((n0low _).up Z2))
  have hi3 := Bi.lt
  have K := K.new0 K3; have Z3 := K3.1
  refine rs_v (v_makeIface u_p_keyspan_Iter rfl) rfl ?_
  refine rs_v (v_move rfl) rfl ?_
  refine rs_w (w_bytes u_string u_sl_uint8 u_uint8 rfl (by omega)) rfl ?_
  rintro _ h4 ⟨cl, rfl, K4, hlv⟩
  have hPW := hPW.stab (K4.st (fun b hb => Nat.lt_of_lt_of_le ((n0low _).up Z2 b hb) Z3))
  have Bi := K4.blk (by simp) Bi
  have K := K.new0 K4; have Z4 := K4.1
  refine rs_v (v_move rfl) rfl ?_
  refine rs_w (w_bytes u_string u_sl_uint8 u_uint8 rfl (by omega)) rfl ?_
  rintro _ h5 ⟨cu, rfl, K5, huv⟩
  have hPW := hPW.stab (K5.st (fun b hb => Nat.lt_of_lt_of_le ((n0low _).up Z2 b hb) (Nat.le_trans Z3 Z4)))
  have Bi := K5.blk (by simp) Bi
  have hlv := hlv.stab (K5.stab fun b hb => ⟨hb.2, by simp⟩)
  have K := K.new0 K5; have Z5 := K5.1
  refine rs_w (w_call (vs := [_, _, _, _, _, _, _]) ok_keyspan_Truncate rfl ⟨rfl, rfl, rfl, rfl, rfl, rfl, rfl, trivial⟩ (c_Truncate χ _ _ _ _ _ _ _ _ _ none none)) rfl ?_
  rintro _ h6 ⟨b0, b1, b2, b3, b4, b5, c, g0, g1, g2, g3, g4, g5, g6, rfl, Bf, B0, B1, B2, B3, B4, B5, K6⟩
  have hPW := hPW.stab (K6.st (fun b hb => Nat.lt_of_lt_of_le ((n0low _).up Z2 b hb) (Nat.le_trans Z3 (Nat.le_trans Z4 Z5))))
  have Bi := K6.blk (by simp) Bi
  have hcl := Bf.lt
  have Z6' := K6.1
  have hEnv : EnvT b3 b0 b4 b1 b2 b5 none none lo up (fun b => h3.size ≤ b ∧ b < c) h6 := ⟨fun b hb => by have := hb.2; omega, ⟨⟨by omega, by omega⟩, ⟨by omega, by omega⟩, ⟨by omega, by omega⟩, ⟨by omega, by omega⟩, ⟨by omega, by omega⟩, ⟨by omega, by omega⟩⟩,
    ⟨_, B3, rfl⟩, B0, ⟨_, B4, rfl⟩, ⟨_, B1, (hlv.stab (K6.stab fun b hb => ⟨by have := hb.2; omega, by simp⟩)).mono (fun b hb => ⟨hb.1, by have := hb.2; omega⟩)⟩, ⟨_, B2, (huv.stab (K6.stab fun b hb => ⟨hb.2, by simp⟩)).mono (fun b hb => ⟨by have := hb.1; omega, by have := hb.2; omega⟩)⟩, B5⟩
  have K := K.new0 K6; have Z6 := K6.1
  refine rs_v (v_move rfl) rfl ?_
  refine rs_w (w_call (vs := [_, _]) ok_impl_walkSpans rfl ⟨rfl, rfl, trivial⟩ (c_walkSpans χ h6 A (hA.mono K.1) (W.filterMap (ffT none none lo up)) _ _ _
    (fi_ok c (itB_ok χ h2.size wa wc W 187 hn hO) (fnT_ok χ W b3 b0 b4 b1 b2 b5 none none lo up (fun b => h3.size ≤ b ∧ b < c) (fun s hs => ⟨(hm s hs).2.2.1, hne s hs, by simp⟩)) (fun s hs => (hm s hs).2.2.1) hO (ffT_shrink _ _ _ _ W))
    (fun b => h.size ≤ b ∧ b < h6.size)
    ⟨.nowhere, (fun b => h1.size ≤ b ∧ b < h3.size), _, _, _, _, _, _, ⟨⟨_, Up N0 h1 h2, Bi, trivial, hPW, (fun b hb => by
        rcases hb with hb | hb
        · exact hb.elim
        · exact ⟨⟨hb.1, by omega⟩, by omega⟩), ⟨by omega, by omega⟩, (fun b hb => by have := hb.2; omega)⟩, Bf, Own.nil _ _ _ _, hEnv, (by simp [Value.ownBlock]), (fun hb => by have := hb.2; omega), (fun hb => by omega), (fun b hb hg => by have := hb.1; have := hb.2; omega),
        (fun b hb => ⟨by have := hb.1; omega, by have := hb.2; omega⟩), ⟨by omega, by omega⟩, (by simp [Value.ownBlock]), (fun b hb => by omega), (fun b hb => hb.2)⟩, trivial⟩
    (fun b hb hf => by have := hA b hb; have := hf.1; omega) sv steps (hS.stab (K.st hA)) hsn hz (ffT_len (fun s hs => (hm s hs).2.2.1)))) rfl ?_
  rintro r9 h7 ⟨hans, KP⟩
  refine rs_v (v_assign rfl) rfl ?_
  refine rs_nil ?_
  refine q_thn ?_
  refine tr_ret ?_
  refine q_ret (res_tmp rfl rfl) ?_
  have h60 := K.1
  exact ⟨hans.mono (n0up h60 (Nat.le_refl _)), keep_of_p K KP (fun b hb => hb.1)⟩
end Go.Proofs.Ytgebfbnndgjkiaa

/- Thirty-fifth part: the law of truncated spans, walked. Conditions: those that each theorem names. -/
namespace Go.Proofs.Ytgebfbnndgjkiaa
open Go.Tess Go.RowKit
set_option maxRecDepth 100000
set_option maxHeartbeats 1000000
theorem ffT_desc {st en : Option ByteArray} {lo up : ByteArray} {W : List SpanD} (hG : Good W) : ∀ s, s ∈ W.filterMap (ffT st en lo up) → descB s.ks = true ∧ few s := by
  intro s hs
  obtain ⟨x, hx, hf⟩ := List.mem_filterMap.1 hs
  obtain ⟨_, rfl⟩ := ffT_some hf
  exact ⟨(hG.full x hx).2.2.1, hG.few x hx⟩
theorem Good.ne {W : List SpanD} (h : Good W) : ∀ s, s ∈ W → s.ks ≠ [] := fun s hs => (h.full s hs).2.1
theorem aa_lt : slt ⟨#[97]⟩ ⟨#[97]⟩ = false := by rw [slt_cmp]; decide
theorem bb_lt : slt ⟨#[98]⟩ ⟨#[98]⟩ = false := by rw [slt_cmp]; decide
theorem someT : someW.filterMap (ffT none none ⟨#[97]⟩ ⟨#[98]⟩) = someW := by
  have h1 : ffT none none ⟨#[97]⟩ ⟨#[98]⟩ ⟨⟨#[97]⟩, ⟨#[98]⟩, [⟨256, ByteArray.empty, ByteArray.empty⟩]⟩ = some ⟨⟨#[97]⟩, ⟨#[98]⟩, [⟨256, ByteArray.empty, ByteArray.empty⟩]⟩ := by
    rw [ffT_plain]
    simp only [cutLo, cutUp, aa_lt, bb_lt, Bool.false_eq_true, if_false, ab_lt, if_true]
  simp only [someW, List.filterMap_cons, h1, List.filterMap_nil]

theorem c_FnSpanTruncated (χ : Chi) (h : Heap) (A : Nat → Prop) (hA : Low A h) (v sv : Value) (W : List SpanD) (steps : List StepD) (lo up : ByteArray) (hW : RSpans A h v W) (hS : RSteps A h sv steps) :
    Cl Try.prog χ 8 #[v, .string lo, .string up, sv] h (fun r h' => r = .bool true ∧ Keep [] h h') := by
  have hW := RSpans.mono hW hA
  have hS := RSteps.mono hS hA
  obtain ⟨a, c, rfl⟩ := SlR.form2 hW
  obtain ⟨a2, c2, rfl⟩ := SlR.form2 hS
  refine cl_intro Try.func8 rfl rfl rfl ?_
  have K : Keep [] h h := Keep.refl _ _
  refine tr_seq ?_
  refine tr_reg ?_
  refine rs_v (v_assign rfl) rfl ?_
  refine rs_nil ?_
  refine q_thn ?_
  refine tr_seq ?_
  refine tr_cut (fun E h' => Keep [] h h' ∧ E = [(0, .slice a W.length c), (1, .string lo), (2, .string up), (3, .slice a2 steps.length c2), (8, .bool false), (26, .bool ((!fit4 W) || (decide ((2147483647 : Int) < (lo.size : Int))) || (decide ((2147483647 : Int) < (up.size : Int))) || (!fit8 steps)))]) ?_ ?_
  ·
    rcases bsplit4 (!fit4 W) (decide ((2147483647 : Int) < (lo.size : Int))) (decide ((2147483647 : Int) < (up.size : Int))) with g1 | ⟨g1, g2⟩ | ⟨g1, g2, g3⟩ | ⟨g1, g2, g3⟩
    · skip
      refine tr_reg ?_
      refine rs_v (v_move rfl) rfl ?_
      refine rs_w (w_call (vs := [_]) ok_laws_zzFits4 rfl ⟨rfl, trivial⟩ (c_zzFits4 χ h (All h) (all_low h) _ W hW)) rfl ?_
      rintro _ h1 ⟨rfl, K1⟩
      have K := K.new0 K1; have Z1 := K1.1
      refine rs_v (v_not rfl) rfl ?_
      refine rs_v (v_move rfl) rfl ?_
      refine rs_gs rfl (lkb g1) rfl rfl ?_
      refine rs_gs rfl (lkb g1) rfl rfl ?_
      refine rs_gs rfl (lkb g1) rfl rfl ?_
      refine rs_v (v_pick_t (lkb g1) rfl) rfl ?_
      refine rs_v (v_move rfl) rfl ?_
      refine rs_gs rfl (rfl) rfl rfl ?_
      refine rs_gs rfl (rfl) rfl rfl ?_
      refine rs_gs rfl (rfl) rfl rfl ?_
      refine rs_v (v_pick_t rfl rfl) rfl ?_
      refine rs_v (v_move rfl) rfl ?_
      refine rs_gs rfl (rfl) rfl rfl ?_
      refine rs_gs rfl (rfl) rfl rfl ?_
      refine rs_gs rfl (rfl) rfl rfl ?_
      refine rs_v (v_pick_t rfl rfl) rfl ?_
      refine rs_nil ?_
      exact q_cut [(0, _), (1, _), (2, _), (3, _), (8, _), (26, _)] ⟨rfl, rfl, rfl, rfl, rfl, rfl, trivial⟩ ⟨K, by rw [show ((!fit4 W) || (decide ((2147483647 : Int) < (lo.size : Int))) || (decide ((2147483647 : Int) < (up.size : Int))) || (!fit8 steps)) = (true) from by simp only [g1, Bool.true_or, Bool.false_or]]⟩
    · skip
      refine tr_reg ?_
      refine rs_v (v_move rfl) rfl ?_
      refine rs_w (w_call (vs := [_]) ok_laws_zzFits4 rfl ⟨rfl, trivial⟩ (c_zzFits4 χ h (All h) (all_low h) _ W hW)) rfl ?_
      rintro _ h2 ⟨rfl, K2⟩
      have K := K.new0 K2; have Z2 := K2.1
      refine rs_v (v_not rfl) rfl ?_
      refine rs_v (v_move rfl) rfl ?_
      refine rs_gv rfl (lkb g1) (v_move rfl) rfl ?_
      refine rs_gv rfl (lkb g1) (v_lenStr u_string rfl) rfl ?_
      refine rs_gv rfl (lkb g1) (v_gt rfl rfl) rfl ?_
      refine rs_v (v_pick_f (lkb g1) rfl) rfl ?_
      refine rs_v (v_move rfl) rfl ?_
      refine rs_gs rfl (lkb g2) rfl rfl ?_
      refine rs_gs rfl (lkb g2) rfl rfl ?_
      refine rs_gs rfl (lkb g2) rfl rfl ?_
      refine rs_v (v_pick_t (lkb g2) rfl) rfl ?_
      refine rs_v (v_move rfl) rfl ?_
      refine rs_gs rfl (rfl) rfl rfl ?_
      refine rs_gs rfl (rfl) rfl rfl ?_
      refine rs_gs rfl (rfl) rfl rfl ?_
      refine rs_v (v_pick_t rfl rfl) rfl ?_
      refine rs_nil ?_
      exact q_cut [(0, _), (1, _), (2, _), (3, _), (8, _), (26, _)] ⟨rfl, rfl, rfl, rfl, rfl, rfl, trivial⟩ ⟨K, by rw [show ((!fit4 W) || (decide ((2147483647 : Int) < (lo.size : Int))) || (decide ((2147483647 : Int) < (up.size : Int))) || (!fit8 steps)) = (true) from by simp only [g1, g2, Bool.true_or, Bool.false_or]]⟩
    · skip
      refine tr_reg ?_
      refine rs_v (v_move rfl) rfl ?_
      refine rs_w (w_call (vs := [_]) ok_laws_zzFits4 rfl ⟨rfl, trivial⟩ (c_zzFits4 χ h (All h) (all_low h) _ W hW)) rfl ?_
      rintro _ h3 ⟨rfl, K3⟩
      have K := K.new0 K3; have Z3 := K3.1
      refine rs_v (v_not rfl) rfl ?_
      refine rs_v (v_move rfl) rfl ?_
      refine rs_gv rfl (lkb g1) (v_move rfl) rfl ?_
      refine rs_gv rfl (lkb g1) (v_lenStr u_string rfl) rfl ?_
      refine rs_gv rfl (lkb g1) (v_gt rfl rfl) rfl ?_
      refine rs_v (v_pick_f (lkb g1) rfl) rfl ?_
      refine rs_v (v_move rfl) rfl ?_
      refine rs_gv rfl (lkb g2) (v_move rfl) rfl ?_
      refine rs_gv rfl (lkb g2) (v_lenStr u_string rfl) rfl ?_
      refine rs_gv rfl (lkb g2) (v_gt rfl rfl) rfl ?_
      refine rs_v (v_pick_f (lkb g2) rfl) rfl ?_
      refine rs_v (v_move rfl) rfl ?_
      refine rs_gs rfl (lkb g3) rfl rfl ?_
      refine rs_gs rfl (lkb g3) rfl rfl ?_
      refine rs_gs rfl (lkb g3) rfl rfl ?_
      refine rs_v (v_pick_t (lkb g3) rfl) rfl ?_
      refine rs_nil ?_
      exact q_cut [(0, _), (1, _), (2, _), (3, _), (8, _), (26, _)] ⟨rfl, rfl, rfl, rfl, rfl, rfl, trivial⟩ ⟨K, by rw [show ((!fit4 W) || (decide ((2147483647 : Int) < (lo.size : Int))) || (decide ((2147483647 : Int) < (up.size : Int))) || (!fit8 steps)) = (true) from by simp only [g1, g2, g3, Bool.true_or, Bool.false_or]]⟩
    · skip
      refine tr_reg ?_
      refine rs_v (v_move rfl) rfl ?_
      refine rs_w (w_call (vs := [_]) ok_laws_zzFits4 rfl ⟨rfl, trivial⟩ (c_zzFits4 χ h (All h) (all_low h) _ W hW)) rfl ?_
      rintro _ h4 ⟨rfl, K4⟩
      have K := K.new0 K4; have Z4 := K4.1
      refine rs_v (v_not rfl) rfl ?_
      refine rs_v (v_move rfl) rfl ?_
      refine rs_gv rfl (lkb g1) (v_move rfl) rfl ?_
      refine rs_gv rfl (lkb g1) (v_lenStr u_string rfl) rfl ?_
      refine rs_gv rfl (lkb g1) (v_gt rfl rfl) rfl ?_
      refine rs_v (v_pick_f (lkb g1) rfl) rfl ?_
      refine rs_v (v_move rfl) rfl ?_
      refine rs_gv rfl (lkb g2) (v_move rfl) rfl ?_
      refine rs_gv rfl (lkb g2) (v_lenStr u_string rfl) rfl ?_
      refine rs_gv rfl (lkb g2) (v_gt rfl rfl) rfl ?_
      refine rs_v (v_pick_f (lkb g2) rfl) rfl ?_
      refine rs_v (v_move rfl) rfl ?_
      refine rs_gv rfl (lkb g3) (v_move rfl) rfl ?_
      refine rs_gw rfl (lkb g3) (w_call (vs := [_]) ok_laws_zzFits8 rfl ⟨rfl, trivial⟩ (c_zzFits8 χ _ _ _ steps (RSteps.kk hS K))) rfl ?_
      rintro _ h5 ⟨rfl, K5⟩
      have K := K.new0 K5; have Z5 := K5.1
      refine rs_gv rfl (lkb g3) (v_not rfl) rfl ?_
      refine rs_v (v_pick_f (lkb g3) rfl) rfl ?_
      refine rs_nil ?_
      exact q_cut [(0, _), (1, _), (2, _), (3, _), (8, _), (26, _)] ⟨rfl, rfl, rfl, rfl, rfl, rfl, trivial⟩ ⟨K, by rw [show ((!fit4 W) || (decide ((2147483647 : Int) < (lo.size : Int))) || (decide ((2147483647 : Int) < (up.size : Int))) || (!fit8 steps)) = (!fit8 steps) from by simp only [g1, g2, g3, Bool.true_or, Bool.false_or]]⟩
  rintro E h99 ⟨K, rfl⟩
  refine tr_if rfl (fun hif => ?_) (fun hif => ?_)
  · -- yes
    skip
    refine tr_seq ?_
    refine tr_reg ?_
    refine rs_v (v_assign rfl) rfl ?_
    refine rs_nil ?_
    refine q_thn ?_
    refine tr_ret ?_
    refine q_thn_ret ?_
    refine q_ret (res_tmp rfl rfl) ?_
    exact ⟨rfl, K⟩
  -- no
  simp only [Bool.or_eq_false_iff, Bool.not_eq_false', decide_eq_false_iff_not] at hif
  obtain ⟨⟨⟨hf4, hlo⟩, hup⟩, hf8⟩ := hif
  refine tr_skip ?_
  refine q_thn ?_
  refine tr_seq ?_
  refine tr_cut (fun E h' => Keep [] h h' ∧ E = [(0, .slice a W.length c), (1, .string lo), (2, .string up), (3, .slice a2 steps.length c2), (8, .bool false), (34, .bool ((!(mostB W 40 && wellB W)) || (decide ((60 : Int) < (steps.length : Int)))))]) ?_ ?_
  ·
    rcases bsplit2 (!(mostB W 40 && wellB W)) with g1 | g1
    · skip
      refine tr_reg ?_
      refine rs_v (v_move rfl) rfl ?_
      refine rs_w (w_call (vs := [_, _]) ok_laws_spanWell rfl ⟨rfl, rfl, trivial⟩ (c_spanWell χ _ _ (all_low _) _ W 40 (RSpans.kk hW K))) rfl ?_
      rintro _ h7 ⟨rfl, K7⟩
      have K := K.new0 K7; have Z7 := K7.1
      refine rs_v (v_not rfl) rfl ?_
      refine rs_v (v_move rfl) rfl ?_
      refine rs_gs rfl (lkb g1) rfl rfl ?_
      refine rs_gs rfl (lkb g1) rfl rfl ?_
      refine rs_gs rfl (lkb g1) rfl rfl ?_
      refine rs_v (v_pick_t (lkb g1) rfl) rfl ?_
      refine rs_nil ?_
      exact q_cut [(0, _), (1, _), (2, _), (3, _), (8, _), (34, _)] ⟨rfl, rfl, rfl, rfl, rfl, rfl, trivial⟩ ⟨K, by rw [show ((!(mostB W 40 && wellB W)) || (decide ((60 : Int) < (steps.length : Int)))) = (true) from by simp only [g1, Bool.true_or, Bool.false_or]]⟩
    · skip
      refine tr_reg ?_
      refine rs_v (v_move rfl) rfl ?_
      refine rs_w (w_call (vs := [_, _]) ok_laws_spanWell rfl ⟨rfl, rfl, trivial⟩ (c_spanWell χ _ _ (all_low _) _ W 40 (RSpans.kk hW K))) rfl ?_
      rintro _ h8 ⟨rfl, K8⟩
      have K := K.new0 K8; have Z8 := K8.1
      refine rs_v (v_not rfl) rfl ?_
      refine rs_v (v_move rfl) rfl ?_
      refine rs_gv rfl (lkb g1) (v_move rfl) rfl ?_
      refine rs_gv rfl (lkb g1) (v_len u_sl_spec_Step rfl) rfl ?_
      refine rs_gv rfl (lkb g1) (v_gt rfl rfl) rfl ?_
      refine rs_v (v_pick_f (lkb g1) rfl) rfl ?_
      refine rs_nil ?_
      exact q_cut [(0, _), (1, _), (2, _), (3, _), (8, _), (34, _)] ⟨rfl, rfl, rfl, rfl, rfl, rfl, trivial⟩ ⟨K, by rw [show ((!(mostB W 40 && wellB W)) || (decide ((60 : Int) < (steps.length : Int)))) = (decide ((60 : Int) < (steps.length : Int))) from by simp only [g1, Bool.true_or, Bool.false_or]]⟩
  rintro E h99 ⟨K, rfl⟩
  refine tr_if rfl (fun hif => ?_) (fun hif => ?_)
  · -- yes
    skip
    refine tr_seq ?_
    refine tr_reg ?_
    refine rs_v (v_assign rfl) rfl ?_
    refine rs_nil ?_
    refine q_thn ?_
    refine tr_ret ?_
    refine q_thn_ret ?_
    refine q_ret (res_tmp rfl rfl) ?_
    exact ⟨rfl, K⟩
  -- no
  simp only [Bool.or_eq_false_iff, Bool.not_eq_false', decide_eq_false_iff_not] at hif
  obtain ⟨hw, hl6⟩ := hif
  obtain ⟨hG, _⟩ := good_of (by decide) hf4 hw
  have hk8 := fit8_small hf8
  refine tr_skip ?_
  refine q_thn ?_
  refine tr_seq ?_
  refine tr_reg ?_
  refine rs_v (v_move rfl) rfl ?_
  refine rs_w (w_call (vs := [_]) ok_laws_toSpans rfl ⟨rfl, trivial⟩ (c_toSpans χ _ _ (all_low _) _ W (RSpans.kk hW K) hG.n hG.few)) rfl ?_
  rintro hPv h10 ⟨hP, K10⟩
  have hP := RSpans.mono hP (upA K10)
  obtain ⟨hPa, hPc, rfl⟩ := SlR.form2 hP
  have K := K.new0 K10; have Z10 := K10.1
  refine rs_v (v_move rfl) rfl ?_
  refine rs_v (v_move rfl) rfl ?_
  refine rs_v (v_move rfl) rfl ?_
  refine rs_w (w_call (vs := [_]) ok_laws_toSteps rfl ⟨rfl, trivial⟩ (c_toSteps χ _ _ (all_low _) _ steps (RSteps.kk hS K) (by omega))) rfl ?_
  rintro hQv h11 ⟨hQ, K11⟩
  have hQ := RSteps.mono hQ (upA K11)
  obtain ⟨hQa, hQc, rfl⟩ := SlR.form2 hQ
  have hP := RSpans.kk hP K11
  have K := K.new0 K11; have Z11 := K11.1
  refine rs_w (w_call (vs := [_, _, _, _]) ok_impl_SpanTruncated rfl ⟨rfl, rfl, rfl, rfl, trivial⟩ (c_implSpanTruncated χ _ _ (all_low _) _ _ W steps lo up hP hG.n hG.small hG.ne hG.ord (by omega) (by omega) hQ (by omega) hk8)) rfl ?_
  rintro hgotv h12 ⟨hgot, K12⟩
  have hgot := RAnss.mono hgot (upN K12)
  obtain ⟨hgota, hgotc, rfl⟩ := SlR.form2 hgot
  have hP := RSpans.kk hP K12
  have hQ := RSteps.kk hQ K12
  have K := K.new0 K12; have Z12 := K12.1
  refine rs_v (v_move rfl) rfl ?_
  refine rs_v (v_move rfl) rfl ?_
  refine rs_v (v_move rfl) rfl ?_
  refine rs_w (w_call (vs := [_, _, _]) ok_spec_SpanTruncated rfl ⟨rfl, rfl, rfl, trivial⟩ (c_SpanTruncated χ _ _ (all_low _) _ W lo up (RSpans.kk hW K) hG.n)) rfl ?_
  rintro hFv h13 ⟨hF, K13⟩
  have hF := RSpans.mono hF (upA K13)
  obtain ⟨hFa, hFc, rfl⟩ := SlR.form2 hF
  have hP := RSpans.kk hP K13
  have hQ := RSteps.kk hQ K13
  have hgot := RAnss.kk hgot K13
  have K := K.new0 K13; have Z13 := K13.1
  refine rs_v (v_move rfl) rfl ?_
  refine rs_w (w_call (vs := [_, _]) ok_spec_SpanWalk rfl ⟨rfl, rfl, trivial⟩ (c_SpanWalk χ _ _ (all_low _) _ _ _ steps hF (RSteps.kk hS K) (by omega))) rfl ?_
  rintro hwantv h14 ⟨hwant, K14⟩
  have hwant := RAnss.mono hwant (upA K14)
  obtain ⟨hwanta, hwantc, rfl⟩ := SlR.form2 hwant
  have hP := RSpans.kk hP K14
  have hQ := RSteps.kk hQ K14
  have hgot := RAnss.kk hgot K14
  have hF := RSpans.kk hF K14
  have K := K.new0 K14; have Z14 := K14.1
  refine rs_w (w_call (vs := [_, _]) ok_laws_spanAnswers rfl ⟨rfl, rfl, trivial⟩ (c_spanAnswers χ _ _ _ (all_low _) (all_low _) _ _ _ _ hgot hwant (ansLike_walk (ffT_desc hG) _ _))) rfl ?_
  rintro _ h15 ⟨rfl, K15⟩
  have hP := RSpans.kk hP K15
  have hQ := RSteps.kk hQ K15
  have hgot := RAnss.kk hgot K15
  have hF := RSpans.kk hF K15
  have hwant := RAnss.kk hwant K15
  have K := K.new0 K15; have Z15 := K15.1
  refine rs_v (v_move rfl) rfl ?_
  refine rs_gw rfl (rfl) (w_call (vs := []) ok_laws_spanSome rfl trivial (c_spanSome χ _)) rfl ?_
  rintro hP2v h16 ⟨hP2, K16⟩
  have hP2 := RSpans.mono hP2 (upN K16)
  obtain ⟨hP2a, hP2c, rfl⟩ := SlR.form2 hP2
  have hP := RSpans.kk hP K16
  have hQ := RSteps.kk hQ K16
  have hgot := RAnss.kk hgot K16
  have hF := RSpans.kk hF K16
  have hwant := RAnss.kk hwant K16
  have K := K.new0 K16; have Z16 := K16.1
  refine rs_gw rfl (rfl) (w_call (vs := []) ok_laws_spanStart rfl trivial (c_spanStart χ _)) rfl ?_
  rintro hQ2v h17 ⟨hQ2, K17⟩
  have hQ2 := RSteps.mono hQ2 (upN K17)
  obtain ⟨hQ2a, hQ2c, rfl⟩ := SlR.form2 hQ2
  have hP := RSpans.kk hP K17
  have hQ := RSteps.kk hQ K17
  have hgot := RAnss.kk hgot K17
  have hF := RSpans.kk hF K17
  have hwant := RAnss.kk hwant K17
  have hP2 := RSpans.kk hP2 K17
  have K := K.new0 K17; have Z17 := K17.1
  refine rs_gw rfl (rfl) (w_call (vs := [_, _, _, _]) ok_impl_SpanTruncated rfl ⟨rfl, rfl, rfl, rfl, trivial⟩ (c_implSpanTruncated χ _ _ (all_low _) _ _ someW startS ⟨#[97]⟩ ⟨#[98]⟩ hP2 some_good.n some_good.small some_good.ne some_good.ord (by decide) (by decide) hQ2 (by decide) start_small)) rfl ?_
  rintro hg2v h18 ⟨hg2, K18⟩
  rw [someT] at hg2
  have hg2 := RAnss.mono hg2 (upN K18)
  obtain ⟨hg2a, hg2c, rfl⟩ := SlR.form2 hg2
  have hP := RSpans.kk hP K18
  have hQ := RSteps.kk hQ K18
  have hgot := RAnss.kk hgot K18
  have hF := RSpans.kk hF K18
  have hwant := RAnss.kk hwant K18
  have hP2 := RSpans.kk hP2 K18
  have hQ2 := RSteps.kk hQ2 K18
  have K := K.new0 K18; have Z18 := K18.1
  refine rs_gw rfl (rfl) (w_call (vs := [_]) ok_laws_spanFound rfl ⟨rfl, trivial⟩ (c_spanFound χ _ _ _ ⟨true, true, ⟨⟨#[97]⟩, ⟨#[98]⟩, [⟨256, ByteArray.empty, ByteArray.empty⟩]⟩⟩ hg2)) rfl ?_
  rintro _ h19 ⟨rfl, K19⟩
  have hP := RSpans.kk hP K19
  have hQ := RSteps.kk hQ K19
  have hgot := RAnss.kk hgot K19
  have hF := RSpans.kk hF K19
  have hwant := RAnss.kk hwant K19
  have hP2 := RSpans.kk hP2 K19
  have hQ2 := RSteps.kk hQ2 K19
  have hg2 := RAnss.kk hg2 K19
  have K := K.new0 K19; have Z19 := K19.1
  refine rs_v (v_pick_t rfl rfl) rfl ?_
  refine rs_v (v_assign rfl) rfl ?_
  refine rs_nil ?_
  refine q_thn ?_
  refine tr_ret ?_
  refine q_ret (res_tmp rfl rfl) ?_
  exact ⟨rfl, K⟩
end Go.Proofs.Ytgebfbnndgjkiaa
