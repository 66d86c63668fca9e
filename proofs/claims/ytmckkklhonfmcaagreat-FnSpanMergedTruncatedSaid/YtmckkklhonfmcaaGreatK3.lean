/- Texts W27 to W79, as far as the statement reaches them, laid together by a program of ours. Conditions: those that each theorem names. -/
import Derived.Test.YtmckkklhonfmcaaGreatK2
import Derived.Test.YtmckkklhonfmcaaGreatRows
import Derived.ProofKit
import Derived.Deep.Slices
import Derived.Sort.AssemblyPlain
import Derived.Sort.LotD5
import Derived.Laws.Bits64b
import Derived.Lib.BitFns
set_option linter.unusedVariables false
set_option linter.unusedSimpArgs false
set_option linter.unusedSectionVars false
namespace Go.Proofs.YtmckkklhonfmcaaGreat
open Go.Tess Go.RowKit
set_option maxRecDepth 100000
set_option maxHeartbeats 1000000
def lessAt (l : List KeyD) : Nat → Bool
  | 0 => false
  | j + 1 => match l[j + 1]?, l[j]? with
    | some a, some b => keyLess a b
    | _, _ => false
def swapAt (l : List KeyD) (j : Nat) : List KeyD :=
  match l[j + 1]?, l[j]? with
    | some a, some b => (l.set (j + 1) b).set j a
    | _, _ => l
def insW (l : List KeyD) : Nat → List KeyD
  | 0 => l
  | j + 1 => if lessAt l (j + 1) then insW (swapAt l j) j else l
def canonF (ks : List KeyD) : List KeyD := ks.foldl (fun acc k => insW (acc ++ [k]) acc.length) []
theorem swapAt_len (l : List KeyD) (j : Nat) : (swapAt l j).length = l.length := by unfold swapAt; split <;> simp
theorem insW_len (l : List KeyD) (j : Nat) : (insW l j).length = l.length := by
  induction j generalizing l with
  | zero => rfl
  | succ j ih => simp only [insW]; split
                 · rw [ih, swapAt_len]
                 · rfl
theorem canonF_snoc (l : List KeyD) (x : KeyD) : canonF (l ++ [x]) = insW (canonF l ++ [x]) (canonF l).length := by simp only [canonF, List.foldl_append, List.foldl_cons, List.foldl_nil]
theorem canonF_len (l : List KeyD) : (canonF l).length = l.length := by
  have : ∀ (l acc : List KeyD), (l.foldl (fun acc k => insW (acc ++ [k]) acc.length) acc).length = acc.length + l.length := by
    intro l
    induction l with
    | nil => intro acc; simp
    | cons x l ih => intro acc; simp only [List.foldl_cons, ih, insW_len, List.length_append, List.length_cons, List.length_nil]; omega
  have := this l []
  simp only [List.length_nil, Nat.zero_add] at this
  exact this
theorem insW_stop {l : List KeyD} {j : Nat} (h : lessAt l j = false) : insW l j = l := by
  cases j with
  | zero => rfl
  | succ j => simp [insW, h]
theorem insW_go {l : List KeyD} {j : Nat} (h : lessAt l (j + 1) = true) : insW l (j + 1) = insW (swapAt l j) j := by simp [insW, h]
theorem c_SpanCanon (χ : Chi) (h : Heap) (A : Nat → Prop) (hA : Low A h) (v : Value) (ks : List KeyD) (hks : RKeys A h v ks) (hl : ks.length ≤ 100000) :
    Cl Tryz.prog χ 41 #[v] h (fun r h' => RKeys (Up N0 h h') h' r (canonF ks) ∧ Keep [] h h') := by
  obtain ⟨hlen, a, c, rfl, hx⟩ := hks.form
  refine cl_intro Tryz.func41 rfl rfl rfl ?_
  have K : Keep [] h h := Keep.refl _ _
  refine rG <| rA rfl rfl <| rN <| rG <| rA rfl rfl <| rN ?_
  refine tr_seq ?_
  refine rG <| rM rfl rfl <| rs_v (v_len u_sl_spec_SpanKey rfl) rfl ?_
  refine rM rfl rfl <| rN <| tr_block ?_
  refine tr_loop (fun m E h' => ∃ k v n, k ≤ ks.length ∧ m = ks.length - k ∧ E = [(3, v), (7, .slice a ks.length c), (8, .int .i64 (ks.length : Int)), (9, .int .i64 (k : Int))] ∧ Keep [] h h' ∧ n = (canonF (ks.take k)).length ∧ OutR N0 h h' h.size 42 3 cKey v n (canonF (ks.take k))) ks.length [(3, _), (7, _), (8, _), (9, _)] ⟨rfl, rfl, rfl, rfl, trivial⟩ ⟨0, _, 0, Nat.zero_le _, rfl, rfl, K, rfl, OutR.nil _ _ _ _ _ _ _⟩ ?_
  rintro m E hL1 ⟨k, v, n, hk, rfl, rfl, K, hn, hout⟩
  have hout0 := hout
  obtain ⟨xs, F, O, hrow, hF⟩ := hout
  have hob := own_ne O; have KL := Keep.refl [] hL1
  refine rG <| rs_v (v_lt rfl rfl) rfl ?_
  refine rN ?_
  refine tr_seq ?_
  refine tr_ifn rfl (fun hif => ?_) (fun hif => ?_)
  · -- no
    simp only [dT, dF] at hif
    have hkk : k = ks.length := by omega
    subst hkk
    refine tr_exit <| q_thn_exit ?_
    refine q_lp_exit ?_
    refine q_blk_hit ?_
    refine q_thn ?_
    refine rG <| rM rfl rfl <| rA rfl rfl <| rN <| tr_ret <| q_ret (res_tmp rfl rfl) ?_
    rw [List.take_length] at hout0 hn
    exact ⟨hout0.fin cKey_st hn (Nat.le_refl _) cKey_r, K⟩
  -- yes
  simp only [dT, dF] at hif
  rcases hx with rfl | ⟨b, o, rfl, hAb, hR⟩
  · simp at hif; omega
  obtain ⟨x, hsk⟩ := ex_get (L := ks) (k := k) (by omega)
  have hkl : k < ks.length := (List.getElem?_eq_some_iff.1 hsk).1
  have KL0 := K.1
  have hcells := K.cells (by simp) (hR k x hsk)
  have hnk : n = k := by rw [hn, canonF_len, List.length_take]; omega
  refine tr_skip ?_
  refine q_thn ?_
  refine tr_seq ?_
  refine tr_block <| rG <| rs_v (v_indexAddrN u_sl_spec_SpanKey siz_spec_SpanKey rfl rfl (by omega)) rfl ?_
  refine rs_v (v_loadAgg (vs := [_, _, _]) many_spec_SpanKey rfl (by exact hcells)) rfl ?_
  refine rs_w (w_new zero_spec_SpanKey) rfl ?_
  rintro _ h2 ⟨rfl, B2, K2, Z2⟩
  have O := O.keep2 K2 (fun x hm => by have := hob x hm; simp; try omega)
  have S2 := K.1; have K := K.new0 K2; have KL := KL.new0 K2
  refine rs_w0 (w_put siz_spec_SpanKey rfl rfl rfl rfl B2 rfl) ?_
  rintro _ h3 ⟨B3, K3⟩
  have O := O.keep2 K3 (fun x hm => by have := hob x hm; simp; try omega)
  have B2 := B3; have K := K.new1 K3 (by first | (right; omega) | (left; simp; done)); have Z3 := K3.1; have KL := KL.new1 K3 (.inr (by omega))
  refine rN <| rG <| rM rfl rfl <| rs_v (v_loadAgg (vs := [_, _, _]) many_spec_SpanKey rfl (by exact B2.sub _ 3 rfl)) rfl ?_
  refine rs_w (w_new1 u_sl_spec_SpanKey siz_spec_SpanKey zero_spec_SpanKey rfl rfl rfl rfl rfl) rfl ?_
  rintro _ h4 ⟨rfl, B4, K4, Z4⟩
  have B2 := K4.blk (by simp) B2
  have O := O.keep2 K4 (fun x hm => by have := hob x hm; simp; try omega)
  have S4 := K.1; have K := K.new0 K4; have KL := KL.new0 K4
  refine rs_w (w_app1 u_sl_spec_SpanKey info_spec_SpanKey rfl rfl rfl O rfl rfl B4 rfl (by omega) (by omega) (by omega)) rfl ?_
  rintro v5 h5 ⟨O5, K5, N5, F5⟩
  have K := K.newX K5 (fun x hm => .inr (by have := hob x hm; omega)); have Z5 := K5.1
  obtain ⟨g, c9, rfl, hgb, hgl, hcg4⟩ := own_some O5
  have B2 := K5.blk (fun hm => by first | (have := hob _ hm; omega) | exact absurd rfl (hnb _ hm)) B2
  have B4 := K5.blk (fun hm => by first | (have := hob _ hm; omega) | exact absurd rfl (hnb _ hm)) B4
  refine rA rfl rfl <| rN <| rG <| rM rfl rfl <| rs_v (v_len u_sl_spec_SpanKey rfl) rfl ?_
  refine rs_v (v_sub rfl rfl (by omega) (by omega)) rfl ?_
  refine rA rfl rfl <| rN <| tr_block ?_
  refine tr_loop (fun m E h' => ∃ j i l cs, i = ((j : Nat) : Int) ∧ j = m ∧ E = [(3, .slice (some ⟨g, 0, none⟩) (n + 1) c9), (7, .slice (some ⟨b, o, none⟩) ks.length c), (8, .int .i64 (ks.length : Int)), (9, .int .i64 (k : Int)), (6, .int .i64 i)] ∧ Keep [] h h' ∧ h4.size ≤ h'.size ∧ l.length = n + 1 ∧ j ≤ n ∧ insW l j = insW (canonF (ks.take k) ++ [x]) n ∧ Own h' h.size 42 3 (.slice (some ⟨g, 0, none⟩) (n + 1) c9) (n + 1) cs ∧ RowsR 3 (cKey N0 h) cs l) n [(3, _), (7, _), (8, _), (9, _), (6, _)] ⟨rfl, rfl, rfl, rfl, rfl, trivial⟩ ⟨n, (((n + 1 : Nat) : Int) - 1), _, _, by omega, rfl, rfl, K, by omega, by rw [List.length_append, ← hn]; rfl, Nat.le_refl _, rfl, O5, hrow.snoc rfl rfl⟩ ?_
  rintro m E hL6 ⟨j, i, l, cs, hij, rfl, rfl, K, hz3, hll, hjn, hins, O, hrowI⟩
  obtain ⟨g8, c8, e8, hg1, hg2, hcg⟩ := own_some O
  cases e8
  have hob := own_ne O; have KL := Keep.refl [] hL6
  refine tr_seq ?_
  refine tr_cut (fun E h' => Keep [] hL6 h' ∧ E = [(3, .slice (some ⟨g, 0, none⟩) (n + 1) c9), (7, .slice (some ⟨b, o, none⟩) ks.length c), (8, .int .i64 (ks.length : Int)), (9, .int .i64 (k : Int)), (6, .int .i64 i), (33, .bool (lessAt l j))]) ?_ ?_
  ·
    rcases Nat.eq_zero_or_pos j with g0 | g0
    · subst g0
      have g1 : decide ((0 : Int) < i) = false := decide_eq_false (by omega)
      refine tr_any (Keep []) (keep_pre _) (by kernel_rfl) (by kernel_rfl) ?_
      refine rm_v (keep_pre _) (fun h' hk => v_move rfl) ?_
      refine rm_v (keep_pre _) (fun h' hk => v_gt rfl rfl) ?_
      refine rm_v (keep_pre _) (fun h' hk => v_move rfl) ?_
      refine rm_gs (keep_pre _) rfl (lkm g1) rfl ?_
      refine rm_gs (keep_pre _) rfl (lkm g1) rfl ?_
      refine rm_gs (keep_pre _) rfl (lkm g1) rfl ?_
      refine rm_gs (keep_pre _) rfl (lkm g1) rfl ?_
      refine rm_gs (keep_pre _) rfl (lkm g1) rfl ?_
      refine rm_gs (keep_pre _) rfl (lkm g1) rfl ?_
      refine rm_gs (keep_pre _) rfl (lkm g1) rfl ?_
      refine rm_gs (keep_pre _) rfl (lkm g1) rfl ?_
      refine rm_gs (keep_pre _) rfl (lkm g1) rfl ?_
      refine rm_gs (keep_pre _) rfl (lkm g1) rfl ?_
      refine rm_v (keep_pre _) (fun h' hk => v_pick_f (lkb g1) rfl) ?_
      refine rm_end ?_; intro h7 K7; simp only [endM, hypF, ofE, argE, List.nil_append]
      have O := O.keep2 K7 (fun x hm => by have := hob x hm; simp; try omega)
      have K := K.new0 K7; have Z7 := K7.1
      refine q_cut [(3, _), (7, _), (8, _), (9, _), (6, _), (33, _)] ⟨rfl, rfl, rfl, rfl, rfl, rfl, trivial⟩ ⟨K7, ?_⟩
      rfl
    · obtain ⟨j, rfl⟩ : ∃ j', j = j' + 1 := ⟨j - 1, by omega⟩
      have g1 : decide ((0 : Int) < i) = true := decide_eq_true (by omega)
      obtain ⟨y, hy⟩ := ex_get (L := l) (k := j + 1) (by omega)
      obtain ⟨z, hz⟩ := ex_get (L := l) (k := j) (by omega)
      obtain ⟨cy, _, hcy, ey⟩ := hrowI.at hcg hy
      obtain ⟨cz, _, hcz, ez⟩ := hrowI.at hcg hz
      cases ey; cases ez
      have hle : lessAt l (j + 1) = keyLess y z := by simp [lessAt, hy, hz]
      refine tr_any (Keep []) (keep_pre _) (by kernel_rfl) (by kernel_rfl) ?_
      refine rm_v (keep_pre _) (fun h' hk => v_move rfl) ?_
      refine rm_v (keep_pre _) (fun h' hk => v_gt rfl rfl) ?_
      refine rm_v (keep_pre _) (fun h' hk => v_move rfl) ?_
      refine rm_gv (keep_pre _) rfl (lkm g1) (fun h' hk => v_move rfl) ?_
      refine rm_gv (keep_pre _) rfl (lkm g1) (fun h' hk => v_move rfl) ?_
      refine rm_gv (keep_pre _) rfl (lkm g1) (fun h' hk => v_indexAddrE (i := j + 1) u_sl_spec_SpanKey siz_spec_SpanKey rfl rfl hij (by omega)) ?_
      refine rm_gv (keep_pre _) rfl (lkm g1) (fun h' hk => v_loadAgg (vs := [_, _, _]) many_spec_SpanKey rfl (by exact hk.cells (by simp) hcy)) ?_
      refine rm_gv (keep_pre _) rfl (lkm g1) (fun h' hk => v_move rfl) ?_
      refine rm_gv (keep_pre _) rfl (lkm g1) (fun h' hk => v_move rfl) ?_
      refine rm_gv (keep_pre _) rfl (lkm g1) (fun h' hk => v_sub rfl rfl (by omega) (by omega)) ?_
      refine rm_gv (keep_pre _) rfl (lkm g1) (fun h' hk => v_indexAddrE (i := j) u_sl_spec_SpanKey siz_spec_SpanKey rfl rfl (by omega) (by omega)) ?_
      refine rm_gv (keep_pre _) rfl (lkm g1) (fun h' hk => v_loadAgg (vs := [_, _, _]) many_spec_SpanKey rfl (by exact hk.cells (by simp) hcz)) ?_
      refine rm_gc rfl (lkm g1) (fun h' hk => w_call (vs := [_, _]) ok_spec_spanKeyLess rfl ⟨rfl, rfl, trivial⟩ (c_spanKeyLess χ h' y z)) ?_
      refine rm_v (keep_pre _) (fun h' hk => v_pick_t (lkb g1) rfl) ?_
      refine rm_end ?_; intro h8 K8; simp only [endM, hypF, ofE, argE, List.nil_append]
      have O := O.keep2 K8 (fun x hm => by have := hob x hm; simp; try omega)
      have K := K.new0 K8; have Z8 := K8.1
      refine q_cut [(3, _), (7, _), (8, _), (9, _), (6, _), (33, _)] ⟨rfl, rfl, rfl, rfl, rfl, rfl, trivial⟩ ⟨K8, ?_⟩
      rw [hle]
  rintro E h9 ⟨K9, rfl⟩
  have K := K.new0 K9; have Z9 := K9.1
  have O := O.keep2 K9 (by simp)
  have hcg := K9.cells (by simp) hcg
  refine tr_ifn rfl (fun hif => ?_) (fun hif => ?_)
  · -- no
    skip
    refine tr_exit <| q_thn_exit ?_
    refine q_lp_exit ?_
    refine q_blk_hit <| q_blk_n ?_
    refine q_thn ?_
    refine tr_reg ?_
    refine rs_v (v_add rfl rfl (by omega) (by omega)) rfl ?_
    refine rM rfl rfl ?_
    refine rs_nil ?_
    have hst : insW l j = l := insW_stop hif
    rw [hst] at hins
    refine q_lp (ks.length - (k + 1)) [(3, _), (7, _), (8, _), (9, _)] (by omega) ⟨rfl, rfl, rfl, rfl, trivial⟩ ⟨k + 1, _, n + 1, by omega, rfl, rfl, K, ?_, ?_⟩
    · rw [canonF_len, List.length_take]; omega
    · rw [take_snoc' hsk, canonF_snoc, ← hn, ← hins]
      exact ⟨cs, N0, O, hrowI, fun _ hb => hb.elim⟩
  -- yes
  skip
  refine tr_skip ?_
  refine q_thn ?_
  refine tr_seq ?_
  refine tr_block ?_
  obtain ⟨j, rfl⟩ : ∃ j', j = j' + 1 := by
    cases j with
    | zero => simp [lessAt] at hif
    | succ j => exact ⟨j, rfl⟩
  obtain ⟨y, hy⟩ := ex_get (L := l) (k := j + 1) (by omega)
  obtain ⟨z, hz⟩ := ex_get (L := l) (k := j) (by omega)
  obtain ⟨cy, _, hcy, ey⟩ := hrowI.at hcg hy
  obtain ⟨cz, _, hcz, ez⟩ := hrowI.at hcg hz
  cases ey; cases ez
  refine tr_draw [(true, 16), (false, 2)] _ (by kernel_rfl) (by kernel_rfl) (by kernel_rfl) ?_
  refine rx_one 15 ?_
  refine re_v rfl (by kernel_rfl) (v_move rfl) ?_
  refine re_v rfl (by kernel_rfl) (v_move rfl) ?_
  refine re_a rfl (fun h' => v_move rfl) ?_
  refine re_a rfl (fun h' => v_move rfl) ?_
  refine re_a rfl (fun h' => v_sub rfl rfl (by omega) (by omega)) ?_
  refine re_v rfl (by kernel_rfl) (v_move rfl) ?_
  refine re_v rfl (by kernel_rfl) (v_move rfl) ?_
  refine re_v rfl (by kernel_rfl) (v_sub rfl rfl (by omega) (by omega)) ?_
  refine re_v rfl (by kernel_rfl) (v_indexAddrE (i := j) u_sl_spec_SpanKey siz_spec_SpanKey rfl rfl (by omega) (by omega)) ?_
  refine re_v rfl (by kernel_rfl) (v_loadAgg (vs := [_, _, _]) many_spec_SpanKey rfl (by exact hcz)) ?_
  refine re_v rfl (by kernel_rfl) (v_move rfl) ?_
  refine re_v rfl (by kernel_rfl) (v_move rfl) ?_
  refine re_v rfl (by kernel_rfl) (v_indexAddrE (i := j + 1) u_sl_spec_SpanKey siz_spec_SpanKey rfl rfl (by omega) (by omega)) ?_
  refine re_v rfl (by kernel_rfl) (v_loadAgg (vs := [_, _, _]) many_spec_SpanKey rfl (by exact hcy)) ?_
  refine re_v rfl (by kernel_rfl) (v_indexAddrE (i := j + 1) u_sl_spec_SpanKey siz_spec_SpanKey rfl rfl (by omega) (by omega)) ?_
  refine re_w0 _ rfl (w_putOwn siz_spec_SpanKey rfl rfl rfl rfl O (Nat.zero_add _) (by omega)) ?_
  refine re_end ?_; intro hA2 _; simp only [endM, hypF, ofE, argE, List.nil_append]; rintro ⟨OA, KA⟩
  refine rx_seq ?_
  refine rs_v (v_indexAddrE (i := j) u_sl_spec_SpanKey siz_spec_SpanKey rfl rfl (by omega) (by omega)) rfl ?_
  refine rs_w0 (w_putOwn siz_spec_SpanKey rfl rfl rfl rfl OA (Nat.zero_add _) (by omega)) ?_
  rintro _ h10 ⟨OB, KB⟩
  have K := (K.new1 KA (.inr hg1)).new1 KB (.inr hg1); have ZB := KA.1; have ZC := KB.1
  refine rs_nil ?_
  refine q_con ?_
  refine rx_nil ?_
  refine q_blk_n ?_
  refine q_thn ?_
  refine tr_reg ?_
  refine rM rfl rfl <| rs_v (v_sub rfl rfl (by omega) (by omega)) rfl ?_
  refine rA rfl rfl ?_
  refine rs_nil ?_
  refine q_lp j [(3, _), (7, _), (8, _), (9, _), (6, _)] (by omega) ⟨rfl, rfl, rfl, rfl, rfl, trivial⟩ ⟨j, _, swapAt l j, _, by omega, rfl, rfl, K, by omega, by rw [swapAt_len]; exact hll, by omega, by rw [← hins, insW_go hif], OB, ?_⟩
  have e : swapAt l j = (l.set (j + 1) z).set j y := by simp [swapAt, hy, hz]
  rw [e]
  exact (hrowI.set rfl rfl (by omega)).set rfl rfl (by simp; omega)
set_option maxHeartbeats 1000000
def canonS (s : SpanD) : SpanD := ⟨s.s, s.e, canonF s.ks⟩
def Like (W W2 : List SpanD) : Prop := W.map canonS = W2.map canonS ∧ ∀ s, s ∈ W → descB s.ks = true
def few (s : SpanD) : Prop := s.ks.length ≤ 100000
theorem c_spanCanons (χ : Chi) (h : Heap) (A : Nat → Prop) (hA : Low A h) (v : Value) (W : List SpanD) (hW : RSpans A h v W) (hn : W.length ≤ 100000) (hm : ∀ s, s ∈ W → few s) :
    Cl Tryz.prog χ 53 #[v] h (fun r h' => RSpans (Up N0 h h') h' r (W.map canonS) ∧ Keep [] h h') := by
  obtain ⟨hlen, a, c, rfl, hx⟩ := hW.form
  refine cl_intro Tryz.func53 rfl rfl rfl ?_
  have K : Keep [] h h := Keep.refl _ _
  refine rG <| rA rfl rfl <| rN <| rG <| rA rfl rfl <| rN ?_
  refine tr_seq ?_
  refine rG <| rM rfl rfl <| rs_v (v_len u_sl_spec_Span rfl) rfl ?_
  refine rM rfl rfl <| rN <| tr_block ?_
  refine tr_loop (fun m E h' => ∃ k v n, k ≤ W.length ∧ m = W.length - k ∧ E = [(3, v), (6, .slice a W.length c), (7, .int .i64 (W.length : Int)), (8, .int .i64 (k : Int))] ∧ Keep [] h h' ∧ n = ((W.take k).map canonS).length ∧ OutR N0 h h' h.size 40 3 cSpan v n ((W.take k).map canonS)) W.length [(3, _), (6, _), (7, _), (8, _)] ⟨rfl, rfl, rfl, rfl, trivial⟩ ⟨0, _, 0, Nat.zero_le _, rfl, rfl, K, rfl, OutR.nil _ _ _ _ _ _ _⟩ ?_
  rintro m E hL1 ⟨k, v, n, hk, rfl, rfl, K, hn, hout⟩
  have hout0 := hout
  obtain ⟨xs, F, O, hrow, hF⟩ := hout
  have hob := own_ne O; have KL := Keep.refl [] hL1
  refine rG <| rs_v (v_lt rfl rfl) rfl ?_
  refine rN ?_
  refine tr_seq ?_
  refine tr_ifn rfl (fun hif => ?_) (fun hif => ?_)
  · -- no
    simp only [dT, dF] at hif
    have hkk : k = W.length := by omega
    subst hkk
    refine tr_exit <| q_thn_exit ?_
    refine q_lp_exit ?_
    refine q_blk_hit ?_
    refine q_thn ?_
    refine rG <| rM rfl rfl <| rA rfl rfl <| rN <| tr_ret <| q_ret (res_tmp rfl rfl) ?_
    rw [List.take_length] at hout0 hn
    exact ⟨hout0.fin cSpan_st hn (Nat.le_refl _) cSpan_r, K⟩
  -- yes
  simp only [dT, dF] at hif
  rcases hx with rfl | ⟨b, o, rfl, hAb, hR⟩
  · simp at hif; omega
  obtain ⟨x, hsk⟩ := ex_get (L := W) (k := k) (by omega)
  have hkl : k < W.length := (List.getElem?_eq_some_iff.1 hsk).1
  have KL0 := K.1
  obtain ⟨kv, hcc, hkx⟩ := hR k x hsk
  obtain ⟨ka, kc, rfl⟩ := hkx.form2
  have hcells := K.cells (by simp) hcc
  have hnk : n = k := by rw [hn, List.length_map, List.length_take]; omega
  refine tr_skip ?_
  refine q_thn ?_
  refine tr_seq ?_
  refine tr_block <| rG <| rs_v (v_indexAddrN u_sl_spec_Span siz_spec_Span rfl rfl (by omega)) rfl ?_
  refine rs_v (v_loadAgg (vs := [_, _, _]) many_spec_Span rfl (by exact hcells)) rfl ?_
  refine rs_w (w_new zero_spec_Span) rfl ?_
  rintro _ h2 ⟨rfl, B2, K2, Z2⟩
  have O := O.keep2 K2 (fun x hm => by have := hob x hm; simp; try omega)
  have S2 := K.1; have K := K.new0 K2; have KL := KL.new0 K2
  refine rs_w0 (w_put siz_spec_Span rfl rfl rfl rfl B2 rfl) ?_
  rintro _ h3 ⟨B3, K3⟩
  have O := O.keep2 K3 (fun x hm => by have := hob x hm; simp; try omega)
  have B2 := B3; have K := K.new1 K3 (by first | (right; omega) | (left; simp; done)); have Z3 := K3.1; have KL := KL.new1 K3 (.inr (by omega))
  refine rN <| rG <| rF fa_spec_Span_2 rfl rfl <| rs_v (v_load one_sl_spec_SpanKey rfl (by exact B2.cell _ rfl)) rfl ?_
  refine rs_w (w_call (vs := [_]) ok_spec_SpanCanon rfl ⟨rfl, trivial⟩ (c_SpanCanon χ _ A (hA.mono (by omega)) _ x.ks (hkx.stab (K.st hA)) (hm x (List.mem_of_getElem? hsk)))) rfl ?_
  rintro kv4 h4 ⟨hkv4, K4⟩
  obtain ⟨a4, c4, rfl⟩ := hkv4.form2
  have B2 := K4.blk (by simp) B2
  have O := O.keep2 K4 (fun x hm => by have := hob x hm; simp; try omega)
  have K := K.new0 K4; have Z4 := K4.1; have KL := KL.new0 K4
  refine rF fa_spec_Span_2 rfl rfl <| rs_w0 (w_put siz_sl_spec_SpanKey rfl rfl rfl rfl B2 rfl) ?_
  rintro _ h5 ⟨B5, K5⟩
  have O := O.keep2 K5 (fun x hm => by have := hob x hm; simp; try omega)
  have B2 := B5; have K := K.new1 K5 (by first | (right; omega) | (left; simp; done)); have Z5 := K5.1; have KL := KL.new1 K5 (.inr (by omega))
  refine rN ?_
  refine tr_reg ?_
  refine rM rfl rfl <| rs_v (v_loadAgg (vs := [_, _, _]) many_spec_Span rfl (by exact B2.sub _ 3 rfl)) rfl ?_
  refine rs_w (w_new1 u_sl_spec_Span siz_spec_Span zero_spec_Span rfl rfl rfl rfl rfl) rfl ?_
  rintro _ h6 ⟨rfl, B6, K6, Z6⟩
  have B2 := K6.blk (by simp) B2
  have O := O.keep2 K6 (fun x hm => by have := hob x hm; simp; try omega)
  have S6 := K.1; have K := K.new0 K6; have KL := KL.new0 K6
  refine rs_w (w_app1 u_sl_spec_Span info_spec_Span rfl rfl rfl O rfl rfl B6 rfl (by omega) (by omega) (by omega)) rfl ?_
  rintro v7 h7 ⟨O7, K7, N7, F7⟩
  have K := K.newX K7 (fun x hm => .inr (by have := hob x hm; omega)); have Z7 := K7.1
  have B2 := K7.blk (fun hm => by first | (have := hob _ hm; omega) | exact absurd rfl (hnb _ hm)) B2
  have B6 := K7.blk (fun hm => by first | (have := hob _ hm; omega) | exact absurd rfl (hnb _ hm)) B6
  refine rA rfl rfl ?_
  refine rs_nil ?_
  refine q_blk_n ?_
  refine q_thn ?_
  refine tr_reg ?_
  refine rs_v (v_add rfl rfl (by omega) (by omega)) rfl ?_
  refine rM rfl rfl ?_
  refine rs_nil ?_
  refine q_lp (W.length - (k + 1)) [(3, _), (6, _), (7, _), (8, _)] (by omega) ⟨rfl, rfl, rfl, rfl, trivial⟩ ⟨k + 1, v7, n + 1, by omega, rfl, rfl, K, ?_, ?_⟩
  · rw [take_snoc' hsk, List.map_append]; rw [List.length_append, ← hn]; rfl
  · rw [take_snoc' hsk, List.map_append]
    exact OutR.snoc cSpan_st (n0low h) (by omega) hob hrow hF KL0 KL O7 K7 F7 rfl (⟨_, rfl, (upk (n0low _) (by omega) (rk_skip hkv4 Z4 K5 (by omega)) K6).mono (n0up (by omega) (Nat.le_refl _))⟩)
theorem c_spanLike (χ : Chi) (h : Heap) (A A2 : Nat → Prop) (hA : Low A h) (hA2 : Low A2 h) (v u : Value) (W W2 : List SpanD) (hW : RSpans A h v W) (hW2 : RSpans A2 h u W2) (hn : W.length ≤ 100000) (hn2 : W2.length ≤ 100000) (hm : ∀ s, s ∈ W → few s) (hm2 : ∀ s, s ∈ W2 → few s) (hlk : Like W W2) :
    Cl Tryz.prog χ 17 #[v, u] h (fun r h' => r = .bool true ∧ Keep [] h h') := by
  obtain ⟨a2, c2, rfl⟩ := SlR.form2 hW2
  refine cl_intro Tryz.func17 rfl rfl rfl ?_
  have K : Keep [] h h := Keep.refl _ _
  refine rG <| rA rfl rfl <| rN <| rG <| rM rfl rfl <| rs_w (w_call (vs := [_]) ok_laws_ofSpans rfl ⟨rfl, trivial⟩ (c_ofSpans χ h A hA _ W hW hn hm)) rfl ?_
  rintro v1 h1 ⟨hl1, K1⟩
  obtain ⟨hlen, a, c, rfl, hx⟩ := SlR.form hl1
  have K := K.new0 K1; have Z1 := K1.1
  refine rA rfl rfl <| rN ?_
  refine tr_seq ?_
  refine rG <| rM rfl rfl <| rs_v (v_len u_sl_spec_Span rfl) rfl ?_
  refine rM rfl rfl <| rN <| tr_block ?_
  refine tr_loop (fun m E h' => ∃ k, k ≤ W.length ∧ m = W.length - k ∧ E = [(1, .slice a2 W2.length c2), (5, .slice a W.length c), (10, .slice a W.length c), (11, .int .i64 (W.length : Int)), (12, .int .i64 (k : Int))] ∧ Keep [] h h' ∧ Keep [] h1 h') W.length [(1, _), (5, _), (10, _), (11, _), (12, _)] ⟨rfl, rfl, rfl, rfl, rfl, trivial⟩ ⟨0, Nat.zero_le _, rfl, rfl, K, Keep.refl _ _⟩ ?_
  rintro m E hL2 ⟨k, hk, rfl, rfl, K, KA⟩
  refine rG <| rs_v (v_lt rfl rfl) rfl ?_
  refine rN ?_
  refine tr_seq ?_
  refine tr_ifn rfl (fun hif => ?_) (fun hif => ?_)
  · -- no
    simp only [dT, dF] at hif
    refine tr_exit <| q_thn_exit ?_
    refine q_lp_exit ?_
    refine q_blk_hit ?_
    refine q_thn ?_
    refine rG <| rM rfl rfl <| rs_w (w_call (vs := [_]) ok_laws_spanCanons rfl ⟨rfl, trivial⟩ (c_spanCanons χ _ (Up A h h1) ((hA.up Z1).mono KA.1) _ W (RSpans.stab hl1 (KA.st (hA.up Z1))) hn hm)) rfl ?_
    rintro v2 h3 ⟨hl2, K3⟩
    have KA := KA.newX K3 (fun x hx => .inr (by first | (simp at hx; done) | (simp at hx; omega)))
    have K := K.new0 K3; have Z3 := K3.1
    refine rM rfl rfl <| rs_w (w_call (vs := [_]) ok_laws_spanCanons rfl ⟨rfl, trivial⟩ (c_spanCanons χ _ A2 (hA2.mono K.1) _ W2 (hW2.stab (K.st hA2)) hn2 hm2)) rfl ?_
    rintro v3 h4 ⟨hl3, K4⟩
    have hz2 := K3.1
    have hl2 := hl2.stab (K4.st ((n0low _).up hz2))
    obtain ⟨aa2, cc2, rfl⟩ := SlR.form2 hl2
    obtain ⟨aa3, cc3, rfl⟩ := SlR.form2 hl3
    have KA := KA.newX K4 (fun x hx => .inr (by first | (simp at hx; done) | (simp at hx; omega)))
    have K := K.new0 K4; have Z4 := K4.1
    refine rs_w (w_call (vs := [_, _]) ok_laws_sameSpans rfl ⟨rfl, rfl, trivial⟩ (c_sameSpans χ _ _ _ (((n0low _).up hz2).mono Z4) ((n0low _).up Z4) _ _ (W.map canonS) hl2 (by rw [hlk.1]; exact hl3))) rfl ?_
    rintro _ h5 ⟨rfl, K5⟩
    have KA := KA.newX K5 (fun x hx => .inr (by first | (simp at hx; done) | (simp at hx; omega)))
    have K := K.new0 K5; have Z5 := K5.1
    refine rA rfl rfl <| rN <| tr_ret <| q_ret (res_tmp rfl rfl) ?_
    exact ⟨rfl, K⟩
  -- yes
  simp only [dT, dF] at hif
  rcases hx with rfl | ⟨b, o, rfl, hAb, hR⟩
  · simp at hif; omega
  obtain ⟨x, hsk⟩ := ex_get (L := W) (k := k) (by omega)
  obtain ⟨kv, hcc, hkx⟩ := hR k x hsk
  obtain ⟨ka, kc, rfl⟩ := hkx.form2
  have hcells := KA.cells (by simp) hcc
  have hZA := KA.1
  have hd := hlk.2 x (List.mem_of_getElem? hsk)
  refine tr_skip ?_
  refine q_thn ?_
  refine tr_seq ?_
  refine tr_block <| rG <| rs_v (v_indexAddrN u_sl_spec_Span siz_spec_Span rfl rfl (by omega)) rfl ?_
  refine rs_v (v_loadAgg (vs := [_, _, _]) many_spec_Span rfl (by exact hcells)) rfl ?_
  refine rs_w (w_new zero_spec_Span) rfl ?_
  rintro _ h6 ⟨rfl, B6, K6, Z6⟩
  have KA := KA.newX K6 (fun x hx => .inr (by first | (simp at hx; done) | (simp at hx; omega)))
  have S6 := K.1; have K := K.new0 K6
  refine rs_w0 (w_put siz_spec_Span rfl rfl rfl rfl B6 rfl) ?_
  rintro _ h7 ⟨B7, K7⟩
  have KA := KA.newX K7 (fun x hx => .inr (by first | (simp at hx; done) | (simp at hx; omega)))
  have B6 := B7; have K := K.new1 K7 (by first | (right; omega) | (left; simp; done)); have Z7 := K7.1
  refine rN <| rG <| rF fa_spec_Span_2 rfl rfl <| rs_v (v_load one_sl_spec_SpanKey rfl (by exact B6.cell _ rfl)) rfl ?_
  refine rs_w (w_call (vs := [_]) ok_spec_SpanDescending rfl ⟨rfl, trivial⟩ (c_SpanDescending χ _ (Up A h h1) _ x.ks (hkx.stab (KA.st (hA.up Z1))))) rfl ?_
  rintro _ h8 ⟨rfl, hsame⟩; have hsame := hsame.symm; subst hsame
  refine rs_v (v_not rfl) rfl ?_
  refine rN <| tr_if_f (lkb (by rw [hd]; rfl)) ?_
  refine tr_skip <| q_blk_n ?_
  refine q_thn ?_
  refine tr_reg ?_
  refine rs_v (v_add rfl rfl (by omega) (by omega)) rfl ?_
  refine rM rfl rfl ?_
  refine rs_nil ?_
  refine q_lp (W.length - (k + 1)) [(1, _), (5, _), (10, _), (11, _), (12, _)] (by omega) ⟨rfl, rfl, rfl, rfl, rfl, trivial⟩ ⟨k + 1, by omega, rfl, rfl, K, KA⟩
set_option maxHeartbeats 1000000
theorem bsplit2 (a : Bool) : a = true ∨ a = false := Bool.eq_false_or_eq_true a
theorem bsplit3 (a b : Bool) : a = true ∨ (a = false ∧ b = true) ∨ (a = false ∧ b = false) := by cases a <;> cases b <;> simp
theorem desc_pair : ∀ (ks : List KeyD), descB ks = true ↔ ks.Pairwise (fun a b => b.tr ≤ a.tr)
  | [] => by simp [descB, chainB]
  | [a] => by simp [descB, chainB]
  | a :: b :: l => by
    have ih := desc_pair (b :: l)
    simp only [descB, chainB, Bool.and_eq_true, decide_eq_true_eq] at ih ⊢
    rw [ih, List.pairwise_cons (a := a)]
    constructor
    · rintro ⟨h1, h2⟩
      refine ⟨fun x hx => ?_, h2⟩
      rcases List.mem_cons.1 hx with rfl | hx
      · exact h1
      · exact Int.le_trans ((List.pairwise_cons.1 h2).1 x hx) h1
    · rintro ⟨h1, h2⟩
      exact ⟨h1 b (by simp), h2⟩
structure Good (W : List SpanD) : Prop where
  len : W.length ≤ 40
  full : ∀ s, s ∈ W → slt s.s s.e = true ∧ s.ks ≠ [] ∧ descB s.ks = true ∧ s.ks.length ≤ 40
  small : ∀ s, s ∈ W → SpanD.small s
  ord : Tess.Ord W
theorem Good.few {W : List SpanD} (h : Good W) : ∀ s, s ∈ W → few s := fun s hs => by have := (h.full s hs).2.2.2; unfold Go.Proofs.YtmckkklhonfmcaaGreat.few; omega
theorem Good.n {W : List SpanD} (h : Good W) : W.length ≤ 100000 := by have := h.len; omega
theorem good_of {W : List SpanD} {n : Int} (hn : n ≤ 40) (h4 : fit4 W = true) (hm : (mostB W n && wellB W) = true) : Good W ∧ (W.length : Int) ≤ n := by
  simp only [fit4, mostB, wellB, Bool.and_eq_true, List.all_eq_true, decide_eq_true_eq] at h4 hm
  obtain ⟨⟨hm1, hm2⟩, hw1, hw2⟩ := hm
  have hfull : ∀ s, s ∈ W → slt s.s s.e = true ∧ s.ks ≠ [] ∧ descB s.ks = true ∧ s.ks.length ≤ 40 := fun s hs => by
    have := hw1 s hs
    simp only [fullB, Bool.and_eq_true, decide_eq_true_eq] at this
    exact ⟨this.1, fun e => by rw [e] at this; simp at this, this.2.2, hm1 s hs⟩
  refine ⟨⟨by omega, hfull, fun s hs => ?_, ⟨fun s hs => (hfull s hs).1, fun i a b ha hb => (chainB_iff _ W).1 hw2 i a b ha hb⟩⟩, hm2⟩
  have h5 := h4.2 s hs
  simp only [fit5, fit6, Bool.and_eq_true, List.all_eq_true, decide_eq_true_eq, MX] at h5
  refine ⟨by omega, by omega, by have := hm1 s hs; omega, fun k hk => ?_⟩
  have h7 := h5.2.2 k hk
  simp only [fit7, Bool.and_eq_true, decide_eq_true_eq, MX] at h7
  exact ⟨by omega, by omega⟩
theorem c_spanWell_t (χ : Chi) (h : Heap) (A : Nat → Prop) (hA : Low A h) (v : Value) (W : List SpanD) (n : Int) (hW : RSpans A h v W) (hq : mostB W n = true) :
    Cl Tryz.prog χ 39 #[v, .int .i64 n] h (fun r h' => r = .bool (mostB W n && wellB W) ∧ Keep [] h h') := by
  refine cl_intro Tryz.func39 rfl rfl rfl ?_
  have K : Keep [] h h := Keep.refl _ _
  refine rG <| rA rfl rfl <| rN <| rG <| rM rfl rfl <| rM rfl rfl <| rs_w (w_call (vs := [_, _]) ok_laws_spanMost rfl ⟨rfl, rfl, trivial⟩ (c_spanMost χ h A _ W n hW)) rfl ?_
  rintro _ h1 ⟨rfl, K1⟩
  have K := K.new0 K1; have Z1 := K1.1
  refine rM rfl rfl <| rs_gv rfl (lkb hq) (v_move rfl) rfl ?_
  refine rs_gw rfl (lkb hq) (w_call (vs := [_]) ok_spec_SpanWell rfl ⟨rfl, trivial⟩ (c_SpanWell χ _ A (hA.mono K.1) _ W (hW.stab (K.st hA)))) rfl ?_
  rintro _ h2 ⟨rfl, K2⟩
  have K := K.new0 K2; have Z2 := K2.1
  refine rs_v (v_pick_t (lkb hq) rfl) rfl ?_
  refine rA rfl rfl <| rN <| tr_ret <| q_ret (res_tmp rfl rfl) ?_
  exact ⟨by rw [hq]; rfl, K⟩
theorem c_spanWell_f (χ : Chi) (h : Heap) (A : Nat → Prop) (hA : Low A h) (v : Value) (W : List SpanD) (n : Int) (hW : RSpans A h v W) (hq : mostB W n = false) :
    Cl Tryz.prog χ 39 #[v, .int .i64 n] h (fun r h' => r = .bool (mostB W n && wellB W) ∧ Keep [] h h') := by
  refine cl_intro Tryz.func39 rfl rfl rfl ?_
  have K : Keep [] h h := Keep.refl _ _
  refine rG <| rA rfl rfl <| rN <| rG <| rM rfl rfl <| rM rfl rfl <| rs_w (w_call (vs := [_, _]) ok_laws_spanMost rfl ⟨rfl, rfl, trivial⟩ (c_spanMost χ h A _ W n hW)) rfl ?_
  rintro _ h1 ⟨rfl, K1⟩
  have K := K.new0 K1; have Z1 := K1.1
  refine rM rfl rfl ?_
  refine rs_gs rfl (lkb hq) rfl rfl ?_
  refine rs_gs rfl (lkb hq) rfl rfl ?_
  refine rs_v (v_pick_f (lkb hq) rfl) rfl ?_
  refine rA rfl rfl <| rN <| tr_ret <| q_ret (res_tmp rfl rfl) ?_
  exact ⟨by rw [hq]; rfl, K⟩
theorem c_spanWell (χ : Chi) (h : Heap) (A : Nat → Prop) (hA : Low A h) (v : Value) (W : List SpanD) (n : Int) (hW : RSpans A h v W) :
    Cl Tryz.prog χ 39 #[v, .int .i64 n] h (fun r h' => r = .bool (mostB W n && wellB W) ∧ Keep [] h h') := by
  rcases bsplit2 (mostB W n) with hq | hq
  · exact c_spanWell_t χ h A hA v W n hW hq
  · exact c_spanWell_f χ h A hA v W n hW hq
set_option maxHeartbeats 1000000
def All (h : Heap) : Nat → Prop := fun b => b < h.size
theorem all_low (h : Heap) : Low (All h) h := fun _ hb => hb
section
variable {h h' : Heap} {v : Value}
theorem all_st (K : Keep [] h h') : Stab (All h) h h' := K.st (all_low h)
theorem all_up (K : Keep [] h h') : ∀ b, All h b → All h' b := fun _ hb => Nat.lt_of_lt_of_le hb K.1
theorem RSpans.kk {W : List SpanD} (hr : RSpans (All h) h v W) (K : Keep [] h h') : RSpans (All h') h' v W := (RSpans.stab hr (all_st K)).mono (all_up K)
theorem RSteps.kk {W : List StepD} (hr : RSteps (All h) h v W) (K : Keep [] h h') : RSteps (All h') h' v W := (RSteps.stab hr (all_st K)).mono (all_up K)
theorem RAnss.kk {W : List AnsD} (hr : RAnss (All h) h v W) (K : Keep [] h h') : RAnss (All h') h' v W := (RAnss.stab hr (all_st K)).mono (all_up K)
theorem upA (K : Keep [] h h') : ∀ b, Up (All h) h h' b → All h' b := (all_low h).up K.1
theorem upN (K : Keep [] h h') : ∀ b, Up N0 h h' b → All h' b := (n0low h).up K.1
end
open Go.Tess Go.ChangeShapes Go.WideShapes Go.ChangeAt Go.RowKit
theorem take_open {α : Type} {n : Nat} {p : Nat → α → Prop} (hh : ∀ i, i < n → ∃ a, p i a) : ∃ xs : List α, xs.length = n ∧ ∀ (i : Nat) a, xs[i]? = some a → p i a := by
  induction n with
  | zero => exact ⟨[], rfl, fun i a h => by simp at h⟩
  | succ n ih =>
    obtain ⟨xs, hl, hx⟩ := ih fun i hi => hh i (by omega)
    obtain ⟨a, ha⟩ := hh n (by omega)
    refine ⟨xs ++ [a], by simp [hl], fun i b hb => ?_⟩
    by_cases hi : i < n
    · rw [List.getElem?_append_left (by omega)] at hb; exact hx i b hb
    · have := (List.getElem?_eq_some_iff.1 hb).1
      simp [hl] at this
      have e : i = n := by omega
      subst e
      rw [List.getElem?_append_right (by omega), hl] at hb
      simp at hb; subst hb; exact ha
section
variable {H : Type} {enc : TypeId × Value → H} {χ : Chi} {h : Heap} {d : Nat} {sp : Nat → Bool} {hd : Bool}
theorem sl_open {P : Program} {α : Type} {t e : TypeId} {sz : Nat} {R : List Value → α → Prop} (ht : P.underlying t = some (.slice e)) (hc : P.cellsOf e = sz) (h0 : 0 < sz)
    (hop : ∀ n cs x, DataW.trod enc P (mkw χ h d) 0 sp hd n e cs = some x → ∃ a, R cs a) {fuel : Nat} {v : Value} {x : DataW H × List MemPlace} (htr : DataW.trod enc P (mkw χ h d) 0 sp hd fuel t [v] = some x) :
    ∃ xs : List α, SlR h (All h) sz (fun h b o a => ∃ cs, CellsAt h b o cs ∧ R cs a) v xs := by
  rcases Deep.open_slice ht htr with ⟨hcs, _⟩ | ⟨a, len, cap, m, n, D, Pl, hcs, _, hl, hm, hmm, _, hel⟩
  · cases hcs; exact ⟨[], SlR.nil _ _ _ _⟩
  cases hcs
  have hlm : len ≤ m := by rw [hmm]; split <;> omega
  obtain ⟨xs, hxl, hx⟩ := take_open (α := α) (n := len) (p := fun i a' => ∃ cs', (mkw χ h d).cells? 0 (a.add (i * sz)) sz = some cs' ∧ R cs' a') fun i hi => by
    obtain ⟨cs', h1, h2⟩ := hel i (by omega)
    rw [hc] at h1
    obtain ⟨a', ha'⟩ := hop _ _ _ h2
    exact ⟨a', cs', h1, ha'⟩
  have hspot : 0 < len → ∃ b o, a = ⟨b, o, none⟩ := fun hpos => by
    obtain ⟨cs', h1, _⟩ := hel 0 (by omega)
    rw [hc] at h1
    obtain ⟨_, hlen, hcell⟩ := World.cells?_some h1
    have h2 := hcell 0 h0
    rw [List.getElem?_eq_getElem (by omega)] at h2
    have h3 := World.cell?_spot h2
    simp [Addr.add] at h3
    obtain ⟨b, o, q⟩ := a
    simp at h3; subst h3
    exact ⟨b, o, rfl⟩
  refine ⟨xs, by unfold maxLen at hm; omega, some a, cap, by rw [hxl], fun i x hi => ?_⟩
  have hlt := (List.getElem?_eq_some_iff.1 hi).1
  obtain ⟨b, o, rfl⟩ := hspot (by omega)
  obtain ⟨cs', h1, h2⟩ := hx i x hi
  obtain ⟨_, hlen, hcell⟩ := World.cells?_some h1
  have hcells : CellsAt h b (o + i * sz) cs' := fun j v hj => by
    have := hcell j (by have := (List.getElem?_eq_some_iff.1 hj).1; omega)
    rw [addr_add, addr_add, cell_mkw, hj] at this
    exact this
  refine ⟨b, o, rfl, ?_, cs', hcells, h2⟩
  have := hcells 0 cs'[0] (List.getElem?_eq_getElem (by omega))
  exact cellH_lt this
theorem field_open {P : Program} {w : World} {T : TypeId} {fs : Array Field} {n : Nat} {cs : List Value} {x : DataW H × List MemPlace} (ht : P.underlying T = some (.struct fs)) (hx : DataW.trod enc P w 0 sp hd n T cs = some x) (i : Nat) (ft off sz : Nat)
    (hf : (fs[i]?).map (fun f => (f.type, f.offset)) = some (ft, off)) (hsz : P.cellsOf ft = sz) : ∃ m y, DataW.trod enc P w 0 sp hd m ft ((cs.drop off).take sz) = some y := by
  obtain ⟨xs, m, _, _, _, hl, hfs⟩ := DataW.trod_struct ht hx
  cases hq : fs[i]? with
  | none => rw [hq] at hf; simp at hf
  | some f =>
    rw [hq] at hf
    simp only [Option.map_some, Option.some.injEq, Prod.mk.injEq] at hf
    have := hfs i f hq
    have hi : i < fs.size := (Array.getElem?_eq_some_iff.1 hq).1
    rw [List.getElem?_eq_getElem (by omega), hf.1, hf.2, hsz] at this
    exact ⟨m, _, this⟩
theorem struct_len {P : Program} {w : World} {T : TypeId} {fs : Array Field} {n sz : Nat} {cs : List Value} {x : DataW H × List MemPlace} (ht : P.underlying T = some (.struct fs)) (hx : DataW.trod enc P w 0 sp hd n T cs = some x) (hsz : P.cellsOf T = sz) : cs.length = sz := by
  obtain ⟨_, _, _, _, hl, _⟩ := DataW.trod_struct ht hx
  rw [hl, hsz]
theorem st_key : Tryz.prog.underlying 42 = some (.struct (Tryz.prog.fieldsOf 42)) := by kernel_rfl
theorem st_span : Tryz.prog.underlying 40 = some (.struct (Tryz.prog.fieldsOf 40)) := by kernel_rfl
end
theorem below_of {χ : Chi} {h h' : Heap} {d d' : Nat} (K : Keep [] h h') : Below h.size (mkw χ h d) (mkw χ h' d') := ⟨rfl, rfl, rfl, K.1, fun k hk => K.2 k hk (by simp)⟩
theorem laidOut : laidOutB Tryz.prog = true := by kernel_rfl
theorem trodAll_below {P : Program} (hl : laidOutB P = true) {H : Type} {enc : TypeId × Value → H} {W W' : World} (hb : Below W.heap.size W W') : ∀ (ts : List TypeId) (vs : List Value) (ds : List (DataW H)) (ps : List MemPlace),
    (ts.all fun t => P.readableRec t && decide (t < P.types.size)) = true → DataW.TrodAll enc P W 0 (fun _ => true) true ts vs ds ps → (∀ x, x ∈ ps → x.block < W.heap.size) →
    DataW.TrodAll enc P W' 0 (fun b => decide (b < W.heap.size)) true ts vs ds ps
  | [], vs, ds, ps, _, h, _ => by
    obtain ⟨rfl, rfl, rfl⟩ := trodAll_nil h
    exact trodAll_mk0
  | t :: ts, vs, ds, ps, hr, h, hlt => by
    obtain ⟨v, vs1, d, ds1, a, b, rfl, rfl, rfl, h1, h2⟩ := trodAll_cons h
    rw [List.all_cons, Bool.and_eq_true, Bool.and_eq_true] at hr
    exact ⟨a, b, Below.trod hl hr.1.1 (of_decide_eq_true hr.1.2) h1 hb (fun x hx => hlt x (List.mem_append_left _ hx)),
      trodAll_below hl hb ts vs1 ds1 b hr.2 h2 (fun x hx => hlt x (List.mem_append_right _ hx)), rfl⟩
theorem Tryz.own : ownKnob Tryz.prog.godebug = none := by kernel_rfl
theorem law_lift {H : Type} {enc : TypeId × Value → H} {os : Os} (started : os.Started) {f : FuncId} {fn : Func} {s : ChangeSpec} {conds : List PathCond} (noInit : Tryz.prog.inits.idxOf? f = none) (hfn : Tryz.prog.funcs[f]? = some fn)
    (witness : ∃ (w : World) (tape : Tape) (i : Input), w.os = os ∧ (w.forCall tape i).Shaped Tryz.prog ∧ i.vars = [] ∧ Input.okWide Tryz.prog (w.forCall tape i) .any w.heap.size f i ∧
      s.pre6 enc Tryz.prog fn conds false (w.forCall tape i).memory i.args ∧ Assume.holds {} Tryz.prog (lone (Frame.enter Tryz.prog f i.args .normal) [] (w.forCall tape i)))
    (hres : fn.resultTypes = #[4]) (hvars : s.vars = []) (hread : (fn.params.toList.all fun t => Tryz.prog.readableRec t && decide (t < Tryz.prog.types.size)) = true)
    (hs : ∀ ds : List (DataW H), ds.length = fn.params.toList.length → (s.fn H ds).results = [.lit (.bool true)] ∧ (s.fn H ds).args = ds ∧ (s.fn H ds).vars = [])
    (contract : ∀ (W : World) (args : Array Value) (ds : List (DataW H)) (ps : List MemPlace) (b0 : Nat), (∀ (j : Nat) t v, fn.params[j]? = some t → args[j]? = some v → Value.okWide Tryz.prog W .any b0 t v) →
      DataW.TrodAll enc Tryz.prog W 0 (fun _ => true) true fn.params.toList args.toList ds ps → Cl Tryz.prog ⟨W.tape, W.os, W.output⟩ f args W.heap (fun r h' => r = .bool true ∧ Keep [] W.heap h')) :
    ReturnsInHanded {} Tryz.checked os f .any (s.pre6 enc Tryz.prog fn conds false) (s.post enc Tryz.prog fn false true false false) := by
  refine returnsInHanded_of_change (C := Tryz.checked) Tryz.own started noInit hfn witness ?_
  intro W base args ds gs before hval hW _ _
  have hW' := hW
  obtain ⟨p, q, hA, hV, rfl, _, _⟩ := hW
  have hlen : ∀ (ts : List TypeId) (vs : List Value) (ds : List (DataW H)) (ps : List MemPlace), DataW.TrodAll enc Tryz.prog W 0 (fun _ => true) true ts vs ds ps → ds.length = ts.length := by
    intro ts
    induction ts with
    | nil => intro vs ds ps h; obtain ⟨_, rfl, _⟩ := trodAll_nil h; rfl
    | cons t ts ih => intro vs ds ps h; obtain ⟨v, vs1, d, ds1, a, b, rfl, rfl, rfl, h1, h2⟩ := trodAll_cons h; simp [ih _ _ _ h2]
  have hV0 : gs = [] ∧ q = [] := by
    rw [hvars] at hV
    cases gs with
    | nil => exact ⟨rfl, hV⟩
    | cons g gs => exact hV.elim
  obtain ⟨rfl, rfl⟩ := hV0
  obtain ⟨e1, e2, e3⟩ := hs ds (hlen _ _ _ _ hA)
  refine (contract W args ds p base hval hA W.drawn).mono fun e W' hW2 => ?_
  obtain ⟨v, h', d', rfl, rfl, rfl, K⟩ := hW2
  have hb0 : Below W.heap.size (mkw ⟨W.tape, W.os, W.output⟩ W.heap W.drawn) (mkw ⟨W.tape, W.os, W.output⟩ h' d') := below_of K
  have hb : Below W.heap.size W (mkw ⟨W.tape, W.os, W.output⟩ h' d') := hb0
  have hlt : ∀ x ∈ p, x.block < W.heap.size := fun x hx => by simpa using hW'.lt x (by simpa using hx)
  refine ⟨_, rfl, ds, [], p ++ [], [], p, [], hW', ?_, ?_, ?_, hb.frame _, fun h => by cases h⟩
  · rw [List.append_nil, e1, hres]
    exact trodAll_mk1 (shut_bool (show Tryz.prog.underlying 4 = some .bool from u_bool) _)
  · rw [List.append_nil, e2]
    exact trodAll_below laidOut hb _ _ _ _ hread hA hlt
  · rw [List.append_nil, e3, hvars]
    rfl
set_option maxHeartbeats 1000000
def stB (st : Option ByteArray) (s : SpanD) : Bool := match st with | none => false | some k => sle s.e k
def enB (en : Option ByteArray) (s : SpanD) : Bool := match en with | none => false | some k => slt k s.s
def cutLo (lo : ByteArray) (s : SpanD) : ByteArray := if slt s.s lo then lo else s.s
def cutUp (up : ByteArray) (s : SpanD) : ByteArray := if slt up s.e then up else s.e
def ffT (st en : Option ByteArray) (lo up : ByteArray) (s : SpanD) : Option SpanD :=
  if stB st s then none else if enB en s then none else if slt (cutLo lo s) (cutUp up s) then some ⟨cutLo lo s, cutUp up s, s.ks⟩ else none
def PBnd (G : Nat → Prop) (h : Heap) (p : Option Addr) (k : Option ByteArray) : Prop := match k with
  | none => p = none
  | some k => ∃ b o kv tr, p = some ⟨b, o, none⟩ ∧ G b ∧ CellsAt h b o [kv, tr] ∧ RBytes G h kv k
structure EnvT (bst bcm ben blo bup bpn : Nat) (st en : Option ByteArray) (lo up : ByteArray) (G : Nat → Prop) (h : Heap) : Prop where
  low : Low G h
  g : G bst ∧ G bcm ∧ G ben ∧ G blo ∧ G bup ∧ G bpn
  bs : ∃ p, Blk h bst [.pointer p] 141 ∧ PBnd G h p st
  bc : Blk h bcm [cmpF] 111
  be : ∃ p, Blk h ben [.pointer p] 141 ∧ PBnd G h p en
  bl : ∃ v, Blk h blo [v] 82 ∧ RBytes G h v lo
  bu : ∃ v, Blk h bup [v] 82 ∧ RBytes G h v up
  bp : Blk h bpn [.bool false] 4
theorem PBnd.stab {G : Nat → Prop} {h h' : Heap} {p : Option Addr} {k : Option ByteArray} (hp : PBnd G h p k) (s : Stab G h h') : PBnd G h' p k := by
  cases k with
  | none => exact hp
  | some k =>
    obtain ⟨b, o, kv, tr, e, h1, h2, h3⟩ := hp
    exact ⟨b, o, kv, tr, e, h1, s.cells h1 h2, h3.stab s⟩
section
variable {bst bcm ben blo bup bpn : Nat} {st en : Option ByteArray} {lo up : ByteArray} {G : Nat → Prop} {h h' : Heap}
theorem EnvT.stab (hE : EnvT bst bcm ben blo bup bpn st en lo up G h) (s : Stab G h h') (hz : h.size ≤ h'.size) : EnvT bst bcm ben blo bup bpn st en lo up G h' where
  low := hE.low.mono hz
  g := hE.g
  bs := by obtain ⟨p, h1, h2⟩ := hE.bs; exact ⟨p, (s _ hE.g.1).trans h1, h2.stab s⟩
  bc := (s _ hE.g.2.1).trans hE.bc
  be := by obtain ⟨p, h1, h2⟩ := hE.be; exact ⟨p, (s _ hE.g.2.2.1).trans h1, h2.stab s⟩
  bl := by obtain ⟨p, h1, h2⟩ := hE.bl; exact ⟨p, (s _ hE.g.2.2.2.1).trans h1, h2.stab s⟩
  bu := by obtain ⟨p, h1, h2⟩ := hE.bu; exact ⟨p, (s _ hE.g.2.2.2.2.1).trans h1, h2.stab s⟩
  bp := (s _ hE.g.2.2.2.2.2).trans hE.bp
end
theorem cPKey_one (G : Nat → Prop) (h : Heap) (c : List Value) (k : KeyD) (hc : cPKey G h c k) : c.all (fun u => u.oneCell') = true := by
  obtain ⟨sv, vv, rfl, h1, h2⟩ := hc
  obtain ⟨_, _, rfl⟩ := h1.form2
  obtain ⟨_, _, rfl⟩ := h2.form2
  rfl
theorem c_Empty (χ : Chi) (h : Heap) (b o : Nat) (a : Option Addr) (n cc : Nat) (hc : cellH h b (o + 2) = some (.slice a n cc)) :
    Cl Tryz.prog χ 88 #[.pointer (some ⟨b, o, none⟩)] h (fun r h' => r = .bool (decide ((n : Int) = 0)) ∧ h' = h) := by
  refine cl_intro Tryz.func88 rfl rfl rfl ?_
  have K : Keep [] h h := Keep.refl _ _
  refine rG <| rA rfl rfl <| rN <| rG <| rM rfl rfl <| rs_v (v_peq u_p_keyspan_Span rfl rfl) rfl ?_
  refine rM rfl rfl <| rs_gv rfl (rfl) (v_move rfl) rfl ?_
  refine rs_gv rfl (rfl) (v_nilCheck_ptr rfl) rfl ?_
  refine rs_gv rfl (rfl) (v_fieldAddr fa_keyspan_Span_2 rfl) rfl ?_
  refine rs_gv rfl (rfl) (v_load one_sl_keyspan_Key rfl (by exact hc)) rfl ?_
  refine rs_gv rfl (rfl) (v_len u_sl_keyspan_Key rfl) rfl ?_
  refine rs_gv rfl (rfl) (v_eq rfl rfl) rfl ?_
  refine rs_v (v_pick_f rfl rfl) rfl ?_
  refine rA rfl rfl <| rN <| tr_ret <| q_ret (res_tmp rfl rfl) ?_
  exact ⟨rfl, rfl⟩
theorem c_fnT (χ : Chi) (h : Heap) (Fin : Nat → Prop) (hlow : Low Fin h) (s : SpanD) (bi oi : Nat) (hin : PSpan Fin h bi oi s) (hbi : Fin bi) (c : Nat) (x0 x1 x2 sv0 ev0 kv0 : Value) (kk : Int) (Bc : Blk h c [x0, x1, x2, sv0, ev0, kv0, .int .i8 0] 228)
    (hcF : ¬ Fin c) (n0 : Nat) (xs0 : List Value) (O : Own h 0 194 3 kv0 n0 xs0) (bst bcm ben blo bup bpn : Nat) (st en : Option ByteArray) (lo up : ByteArray) (G : Nat → Prop) (hE : EnvT bst bcm ben blo bup bpn st en lo up G h)
    (hob0 : ∀ x, x ∈ kv0.ownBlock.toList → x ≠ c ∧ ¬ Fin x ∧ ¬ G x) (hcG : ¬ G c) (hn : s.ks.length ≤ 100000) (hne : s.ks ≠ []) (hen : en ≠ some s.s) :
    Cl Tryz.prog χ 100 #[.pointer (some ⟨bi, oi, none⟩), .pointer (some ⟨c, 3, none⟩), .pointer (some ⟨bst, 0, none⟩), .pointer (some ⟨bcm, 0, none⟩), .pointer (some ⟨ben, 0, none⟩), .pointer (some ⟨blo, 0, none⟩), .pointer (some ⟨bup, 0, none⟩), .pointer (some ⟨bpn, 0, none⟩)] h (FnPost (ffT st en lo up) s (fun b => Fin b ∨ G b) c x0 x1 x2 kk kv0.ownBlock.toList h) := by
  obtain ⟨a0, c0, rfl⟩ := Own.form3 O
  obtain ⟨sv1, ev1, kv1, kk1, hcell, r1, r2, r3⟩ := hin
  obtain ⟨as1, cs1, rfl⟩ := r1.form2
  obtain ⟨ae1, ce1, rfl⟩ := r2.form2
  obtain ⟨hlen, a, cc, rfl, hx⟩ := r3.form
  rcases hx with hx | ⟨b, o, rfl, hAb, hR⟩
  · exact absurd hx hne
  have hbc : bi ≠ c := fun e => hcF (e ▸ hbi)
  have hFX : ∀ b, Fin b → b ∉ (c :: (Value.slice a0 n0 c0).ownBlock.toList) := fun b hb hm => by
    rcases List.mem_cons.1 hm with e | e
    · subst e; exact hcF hb
    · exact (hob0 b e).2.1 hb
  have hGX : ∀ b, G b → b ∉ (c :: (Value.slice a0 n0 c0).ownBlock.toList) := fun b hb hm => by
    rcases List.mem_cons.1 hm with e | e
    · subst e; exact hcG hb
    · exact (hob0 b e).2.2 hb
  have hclt := Bc.lt
  refine cl_intro Tryz.func100 rfl rfl rfl ?_
  have K : Keep (c :: (Value.slice a0 n0 c0).ownBlock.toList) h h := Keep.refl _ _
  refine rG <| rA rfl rfl <| rN ?_
  refine tr_seq ?_
  refine tr_draw [(true, 13), (false, 3)] _ (by kernel_rfl) (by kernel_rfl) (by kernel_rfl) ?_
  refine rx_any (KeepB c [x0, x1, x2, .slice as1 s.s.data.toList.length cs1, ev0, .slice a0 n0 c0, .int .i8 0] 228) (keepB_pre _ _ _) ?_
  refine rm_v (keepB_pre _ _ _) (fun h' hk => v_move rfl) ?_
  refine rm_v (keepB_pre _ _ _) (fun h' hk => v_move rfl) ?_
  refine rm_v (keepB_pre _ _ _) (fun h' hk => v_move rfl) ?_
  refine rm_v (keepB_pre _ _ _) (fun h' hk => v_nilCheck_ptr rfl) ?_
  refine rm_v (keepB_pre _ _ _) (fun h' hk => v_fieldAddr fa_keyspan_Span_0 rfl) ?_
  refine rm_v (keepB_pre _ _ _) (fun h' hk => v_load one_sl_uint8 rfl ((hk.1.cells (by simpa using hbc) hcell).at 0 rfl)) ?_
  refine rm_v (keepB_pre _ _ _) (fun h' hk => v_move rfl) ?_
  refine rm_v (keepB_pre _ _ _) (fun h' hk => v_nilCheck_ptr rfl) ?_
  refine rm_v (keepB_pre _ _ _) (fun h' hk => v_fieldAddr fa_keyspan_Span_1 rfl) ?_
  refine rm_v (keepB_pre _ _ _) (fun h' hk => v_load one_sl_uint8 rfl ((hk.1.cells (by simpa using hbc) hcell).at 1 rfl)) ?_
  refine rm_v (keepB_pre _ _ _) (fun h' hk => v_nilCheck_ptr rfl) ?_
  refine rm_v (keepB_pre _ _ _) (fun h' hk => v_fieldAddr fa_keyspan_Span_0 rfl) ?_
  refine rm_w0 _ keepB_stab (fun h' hk => w_putB siz_sl_uint8 rfl rfl rfl rfl Bc hk rfl rfl rfl rfl) ?_
  refine rm_end ?_; intro ha Ka; simp only [endM, hypF, ofE, argE, List.nil_append]; intro Bc
  have K := K.new1 Ka.1 (by left; simp); have Za := Ka.1.1
  have O := O.keep2 Ka.1 (fun x hx hm => (hob0 x hx).1 (by simpa using hm))
  refine rx_seq ?_
  refine rC rfl rfl <| rF fa_keyspan_Span_1 rfl rfl <| rs_w0 (w_put siz_sl_uint8 rfl rfl rfl rfl Bc rfl) ?_
  rintro _ h1 ⟨B1, K1⟩
  have Bc := B1; have K := K.new1 K1 (by left; simp); have Z1 := K1.1
  have O := O.keep2 K1 (fun x hx hm => (hob0 x hx).1 (by simpa using hm))
  refine rs_nil ?_
  refine q_con ?_
  refine rx_nil ?_
  refine q_thn ?_
  refine tr_seq ?_
  have O0 := Own.cut0 O
  have hcell1 := K.cells (hFX _ hbi) hcell
  obtain ⟨news, hnc, hnr⟩ := rows_of (sz := 3) (R := cPKey Fin h) (fun i x hi => by
    obtain ⟨sv9, vv9, g1, g2, g3⟩ := hR i x hi
    exact ⟨_, rfl, K.cells (hFX _ hAb) g1, sv9, vv9, rfl, g2, g3⟩) (by omega)
  have hn1 := hnr.all1 (fun c k hc => cPKey_one _ _ c k hc)
  have hnl := hnr.len
  refine tr_draw [(true, 11), (false, 3)] _ (by kernel_rfl) (by kernel_rfl) (by kernel_rfl) ?_
  refine rx_one 10 ?_
  refine re_a rfl (fun h' => v_move rfl) ?_
  refine re_v rfl (by kernel_rfl) (v_move rfl) ?_
  refine re_v rfl (by kernel_rfl) (v_nilCheck_ptr rfl) ?_
  refine re_v rfl (by kernel_rfl) (v_fieldAddr fa_keyspan_Span_2 rfl) ?_
  refine re_v rfl (by kernel_rfl) (v_load one_sl_keyspan_Key rfl (Bc.cell _ rfl)) ?_
  refine re_v rfl (by kernel_rfl) (v_slice_h u_sl_keyspan_Key siz_keyspan_Key (i := 0) rfl rfl rfl (by omega)) ?_
  refine re_v rfl (by kernel_rfl) (v_move rfl) ?_
  refine re_v rfl (by kernel_rfl) (v_nilCheck_ptr rfl) ?_
  refine re_v rfl (by kernel_rfl) (v_fieldAddr fa_keyspan_Span_2 rfl) ?_
  refine re_v rfl (by kernel_rfl) (v_load one_sl_keyspan_Key rfl (hcell1.at 2 rfl)) ?_
  refine re_w _ rfl (w_appN u_sl_keyspan_Key info_keyspan_Key rfl rfl rfl O0 rfl hnl hnc hn1 (by omega) (by omega) (by omega)) ?_
  refine re_end ?_; intro hb _; simp only [endM, hypF, ofE, argE, List.nil_append]; rintro v38 ⟨O, Kb, Fb⟩
  obtain ⟨a9, c9, rfl⟩ := Own.form3 O
  rw [own_block0 (a := a0) (m := 0) (m2 := n0) (c2 := c0)] at Kb Fb
  have hclt1 := Bc.lt
  have Bc := Kb.blk (fun hm => (hob0 c hm).1 rfl) Bc
  have hK1 := K.1
  have K := K.newX Kb (fun x hm => .inl (List.mem_cons_of_mem _ hm)); have Zb := Kb.1
  have hfc : ∀ x, x ∈ (Value.slice a9 (0 + s.ks.length) c9).ownBlock.toList → (x ∈ (Value.slice a0 n0 c0).ownBlock.toList ∨ h.size ≤ x) ∧ x ≠ c := fun x hx => by
    rcases Fb with e | e
    · rw [e] at hx; exact ⟨.inl hx, (hob0 x hx).1⟩
    · rw [e] at hx; simp at hx; exact ⟨.inr (by omega), by omega⟩
  refine rx_seq ?_
  refine rC rfl rfl <| rF fa_keyspan_Span_2 rfl rfl <| rs_w0 (w_put siz_sl_keyspan_Key rfl rfl rfl rfl Bc rfl) ?_
  rintro _ h2 ⟨B2, K2⟩
  have Bc := B2; have K := K.new1 K2 (by left; simp); have Z2 := K2.1
  have O := O.keep2 K2 (fun x hx hm => (hfc x hx).2 (by simpa using hm))
  rw [Nat.zero_add s.ks.length] at O hfc Bc
  have hSF : Stab Fin h h2 := K.stab fun b hb => ⟨hlow b hb, hFX b hb⟩
  have hFc : ∀ b, Fin b → b < (h2).size ∧ b ∉ [c] := fun b hb => ⟨Nat.lt_of_lt_of_le (hlow b hb) K.1, fun hm => hcF (by rw [List.mem_singleton] at hm; rw [← hm]; exact hb)⟩
  have hGc : ∀ b, G b → b < (h2).size ∧ b ∉ [c] := fun b hb => ⟨Nat.lt_of_lt_of_le (hE.low b hb) K.1, fun hm => hcG (by rw [List.mem_singleton] at hm; rw [← hm]; exact hb)⟩
  have hFGc : ∀ b, (Fin b ∨ G b) → b < (h2).size ∧ b ∉ [c] := fun b hb => hb.elim (hFc b) (hGc b)
  have hE2 := hE.stab (K.stab fun b hb => ⟨hE.low b hb, hGX b hb⟩) K.1
  have hg := hE.g
  obtain ⟨ps, BS, hps⟩ := hE2.bs
  obtain ⟨pe, BE, hpe⟩ := hE2.be
  obtain ⟨vl, BL, hvl⟩ := hE2.bl
  obtain ⟨vu, BU, hvu⟩ := hE2.bu
  have BC := hE2.bc
  have BP := hE2.bp
  obtain ⟨al, cl, rfl⟩ := hvl.form2
  obtain ⟨au, cu, rfl⟩ := hvu.form2
  have hcell2 := K.cells (hFX _ hbi) hcell
  have q1 := r1.stab hSF
  have q2 := r2.stab hSF
  refine rs_nil ?_
  refine q_con ?_
  refine rx_nil ?_
  refine q_thn ?_
  refine tr_seq ?_
  refine tr_cut (fun E h' => h2 = h' ∧ E = [(0, .pointer (some ⟨bi, oi, none⟩)), (1, .pointer (some ⟨c, 3, none⟩)), (2, .pointer (some ⟨bst, 0, none⟩)), (3, .pointer (some ⟨bcm, 0, none⟩)), (4, .pointer (some ⟨ben, 0, none⟩)), (5, .pointer (some ⟨blo, 0, none⟩)), (6, .pointer (some ⟨bup, 0, none⟩)), (7, .pointer (some ⟨bpn, 0, none⟩)), (55, .bool (stB st s))]) ?_ ?_
  ·
    rcases st with _ | k
    · have hps0 : ps = none := hps
      subst hps0
      refine tr_quiet (by kernel_rfl) (by kernel_rfl) ?_
      refine rq_v (v_load one_p_base_InternalKey rfl (by exact BS.cell _ rfl)) ?_
      refine rq_v (v_pne u_p_base_InternalKey rfl rfl) ?_
      refine rq_v (v_move rfl) ?_
      refine rm_gs same_pre rfl rfl rfl ?_
      refine rm_gs same_pre rfl rfl rfl ?_
      refine rm_gs same_pre rfl rfl rfl ?_
      refine rm_gs same_pre rfl rfl rfl ?_
      refine rm_gs same_pre rfl rfl rfl ?_
      refine rm_gs same_pre rfl rfl rfl ?_
      refine rm_gs same_pre rfl rfl rfl ?_
      refine rm_gs same_pre rfl rfl rfl ?_
      refine rm_gs same_pre rfl rfl rfl ?_
      refine rm_gs same_pre rfl rfl rfl ?_
      refine rm_gs same_pre rfl rfl rfl ?_
      refine rq_v (v_pick_f rfl rfl) ?_
      refine rm_end ?_; simp only [endM, hypF, ofE, argE]
      exact q_cut [(0, _), (1, _), (2, _), (3, _), (4, _), (5, _), (6, _), (7, _), (55, _)] ⟨rfl, rfl, rfl, rfl, rfl, rfl, rfl, rfl, rfl, trivial⟩ ⟨rfl, rfl⟩
    · obtain ⟨bk, ok, kvk, trk, rfl, hgk, hck, hrk⟩ := hps
      refine tr_quiet (by kernel_rfl) (by kernel_rfl) ?_
      refine rq_v (v_load one_p_base_InternalKey rfl (by exact BS.cell _ rfl)) ?_
      refine rq_v (v_pne u_p_base_InternalKey rfl rfl) ?_
      refine rq_v (v_move rfl) ?_
      refine rq_gv rfl rfl (v_load one_base_Compare rfl (by exact BC.cell _ rfl)) ?_
      refine rq_gv rfl rfl (v_move rfl) ?_
      refine rq_gv rfl rfl (v_nilCheck_ptr rfl) ?_
      refine rq_gv rfl rfl (v_fieldAddr fa_keyspan_Span_1 rfl) ?_
      refine rq_gv rfl rfl (v_load one_sl_uint8 rfl (by exact hcell2.at 1 rfl)) ?_
      refine rq_gv rfl rfl (v_load one_p_base_InternalKey rfl (by exact BS.cell _ rfl)) ?_
      refine rq_gv rfl rfl (v_nilCheck_ptr rfl) ?_
      refine rq_gv rfl rfl (v_fieldAddr fa_base_InternalKey_0 rfl) ?_
      refine rq_gv rfl rfl (v_load one_sl_uint8 rfl (by exact hck.at 0 rfl)) ?_
      refine rq_gw rfl rfl (w_callv (first := []) (cap := []) (vs := [_, _]) ok_bytes_Compare rfl ⟨rfl, rfl, trivial⟩ (c_Compare χ _ _ _ s.e k (RBytes.by q2) (RBytes.by hrk))) ?_
      refine rq_gv rfl rfl (v_le rfl rfl) ?_
      refine rq_v (v_pick_t rfl rfl) ?_
      refine rm_end ?_; simp only [endM, hypF, ofE, argE]
      refine q_cut [(0, _), (1, _), (2, _), (3, _), (4, _), (5, _), (6, _), (7, _), (55, _)] ⟨rfl, rfl, rfl, rfl, rfl, rfl, rfl, rfl, rfl, trivial⟩ ⟨rfl, ?_⟩
      rw [show stB (some k) s = decide (cmpB s.e k ≤ 0) from sle_cmp _ _]
  rintro E h9 ⟨hh, rfl⟩
  subst hh
  refine tr_if rfl (fun hif => ?_) (fun hif => ?_)
  · -- yes
    skip
    refine rG <| rA rfl rfl <| rN <| tr_ret <| q_thn_ret <| q_ret (res_tmp rfl rfl) ?_
    have hnone : ffT st en lo up s = none := by simp [ffT, hif]
    exact ⟨by rw [hnone]; rfl, _, _, _, _, _, Bc, O, K, hfc, fun s' hs' => by rw [hnone] at hs'; cases hs'⟩
  -- no
  have hst0 := hif
  refine tr_skip ?_
  refine q_thn ?_
  refine tr_cut (fun E h' => h2 = h' ∧ enB en s = false ∧ E = [(0, .pointer (some ⟨bi, oi, none⟩)), (1, .pointer (some ⟨c, 3, none⟩)), (2, .pointer (some ⟨bst, 0, none⟩)), (3, .pointer (some ⟨bcm, 0, none⟩)), (4, .pointer (some ⟨ben, 0, none⟩)), (5, .pointer (some ⟨blo, 0, none⟩)), (6, .pointer (some ⟨bup, 0, none⟩)), (7, .pointer (some ⟨bpn, 0, none⟩))]) ?_ ?_
  ·
    refine rG <| rs_v (v_load one_p_base_InternalKey rfl (by exact BE.cell _ rfl)) rfl ?_
    refine rs_v (v_pne u_p_base_InternalKey rfl rfl) rfl ?_
    refine rN ?_
    refine tr_if rfl (fun hif => ?_) (fun hif => ?_)
    · -- yes
      rcases en with _ | ke
      · have hpe0 : pe = none := hpe
        subst hpe0; cases hif
      obtain ⟨bk, ok, kvk, trk, rfl, hgk, hck, hrk⟩ := hpe
      refine tr_seq ?_
      refine tr_quiet (by kernel_rfl) (by kernel_rfl) ?_
      refine rq_v (v_load one_base_Compare rfl (by exact BC.cell _ rfl)) ?_
      refine rq_v (v_move rfl) <| rq_v (v_nilCheck_ptr rfl) <| rq_v (v_fieldAddr fa_keyspan_Span_0 rfl) <| rq_v (v_load one_sl_uint8 rfl (by exact hcell2.at 0 rfl)) ?_
      refine rq_v (v_load one_p_base_InternalKey rfl (by exact BE.cell _ rfl)) ?_
      refine rq_v (v_nilCheck_ptr rfl) <| rq_v (v_fieldAddr fa_base_InternalKey_0 rfl) <| rq_v (v_load one_sl_uint8 rfl (by exact hck.at 0 rfl)) ?_
      refine rq_w (w_callv (first := []) (cap := []) (vs := [_, _]) ok_bytes_Compare rfl ⟨rfl, rfl, trivial⟩ (c_Compare χ _ _ _ s.s ke (RBytes.by q1) (RBytes.by hrk))) ?_
      refine rq_v (v_assign rfl) ?_
      refine rm_end ?_; simp only [endM, hypF, ofE, argE]
      refine q_thn ?_
      refine tr_block <| rG <| rM rfl rfl <| rs_v (v_gt rfl rfl) rfl ?_
      refine rA rfl rfl <| rN ?_
      refine tr_if rfl (fun hif => ?_) (fun hif => ?_)
      · -- yes
        have h9 : enB (some ke) s = true := by
          simp only [enB]
          rw [slt_cmp, cmpB_anti s.s ke]
          have := of_decide_eq_true hif
          simp; omega
        refine rG <| rA rfl rfl <| rN <| tr_ret <| q_blk_ret ?_
        refine q_cut_ret ?_
        refine q_ret (res_tmp rfl rfl) ?_
        have hnone : ffT st (some ke) lo up s = none := by simp [ffT, h9]
        exact ⟨by rw [hnone]; rfl, _, _, _, _, _, Bc, O, K, hfc, fun s' hs' => by rw [hnone] at hs'; cases hs'⟩
      -- no
      have hgt := hif
      have hne0 : ¬ cmpB s.s ke = 0 := fun e => hen (by rw [show s.s = ke from seq'_eq.1 (by rw [seq_cmp]; exact decide_eq_true e)])
      refine rG <| rM rfl rfl <| rs_v (v_eq rfl rfl) rfl ?_
      refine rA rfl rfl <| rN <| tr_if_f (lkb (decide_eq_false hne0)) ?_
      refine tr_skip <| q_blk_n ?_
      exact q_cut [(0, _), (1, _), (2, _), (3, _), (4, _), (5, _), (6, _), (7, _)] ⟨rfl, rfl, rfl, rfl, rfl, rfl, rfl, rfl, trivial⟩ ⟨rfl, by have := of_decide_eq_false hgt; simp only [enB]; rw [slt_cmp, cmpB_anti s.s ke]; simp; omega, rfl⟩
    -- no
    rcases en with _ | ke
    rotate_left
    · obtain ⟨bk, ok, kvk, trk, rfl, hgk, hck, hrk⟩ := hpe
      cases hif
    refine tr_skip ?_
    exact q_cut [(0, _), (1, _), (2, _), (3, _), (4, _), (5, _), (6, _), (7, _)] ⟨rfl, rfl, rfl, rfl, rfl, rfl, rfl, rfl, trivial⟩ ⟨rfl, rfl, rfl⟩
  rintro E h9 ⟨hh, hen0, rfl⟩
  subst hh
  refine rG <| rA rfl rfl <| rN ?_
  refine tr_cut (fun E h' => ∃ sv sn sc, E = [(0, .pointer (some ⟨bi, oi, none⟩)), (1, .pointer (some ⟨c, 3, none⟩)), (2, .pointer (some ⟨bst, 0, none⟩)), (3, .pointer (some ⟨bcm, 0, none⟩)), (4, .pointer (some ⟨ben, 0, none⟩)), (5, .pointer (some ⟨blo, 0, none⟩)), (6, .pointer (some ⟨bup, 0, none⟩)), (7, .pointer (some ⟨bpn, 0, none⟩)), (13, .bool false)] ∧ Blk h' c [x0, x1, x2, .slice sv sn sc, .slice ae1 s.e.data.toList.length ce1, .slice a9 s.ks.length c9, .int .i8 0] 228 ∧ Keep (c :: (Value.slice a0 n0 c0).ownBlock.toList) h h' ∧ Keep [c] h2 h' ∧ RBytes (fun b => Fin b ∨ G b) h2 (.slice sv sn sc) (cutLo lo s)) ?_ ?_
  ·
    refine tr_seq ?_
    refine tr_quiet (by kernel_rfl) (by kernel_rfl) ?_
    refine rq_v (v_load one_base_Compare rfl (by exact BC.cell _ rfl)) ?_
    refine rq_v (v_move rfl) <| rq_v (v_nilCheck_ptr rfl) <| rq_v (v_fieldAddr fa_keyspan_Span_0 rfl) <| rq_v (v_load one_sl_uint8 rfl (by exact hcell2.at 0 rfl)) ?_
    refine rq_v (v_load one_sl_uint8 rfl (by exact BL.cell _ rfl)) ?_
    refine rq_w (w_callv (first := []) (cap := []) (vs := [_, _]) ok_bytes_Compare rfl ⟨rfl, rfl, trivial⟩ (c_Compare χ _ _ _ s.s lo (RBytes.by q1) (RBytes.by hvl))) ?_
    refine rq_v (v_lt rfl rfl) ?_
    refine rm_end ?_; simp only [endM, hypF, ofE, argE]
    refine q_thn ?_
    refine tr_if rfl (fun hif => ?_) (fun hif => ?_)
    · -- yes
      have hlo : slt s.s lo = true := by rw [slt_cmp]; exact hif
      refine tr_reg ?_
      refine rM rfl rfl <| rs_v (v_load one_sl_uint8 rfl (by exact BL.cell _ rfl)) rfl ?_
      refine rC rfl rfl <| rF fa_keyspan_Span_0 rfl rfl <| rs_w0 (w_put siz_sl_uint8 rfl rfl rfl rfl Bc rfl) ?_
      rintro _ h5 ⟨B5, K5⟩
      have Bc := B5; have K := K.new1 K5 (by first | (right; omega) | (left; simp; done)); have Z5 := K5.1
      refine rs_nil ?_
      exact q_cut [(0, _), (1, _), (2, _), (3, _), (4, _), (5, _), (6, _), (7, _), (13, _)] ⟨rfl, rfl, rfl, rfl, rfl, rfl, rfl, rfl, rfl, trivial⟩ ⟨_, _, _, rfl, Bc, K, K5, by rw [show cutLo lo s = lo from if_pos hlo]; exact hvl.mono (fun b hb => .inr hb)⟩
    -- no
    have hlo : ¬ slt s.s lo = true := by rw [slt_cmp, hif]; decide
    refine tr_skip ?_
    exact q_cut [(0, _), (1, _), (2, _), (3, _), (4, _), (5, _), (6, _), (7, _), (13, _)] ⟨rfl, rfl, rfl, rfl, rfl, rfl, rfl, rfl, rfl, trivial⟩ ⟨_, _, _, rfl, Bc, K, Keep.refl _ _, by rw [show cutLo lo s = s.s from if_neg hlo]; exact q1.mono (fun b hb => .inl hb)⟩
  rintro E h17 ⟨sv, sn, sc, rfl, Bc, K, K2, hs1⟩
  have Z17 := K2.1
  have BC := K2.blk (fun hm => hcG (by rw [List.mem_singleton] at hm; rw [← hm]; exact hg.2.1)) BC
  have BU := K2.blk (fun hm => hcG (by rw [List.mem_singleton] at hm; rw [← hm]; exact hg.2.2.2.2.1)) BU
  have BP := K2.blk (fun hm => hcG (by rw [List.mem_singleton] at hm; rw [← hm]; exact hg.2.2.2.2.2)) BP
  have hcell2 := K2.cells (by simpa using hbc) hcell2
  have q2b := q2.stab (K2.stab hFc)
  have hvu2 := hvu.stab (K2.stab hGc)
  refine tr_cut (fun E h' => ∃ tb ev en' ec, E = [(0, .pointer (some ⟨bi, oi, none⟩)), (1, .pointer (some ⟨c, 3, none⟩)), (2, .pointer (some ⟨bst, 0, none⟩)), (3, .pointer (some ⟨bcm, 0, none⟩)), (4, .pointer (some ⟨ben, 0, none⟩)), (5, .pointer (some ⟨blo, 0, none⟩)), (6, .pointer (some ⟨bup, 0, none⟩)), (7, .pointer (some ⟨bpn, 0, none⟩)), (13, .bool tb)] ∧ Blk h' c [x0, x1, x2, .slice sv sn sc, .slice ev en' ec, .slice a9 s.ks.length c9, .int .i8 0] 228 ∧ Keep (c :: (Value.slice a0 n0 c0).ownBlock.toList) h h' ∧ Keep [c] h2 h' ∧ RBytes (fun b => Fin b ∨ G b) h2 (.slice ev en' ec) (cutUp up s)) ?_ ?_
  ·
    refine tr_seq ?_
    refine tr_quiet (by kernel_rfl) (by kernel_rfl) ?_
    refine rq_v (v_load one_base_Compare rfl (by exact BC.cell _ rfl)) ?_
    refine rq_v (v_move rfl) <| rq_v (v_nilCheck_ptr rfl) <| rq_v (v_fieldAddr fa_keyspan_Span_1 rfl) <| rq_v (v_load one_sl_uint8 rfl (by exact hcell2.at 1 rfl)) ?_
    refine rq_v (v_load one_sl_uint8 rfl (by exact BU.cell _ rfl)) ?_
    refine rq_w (w_callv (first := []) (cap := []) (vs := [_, _]) ok_bytes_Compare rfl ⟨rfl, rfl, trivial⟩ (c_Compare χ _ _ _ s.e up (RBytes.by q2b) (RBytes.by hvu2))) ?_
    refine rq_v (v_gt rfl rfl) ?_
    refine rm_end ?_; simp only [endM, hypF, ofE, argE]
    refine q_thn ?_
    refine tr_if rfl (fun hif => ?_) (fun hif => ?_)
    · -- yes
      have hup : slt up s.e = true := by rw [slt_cmp, cmpB_anti s.e up]; exact decide_eq_true (by have := of_decide_eq_true hif; omega)
      refine rG <| rA rfl rfl <| rN ?_
      refine tr_reg ?_
      refine rM rfl rfl <| rs_v (v_load one_sl_uint8 rfl (by exact BU.cell _ rfl)) rfl ?_
      refine rC rfl rfl <| rF fa_keyspan_Span_1 rfl rfl <| rs_w0 (w_put siz_sl_uint8 rfl rfl rfl rfl Bc rfl) ?_
      rintro _ h7 ⟨B7, K7⟩
      have Bc := B7; have K := K.new1 K7 (by first | (right; omega) | (left; simp; done)); have Z7 := K7.1
      refine rs_nil ?_
      exact q_cut [(0, _), (1, _), (2, _), (3, _), (4, _), (5, _), (6, _), (7, _), (13, _)] ⟨rfl, rfl, rfl, rfl, rfl, rfl, rfl, rfl, rfl, trivial⟩ ⟨_, _, _, _, rfl, Bc, K, K2.trans K7, by rw [show cutUp up s = up from if_pos hup]; exact hvu.mono (fun b hb => .inr hb)⟩
    -- no
    have hup : ¬ slt up s.e = true := by rw [slt_cmp, cmpB_anti s.e up]; have := of_decide_eq_false hif; simp; omega
    refine tr_skip ?_
    exact q_cut [(0, _), (1, _), (2, _), (3, _), (4, _), (5, _), (6, _), (7, _), (13, _)] ⟨rfl, rfl, rfl, rfl, rfl, rfl, rfl, rfl, rfl, trivial⟩ ⟨_, _, _, _, rfl, Bc, K, K2, by rw [show cutUp up s = s.e from if_neg hup]; exact q2.mono (fun b hb => .inl hb)⟩
  rintro E h19 ⟨tb, ev, en9, ec, rfl, Bc, K, K2, hs2⟩
  have Z19 := K2.1
  have BC := hE2.bc
  have BP := hE2.bp
  have BC := K2.blk (fun hm => hcG (by rw [List.mem_singleton] at hm; rw [← hm]; exact hg.2.1)) BC
  have BP := K2.blk (fun hm => hcG (by rw [List.mem_singleton] at hm; rw [← hm]; exact hg.2.2.2.2.2)) BP
  have O := O.keep2 K2 (fun x hx hm => (hfc x hx).2 (by simpa using hm))
  have SFG := K2.stab hFGc
  have hs1 := hs1.stab SFG
  have hs2 := hs2.stab SFG
  have g1 : (!decide ((s.ks.length : Int) = 0)) = true := by have := List.length_pos_iff.2 hne; simp; omega
  refine tr_seq ?_
  refine rG <| rs_v (v_load one_bool rfl (by exact BP.cell _ rfl)) rfl ?_
  refine rM rfl rfl <| rs_gs rfl (rfl) rfl rfl <| rs_v (v_pick_f rfl rfl) rfl ?_
  refine rN <| tr_if_f rfl ?_
  refine tr_skip ?_
  refine q_thn ?_
  refine tr_seq ?_
  refine tr_quiet (by kernel_rfl) (by kernel_rfl) ?_
  refine rq_v (v_move rfl) ?_
  refine rq_w (w_call (vs := [_]) ok_keyspan_Span_Empty rfl ⟨rfl, trivial⟩ (c_Empty χ _ c 3 a9 s.ks.length c9 (Bc.cell _ rfl))) ?_
  refine rq_v (v_not rfl) ?_
  refine rq_v (v_move rfl) ?_
  refine rq_gv rfl (lkm g1) (v_load one_base_Compare rfl (by exact BC.cell _ rfl)) ?_
  refine rq_gv rfl (lkm g1) (v_move rfl) ?_
  refine rq_gv rfl (lkm g1) (v_nilCheck_ptr rfl) ?_
  refine rq_gv rfl (lkm g1) (v_fieldAddr fa_keyspan_Span_0 rfl) ?_
  refine rq_gv rfl (lkm g1) (v_load one_sl_uint8 rfl (by exact Bc.cell _ rfl)) ?_
  refine rq_gv rfl (lkm g1) (v_move rfl) ?_
  refine rq_gv rfl (lkm g1) (v_nilCheck_ptr rfl) ?_
  refine rq_gv rfl (lkm g1) (v_fieldAddr fa_keyspan_Span_1 rfl) ?_
  refine rq_gv rfl (lkm g1) (v_load one_sl_uint8 rfl (by exact Bc.cell _ rfl)) ?_
  refine rq_gw rfl (lkm g1) (w_callv (first := []) (cap := []) (vs := [_, _]) ok_bytes_Compare rfl ⟨rfl, rfl, trivial⟩ (c_Compare χ _ _ _ (cutLo lo s) (cutUp up s) (RBytes.by hs1) (RBytes.by hs2))) ?_
  refine rq_gv rfl (lkm g1) (v_lt rfl rfl) ?_
  refine rq_v (v_pick_t (lkb g1) rfl) ?_
  refine rq_v (v_assign rfl) ?_
  refine rm_end ?_; simp only [endM, hypF, ofE, argE]
  refine q_thn ?_
  refine tr_ret <| q_ret (res_tmp rfl rfl) ?_
  have hsl := slt_cmp (cutLo lo s) (cutUp up s)
  refine ⟨?_, _, _, _, _, _, Bc, O, K, hfc, fun s' hs' => ?_⟩
  · rw [← hsl]; unfold ffT; rw [hst0, hen0]
    cases slt (cutLo lo s) (cutUp up s) <;> rfl
  · unfold ffT at hs'; rw [hst0, hen0] at hs'
    simp only [Bool.false_eq_true, if_false] at hs'
    split at hs'
    · cases hs'
      exact ⟨hs1, hs2, rfl, hnr.mono fun c a hr => cPKey_st.stab _ _ _ _ _ SFG (cPKey_st.mono _ _ _ _ _ (fun b hb => .inl hb) (cPKey_st.stab _ _ _ _ _ hSF hr))⟩
    · cases hs'
set_option maxHeartbeats 1000000
theorem ffT_plain (lo up : ByteArray) (s : SpanD) : ffT none none lo up s = if slt (cutLo lo s) (cutUp up s) then some ⟨cutLo lo s, cutUp up s, s.ks⟩ else none := by simp [ffT, stB, enB]
set_option maxHeartbeats 1000000
theorem cutLo_ge (lo : ByteArray) (s : SpanD) : sle s.s (cutLo lo s) = true := by
  unfold cutLo
  split
  · rename_i h; exact slt_sle h
  · exact sle_refl _
theorem cutUp_le (up : ByteArray) (s : SpanD) : sle (cutUp up s) s.e = true := by
  unfold cutUp
  split
  · rename_i h; exact slt_sle h
  · exact sle_refl _
theorem ffT_some {st en : Option ByteArray} {lo up : ByteArray} {s s' : SpanD} (h : ffT st en lo up s = some s') : slt (cutLo lo s) (cutUp up s) = true ∧ s' = ⟨cutLo lo s, cutUp up s, s.ks⟩ := by
  unfold ffT at h
  split at h
  · cases h
  split at h
  · cases h
  split at h
  · rename_i hlt; cases h; exact ⟨hlt, rfl⟩
  · cases h
theorem ffT_shrink (st en : Option ByteArray) (lo up : ByteArray) (W : List SpanD) : Shrink (ffT st en lo up) W := fun s s' _ hf => by
  obtain ⟨h1, rfl⟩ := ffT_some hf
  exact ⟨cutLo_ge lo s, h1, cutUp_le up s⟩
theorem ffT_len {st en : Option ByteArray} {lo up : ByteArray} {W : List SpanD} (hm : ∀ s, s ∈ W → s.ks.length ≤ 100000) : ∀ s, s ∈ W.filterMap (ffT st en lo up) → s.ks.length ≤ 100000 := by
  intro s hs
  obtain ⟨x, hx, hf⟩ := List.mem_filterMap.1 hs
  obtain ⟨_, rfl⟩ := ffT_some hf
  exact hm x hx
def fnTv (bst bcm ben blo bup bpn : Nat) : Value := .func (.func 100) #[] #[.pointer (some ⟨bst, 0, none⟩), .pointer (some ⟨bcm, 0, none⟩), .pointer (some ⟨ben, 0, none⟩), .pointer (some ⟨blo, 0, none⟩), .pointer (some ⟨bup, 0, none⟩), .pointer (some ⟨bpn, 0, none⟩)]
theorem fnT_ok (χ : Chi) (W : List SpanD) (bst bcm ben blo bup bpn : Nat) (st en : Option ByteArray) (lo up : ByteArray) (G : Nat → Prop) (hWn : ∀ s, s ∈ W → s.ks.length ≤ 100000 ∧ s.ks ≠ [] ∧ en ≠ some s.s) :
    FnOK χ W (ffT st en lo up) (fnTv bst bcm ben blo bup bpn) G (EnvT bst bcm ben blo bup bpn st en lo up G) where
  form := ⟨_, [.pointer (some ⟨bst, 0, none⟩), .pointer (some ⟨bcm, 0, none⟩), .pointer (some ⟨ben, 0, none⟩), .pointer (some ⟨blo, 0, none⟩), .pointer (some ⟨bup, 0, none⟩), .pointer (some ⟨bpn, 0, none⟩)], rfl, ok_keyspan_Truncate_c1, fun h Fin s bi oi c x0 x1 x2 sv0 ev0 kv0 kk n0 xs0 hl hin hbi B hcF O hx hE hg hmem =>
    c_fnT χ h Fin hl s bi oi hin hbi c x0 x1 x2 sv0 ev0 kv0 kk B hcF n0 xs0 O bst bcm ben blo bup bpn st en lo up G hE hx hg (hWn s hmem).1 (hWn s hmem).2.1 (hWn s hmem).2.2⟩
  low := fun hE => hE.low
  stab := fun hE hs hz => hE.stab hs hz
theorem c_Truncate (χ : Chi) (h : Heap) (t : TypeId) (v0 : Value) (al au : Option Addr) (nl cl nu cu : Nat) (ps pe : Option Addr) :
    Cl Tryz.prog χ 63 #[cmpF, .iface t v0, .slice al nl cl, .slice au nu cu, .pointer ps, .pointer pe, .bool false] h
      (fun r h' => ∃ b0 b1 b2 b3 b4 b5 c, h.size ≤ b0 ∧ b0 < b1 ∧ b1 < b2 ∧ b2 < b3 ∧ b3 < b4 ∧ b4 < b5 ∧ b5 < c ∧ r = .iface 226 (.pointer (some ⟨c, 0, none⟩)) ∧
        Blk h' c [.iface t v0, fnTv b3 b0 b4 b1 b2 b5, cmpF, .slice none 0 0, .slice none 0 0, .slice none 0 0, .int .i8 0] 228 ∧
        Blk h' b0 [cmpF] 111 ∧ Blk h' b1 [.slice al nl cl] 82 ∧ Blk h' b2 [.slice au nu cu] 82 ∧ Blk h' b3 [.pointer ps] 141 ∧ Blk h' b4 [.pointer pe] 141 ∧ Blk h' b5 [.bool false] 4 ∧ Keep [] h h') := by
  unfold cmpF
  refine cl_intro Tryz.func63 rfl rfl rfl ?_
  have K : Keep [] h h := Keep.refl _ _
  refine rG <| rs_w (w_newbox rfl) rfl ?_
  rintro _ h1 ⟨rfl, B1, K1, Z1⟩
  have S1 := K.1; have K := K.new0 K1
  refine rs_w (w_newbox rfl) rfl ?_
  rintro _ h2 ⟨rfl, B2, K2, Z2⟩
  have B1 := K2.blk (by simp) B1
  have S2 := K.1; have K := K.new0 K2
  refine rs_w (w_newbox rfl) rfl ?_
  rintro _ h3 ⟨rfl, B3, K3, Z3⟩
  have B1 := K3.blk (by simp) B1
  have B2 := K3.blk (by simp) B2
  have S3 := K.1; have K := K.new0 K3
  refine rs_w (w_newbox rfl) rfl ?_
  rintro _ h4 ⟨rfl, B4, K4, Z4⟩
  have B1 := K4.blk (by simp) B1
  have B2 := K4.blk (by simp) B2
  have B3 := K4.blk (by simp) B3
  have S4 := K.1; have K := K.new0 K4
  refine rs_w (w_newbox rfl) rfl ?_
  rintro _ h5 ⟨rfl, B5, K5, Z5⟩
  have B1 := K5.blk (by simp) B1
  have B2 := K5.blk (by simp) B2
  have B3 := K5.blk (by simp) B3
  have B4 := K5.blk (by simp) B4
  have S5 := K.1; have K := K.new0 K5
  refine rs_w (w_newbox rfl) rfl ?_
  rintro _ h6 ⟨rfl, B6, K6, Z6⟩
  have B1 := K6.blk (by simp) B1
  have B2 := K6.blk (by simp) B2
  have B3 := K6.blk (by simp) B3
  have B4 := K6.blk (by simp) B4
  have B5 := K6.blk (by simp) B5
  have S6 := K.1; have K := K.new0 K6
  refine rA rfl rfl <| rN <| rG <| rM rfl rfl <| rs_v (v_makeFunc (vs := [_, _, _, _, _, _]) ⟨rfl, rfl, rfl, rfl, rfl, rfl, trivial⟩) rfl ?_
  refine rs_v (v_load one_base_Compare rfl (by exact B1.cell _ rfl)) rfl ?_
  refine rs_w (w_call (vs := [_, _, _]) ok_keyspan_Filter rfl ⟨rfl, rfl, rfl, trivial⟩ (c_Filter χ _ _ _ _ _)) rfl ?_
  rintro _ h7 ⟨rfl, Bf, K7⟩
  have B1 := K7.blk (by simp) B1
  have B2 := K7.blk (by simp) B2
  have B3 := K7.blk (by simp) B3
  have B4 := K7.blk (by simp) B4
  have B5 := K7.blk (by simp) B5
  have B6 := K7.blk (by simp) B6
  have K := K.new0 K7; have Z7 := K7.1
  refine rA rfl rfl <| rN <| tr_ret <| q_ret (res_tmp rfl rfl) ?_
  exact ⟨_, _, _, _, _, _, _, Nat.le_refl _, by omega, by omega, by omega, by omega, by omega, by omega, rfl, Bf, B1, B2, B3, B4, B5, B6, K⟩
theorem c_implSpanTruncated (χ : Chi) (h : Heap) (A : Nat → Prop) (hA : Low A h) (v sv : Value) (W : List SpanD) (steps : List StepD) (lo up : ByteArray) (hW : RSpans A h v W) (hn : W.length ≤ 100000) (hm : ∀ s, s ∈ W → SpanD.small s) (hne : ∀ s, s ∈ W → s.ks ≠ []) (hO : Tess.Ord W)
    (hlo : lo.size ≤ 9223372036854775807) (hup : up.size ≤ 9223372036854775807) (hS : RSteps A h sv steps) (hsn : steps.length ≤ 1000) (hz : ∀ s, s ∈ steps → s.key.size ≤ 9223372036854775807) :
    Cl Tryz.prog χ 33 #[v, .string lo, .string up, sv] h (fun r h' => RAnss (Up N0 h h') h' r (walkP (W.filterMap (ffT none none lo up)) .nowhere steps) ∧ Keep [] h h') := by
  refine cl_intro Tryz.func33 rfl rfl rfl ?_
  have K : Keep [] h h := Keep.refl _ _
  refine rG <| rA rfl rfl <| rN <| rG <| rs_w (w_call (vs := []) ok_base_DefaultComparer rfl trivial (c_DefaultComparer χ _)) rfl ?_
  rintro _ h1 ⟨rfl, ⟨rest, Bq⟩, K1⟩
  have K := K.new0 K1; have Z1 := K1.1
  refine rC rfl rfl <| rF fa_base_Comparer_0 rfl rfl <| rs_v (v_load one_base_Compare rfl (by exact Bq.cell _ rfl)) rfl ?_
  refine rA rfl rfl <| rN <| rG <| rM rfl rfl <| rM rfl rfl <| rM rfl rfl <| rs_w (w_call (vs := [_]) ok_impl_spans rfl ⟨rfl, trivial⟩ (c_spans χ _ A (hA.mono (by omega)) v W (hW.stab (K.st hA)) hn hm)) rfl ?_
  rintro w2 h2 ⟨hPW, K2⟩
  obtain ⟨wa, wc, rfl⟩ := SlR.form2 hPW
  have K := K.new0 K2; have Z2 := K2.1
  refine rs_w (w_call (vs := [_, _]) ok_keyspan_NewIter rfl ⟨rfl, rfl, trivial⟩ (c_NewIter χ _ wa W.length wc)) rfl ?_
  rintro _ h3 ⟨rfl, Bi, K3⟩
  have hPW := hPW.stab (K3.st ((n0low _).up Z2))
  have hi3 := Bi.lt
  have K := K.new0 K3; have Z3 := K3.1
  refine rs_v (v_makeIface u_p_keyspan_Iter rfl) rfl ?_
  refine rM rfl rfl <| rs_w (w_bytes u_string u_sl_uint8 u_uint8 rfl (by omega)) rfl ?_
  rintro _ h4 ⟨cl, rfl, K4, hlv⟩
  have hPW := hPW.stab (K4.st (fun b hb => Nat.lt_of_lt_of_le ((n0low _).up Z2 b hb) Z3))
  have Bi := K4.blk (by simp) Bi
  have K := K.new0 K4; have Z4 := K4.1
  refine rM rfl rfl <| rs_w (w_bytes u_string u_sl_uint8 u_uint8 rfl (by omega)) rfl ?_
  rintro _ h5 ⟨cu, rfl, K5, huv⟩
  have hPW := hPW.stab (K5.st (fun b hb => Nat.lt_of_lt_of_le ((n0low _).up Z2 b hb) (Nat.le_trans Z3 Z4)))
  have Bi := K5.blk (by simp) Bi
  have hlv := hlv.stab (K5.stab fun b hb => ⟨hb.2, by simp⟩)
  have K := K.new0 K5; have Z5 := K5.1
  refine rs_w (w_call (vs := [_, _, _, _, _, _, _]) ok_keyspan_Truncate rfl ⟨rfl, rfl, rfl, rfl, rfl, rfl, rfl, trivial⟩ (c_Truncate χ _ _ _ _ _ _ _ _ _ none none)) rfl ?_
  rintro _ h6 ⟨b0, b1, b2, b3, b4, b5, c, g0, g1, g2, g3, g4, g5, g6, rfl, Bf, B0, B1, B2, B3, B4, B5, K6⟩
  have hPW := hPW.stab (K6.st (fun b hb => Nat.lt_of_lt_of_le ((n0low _).up Z2 b hb) (Nat.le_trans Z3 (Nat.le_trans Z4 Z5))))
  have Bi := K6.blk (by simp) Bi
  have hcl := Bf.lt
  have Z6' := K6.1
  have hEnv : EnvT b3 b0 b4 b1 b2 b5 none none lo up (fun b => h3.size ≤ b ∧ b < c) h6 := ⟨fun b hb => by have := hb.2; omega, ⟨⟨by omega, by omega⟩, ⟨by omega, by omega⟩, ⟨by omega, by omega⟩, ⟨by omega, by omega⟩, ⟨by omega, by omega⟩, ⟨by omega, by omega⟩⟩,
    ⟨_, B3, rfl⟩, B0, ⟨_, B4, rfl⟩, ⟨_, B1, (hlv.stab (K6.stab fun b hb => ⟨by have := hb.2; omega, by simp⟩)).mono (fun b hb => ⟨hb.1, by have := hb.2; omega⟩)⟩, ⟨_, B2, (huv.stab (K6.stab fun b hb => ⟨hb.2, by simp⟩)).mono (fun b hb => ⟨by have := hb.1; omega, by have := hb.2; omega⟩)⟩, B5⟩
  have K := K.new0 K6; have Z6 := K6.1
  refine rM rfl rfl ?_
  refine rs_w (w_call (vs := [_, _]) ok_impl_walkSpans rfl ⟨rfl, rfl, trivial⟩ (c_walkSpans χ h6 A (hA.mono K.1) (W.filterMap (ffT none none lo up)) _ _ _
    (fi_ok c (itB_ok χ h2.size wa wc W 208 hn hO) (fnT_ok χ W b3 b0 b4 b1 b2 b5 none none lo up (fun b => h3.size ≤ b ∧ b < c) (fun s hs => ⟨(hm s hs).2.2.1, hne s hs, by simp⟩)) (fun s hs => (hm s hs).2.2.1) hO (ffT_shrink _ _ _ _ W))
    (fun b => h.size ≤ b ∧ b < h6.size)
    ⟨.nowhere, (fun b => h1.size ≤ b ∧ b < h3.size), _, _, _, 0, _, _, ⟨⟨_, Up N0 h1 h2, Bi, trivial, hPW, (fun b hb => by
        rcases hb with hb | hb
        · exact hb.elim
        · exact ⟨⟨hb.1, by omega⟩, by omega⟩), ⟨by omega, by omega⟩, (fun b hb => by have := hb.2; omega)⟩, Bf, Own.nil _ _ _ _, hEnv, (by simp [Value.ownBlock]), (fun hb => by have := hb.2; omega), (fun hb => by omega), (fun b hb hg => by have := hb.1; have := hb.2; omega),
        (fun b hb => ⟨by have := hb.1; omega, by have := hb.2; omega⟩), ⟨by omega, by omega⟩, (by simp [Value.ownBlock]), (fun b hb => by omega), (fun b hb => hb.2)⟩, trivial⟩
    (fun b hb hf => by have := hA b hb; have := hf.1; omega) sv steps (hS.stab (K.st hA)) hsn hz (ffT_len (fun s hs => (hm s hs).2.2.1)))) rfl ?_
  rintro r9 h7 ⟨hans, KP⟩
  refine rA rfl rfl <| rN <| tr_ret <| q_ret (res_tmp rfl rfl) ?_
  have h60 := K.1
  exact ⟨hans.mono (n0up h60 (Nat.le_refl _)), keep_of_p K KP (fun b hb => hb.1)⟩
set_option maxHeartbeats 1000000
def UpC (up : Option ByteArray) (s : SpanD) : Bool := match up with | none => true | some u => slt s.s u
def LoC (lo : Option ByteArray) (s : SpanD) : Bool := match lo with | none => true | some l => slt l s.e
def RBnd (G : Nat → Prop) (h : Heap) (v : Value) (b : Option ByteArray) : Prop := match b with
  | none => v = .slice none 0 0
  | some u => ∃ g o n c, v = .slice (some ⟨g, o, none⟩) n c ∧ RBytes G h v u
set_option maxHeartbeats 1000000
structure Seg (W : List SpanD) (lo up : Option ByteArray) (i0 i1 : Nat) : Prop where
  le : i0 ≤ i1
  len : i1 ≤ W.length
  lo : ∀ (j : Nat) s, W[j]? = some s → (LoC lo s = true ↔ i0 ≤ j)
  up : ∀ (j : Nat) s, W[j]? = some s → (UpC up s = true ↔ j < i1)
section
variable {W : List SpanD} {lo up : Option ByteArray} {i0 i1 : Nat} (hs : Seg W lo up i0 i1)
include hs
end
set_option maxHeartbeats 1000000
section
variable (W : List SpanD) (I : ItI) (t : TypeId) (v0 : Value) (c i0 i1 : Nat) (lo up : Option ByteArray) (lov upv spl pp : Value)
end
section
variable {W : List SpanD} {I : ItI} {t : TypeId} {v0 : Value} {c i0 i1 : Nat} {lo up : Option ByteArray} {lov upv spl pp : Value} {q : Pos} {Fin F : Nat → Prop} {h : Heap} {sp : Option Addr} {os : Option SpanD} {pos : Int}
end
theorem pNext_pt (W : List SpanD) (j : Nat) : pNext W (.pt j) = if j + 1 < W.length then .pt (j + 1) else .behind := rfl
section
variable {χ : Chi} {W : List SpanD} {I : ItI} {t : TypeId} {v0 : Value} {c i0 i1 : Nat} {lo up : Option ByteArray} {lov upv spl pp : Value} (hEnv : ∀ {p F h}, I p F h → RBnd F h lov lo ∧ RBnd F h upv up) (hit : IterOK Tryz.prog χ W t v0 I) (hO : Tess.Ord W) (hs : Seg W lo up i0 i1)
include hEnv hit hO hs
end
set_option maxHeartbeats 1000000
theorem nb {b : Bool} (h : b = false) : (!b) = true := by rw [h]; rfl
set_option maxHeartbeats 2000000
theorem own_new {h : Heap} {base b sz : Nat} {cs : List Value} {T : TypeId} (B : Blk h b cs T) (hb : base ≤ b) (hl : cs.length = sz) : Own h base T sz (.slice (some ⟨b, 0, none⟩) 1 1) 1 cs :=
  ⟨by omega, .inr ⟨b, 1, cs.toArray, rfl, hb, B, Nat.le_refl _, by decide, by simp [hl], by rw [Nat.one_mul, ← hl]; simp⟩⟩
theorem RowsR.app {α : Type} {sz : Nat} {R : List Value → α → Prop} {xs ys : List Value} {ls ms : List α} (h : RowsR sz R xs ls) (k : RowsR sz R ys ms) : RowsR sz R (xs ++ ys) (ls ++ ms) := by
  obtain ⟨c1, rfl, l1, h1⟩ := h
  obtain ⟨c2, rfl, l2, h2⟩ := k
  refine ⟨c1 ++ c2, by simp, by simp [l1, l2], fun i c a hc ha => ?_⟩
  rcases Nat.lt_or_ge i c1.length with hlt | hge
  · rw [List.getElem?_append_left hlt] at hc
    rw [List.getElem?_append_left (by omega)] at ha
    exact h1 i c a hc ha
  · rw [List.getElem?_append_right hge] at hc
    rw [List.getElem?_append_right (by omega)] at ha
    rw [l1] at hc
    exact h2 _ c a hc ha
def nextS : StepD := ⟨2, ByteArray.empty⟩
def fwdS (n : Nat) : List StepD := ⟨0, ByteArray.empty⟩ :: List.replicate n nextS
theorem fwdS_succ (n : Nat) : fwdS (n + 1) = fwdS n ++ [nextS] := by simp [fwdS, List.replicate_succ']
theorem fwdS_len (n : Nat) : (fwdS n).length = n + 1 := by simp [fwdS]
theorem fwdS_small (n : Nat) : ∀ s, s ∈ fwdS n → s.key.size ≤ 9223372036854775807 := by
  intro s hs
  simp only [fwdS, List.mem_cons, List.mem_replicate] at hs
  rcases hs with rfl | ⟨_, rfl⟩ <;> decide
def listOf (l : List AnsD) : List SpanD := (l.filter (·.ok)).map (·.sp)
theorem listOf_snoc (l : List AnsD) (x : AnsD) : listOf (l ++ [x]) = if x.ok then listOf l ++ [x.sp] else listOf l := by
  unfold listOf
  rw [List.filter_append]
  cases h : x.ok <;> simp [h]
theorem listOf_cons (x : AnsD) (l : List AnsD) : listOf (x :: l) = if x.ok then x.sp :: listOf l else listOf l := by
  unfold listOf
  rw [List.filter_cons]
  cases h : x.ok <;> simp
theorem listOf_le (l : List AnsD) : (listOf l).length ≤ l.length := by unfold listOf; simpa using List.length_filter_le _ l
theorem listOf_end (W : List SpanD) (p : Pos) (hp : canNext p = false) : ∀ n, listOf (walkP W p (List.replicate n nextS)) = []
  | 0 => rfl
  | n + 1 => by
    have e : stepP W p nextS = none := by simp [stepP, nextS, hp]
    rw [List.replicate_succ, walkP, e, listOf_cons]
    simp only [ansOf, Option.getD_none]
    exact listOf_end W p hp n
theorem listOf_next (W : List SpanD) : ∀ (n j : Nat), W.length ≤ j + 1 + n → listOf (walkP W (.pt j) (List.replicate n nextS)) = W.drop (j + 1)
  | 0, j, hn => by rw [List.drop_eq_nil_of_le (by omega)]; rfl
  | n + 1, j, hn => by
    have e : stepP W (.pt j) nextS = some (pNext W (.pt j)) := by simp [stepP, nextS, canNext]
    rw [List.replicate_succ, walkP, e, listOf_cons]
    simp only [Option.getD_some]
    by_cases hj : j + 1 < W.length
    · rw [show pNext W (.pt j) = .pt (j + 1) from by rw [pNext_pt, if_pos hj]]
      have hc : cur W (.pt (j + 1)) = some W[j + 1] := List.getElem?_eq_getElem hj
      simp only [ansOf, hc, Option.isSome_some, if_true, Option.getD_some]
      rw [listOf_next W n (j + 1) (by omega), List.drop_eq_getElem_cons hj]
    · rw [show pNext W (.pt j) = .behind from by rw [pNext_pt, if_neg hj]]
      simp only [ansOf, cur, Option.isSome_none, Bool.false_eq_true, if_false]
      rw [listOf_end W .behind rfl, List.drop_eq_nil_of_le (by omega)]
theorem listOf_from (W : List SpanD) (p p0 : Pos) (s : StepD) (n : Nat) (hs : stepP W p s = some p0) (hp : p0 = if W.length = 0 then p0 else .pt 0) (h0 : W.length = 0 → canNext p0 = false) (hn : W.length ≤ n + 1) : listOf (walkP W p (s :: List.replicate n nextS)) = W := by
  rw [walkP, hs, listOf_cons]
  simp only [Option.getD_some]
  by_cases hz : W.length = 0
  · have e : W = [] := List.eq_nil_of_length_eq_zero hz
    rw [listOf_end W p0 (h0 hz)]
    subst e
    have hc : cur [] p0 = none := by cases p0 <;> simp [cur]
    simp [ansOf, hc]
  · rw [if_neg hz] at hp
    subst hp
    have hl : 0 < W.length := by omega
    have hc : cur W (.pt 0) = some W[0] := List.getElem?_eq_getElem hl
    simp only [ansOf, hc, Option.isSome_some, if_true, Option.getD_some]
    rw [listOf_next W n 0 (by omega)]
    have := List.drop_eq_getElem_cons hl
    rw [List.drop_zero] at this
    exact this.symm
theorem listOf_fwd (W : List SpanD) (n : Nat) (hn : W.length ≤ n + 1) : listOf (walkP W .nowhere (fwdS n)) = W := by
  refine listOf_from W .nowhere (pFirst W) _ n (by simp [stepP]) ?_ ?_ hn
  · unfold pFirst
    by_cases h : W.length = 0
    · rw [if_pos h, if_pos h]
    · rw [if_neg h, if_neg h]
  · intro h; unfold pFirst; rw [if_pos h]; rfl
theorem c_spanForth (χ : Chi) (h : Heap) (n : Nat) (hn : n ≤ 1000) :
    Cl Tryz.prog χ 28 #[.int .i64 (n : Int)] h (fun r h' => (RSteps (Up N0 h h') h' r (fwdS n) ∧ ∃ a c, r = .slice a (n + 1) c ∧ n + 1 ≤ c) ∧ Keep [] h h') := by
  refine cl_intro Tryz.func28 rfl rfl rfl ?_
  have K : Keep [] h h := Keep.refl _ _
  refine rG <| rA rfl rfl <| rN <| rG <| rs_v (v_build1 rfl (bld_impl_Step_0 _)) rfl ?_
  refine rs_w (w_new1 u_sl_impl_Step siz_impl_Step zero_impl_Step rfl rfl rfl rfl rfl) rfl ?_
  rintro _ h1 ⟨rfl, B1, K1, Z1⟩
  have S1 := K.1; have K := K.new0 K1
  refine rA rfl rfl <| rN ?_
  refine tr_seq ?_
  refine rG <| rM rfl rfl <| rM rfl rfl <| rN <| tr_block ?_
  refine tr_loop (fun m E h' => ∃ k v xs, k ≤ n ∧ m = n - k ∧ E = [(3, v), (6, .int .i64 (n : Int)), (7, .int .i64 (k : Int))] ∧ Keep [] h h' ∧ Own h' h.size 167 2 v (k + 1) xs ∧ RowsR 2 (cStep N0 h) xs (fwdS k)) n [(3, _), (6, _), (7, _)] ⟨rfl, rfl, rfl, trivial⟩ ⟨0, _, _, Nat.zero_le _, rfl, rfl, K, own_new B1 (Nat.le_refl _) rfl, (RowsR.nil 2 (cStep N0 h)).snoc rfl rfl⟩ ?_
  rintro m E hL2 ⟨k, v, xs, hk, rfl, rfl, K, O, hrow⟩
  have hob := own_ne O; have KL := Keep.refl [] hL2
  refine rG <| rs_v (v_lt rfl rfl) rfl ?_
  refine rN ?_
  refine tr_seq ?_
  refine tr_ifn rfl (fun hif => ?_) (fun hif => ?_)
  · -- no
    simp only [dT, dF] at hif
    have hkk : k = n := by omega
    subst hkk
    refine tr_exit <| q_thn_exit ?_
    refine q_lp_exit ?_
    refine q_blk_hit ?_
    refine q_thn ?_
    refine rG <| rM rfl rfl <| rA rfl rfl <| rN <| tr_ret <| q_ret (res_tmp rfl rfl) ?_
    obtain ⟨g, c9, rfl, hg1, hg2, _⟩ := own_some O
    have hcap : k + 1 ≤ c9 := by
      rcases O.2 with ⟨e, _⟩ | ⟨g', cap, cur, e, _, _, hle, _⟩
      · cases e
      · cases e; exact hle
    exact ⟨⟨SlR.of_rows O (fwdS_len k).symm hrow (fun b h1 h2 => .inr ⟨h1, h2⟩) (fun b o c a hc hr => cStep_r N0 _ _ _ _ _ hc hr), _, _, rfl, hcap⟩, K⟩
  -- yes
  simp only [dT, dF] at hif
  refine tr_skip ?_
  refine q_thn ?_
  refine tr_seq ?_
  refine tr_block ?_
  refine tr_reg ?_
  refine rM rfl rfl <| rs_v (v_build1 rfl (bld_impl_Step_0 _)) rfl ?_
  refine rs_w (w_new1 u_sl_impl_Step siz_impl_Step zero_impl_Step rfl rfl rfl rfl rfl) rfl ?_
  rintro _ h3 ⟨rfl, B3, K3, Z3⟩
  have O := O.keep2 K3 (fun x hm => by have := hob x hm; simp; try omega)
  have S3 := K.1; have K := K.new0 K3
  refine rs_w (w_app1 u_sl_impl_Step info_impl_Step rfl rfl rfl O rfl rfl B3 rfl (by omega) (by omega) (by omega)) rfl ?_
  rintro v4 h4 ⟨O4, K4, N4, F4⟩
  have K := K.newX K4 (fun x hm => .inr (by have := hob x hm; omega)); have Z4 := K4.1
  have B3 := K4.blk (fun hm => by first | (have := hob _ hm; omega) | exact absurd rfl (hnb _ hm)) B3
  refine rA rfl rfl ?_
  refine rs_nil ?_
  refine q_blk_n ?_
  refine q_thn ?_
  refine tr_reg ?_
  refine rs_v (v_add rfl rfl (by omega) (by omega)) rfl ?_
  refine rM rfl rfl ?_
  refine rs_nil ?_
  refine q_lp (n - (k + 1)) [(3, _), (6, _), (7, _)] (by omega) ⟨rfl, rfl, rfl, trivial⟩ ⟨k + 1, _, _, by omega, rfl, rfl, K, O4, ?_⟩
  rw [fwdS_succ]
  exact hrow.snoc rfl rfl
theorem c_spanList (χ : Chi) (h : Heap) (A : Nat → Prop) (hA : Low A h) (v : Value) (G : List AnsD) (hG : RAnss A h v G) (hn : G.length ≤ 100000) :
    Cl Tryz.prog χ 27 #[v] h (fun r h' => RSpans (Up A h h') h' r (listOf G) ∧ Keep [] h h') := by
  obtain ⟨hlen, a, c, rfl, hx⟩ := hG.form
  refine cl_intro Tryz.func27 rfl rfl rfl ?_
  have K : Keep [] h h := Keep.refl _ _
  refine rG <| rA rfl rfl <| rN <| rG <| rA rfl rfl <| rN ?_
  refine tr_seq ?_
  refine rG <| rM rfl rfl <| rs_v (v_len u_sl_impl_SpanAnswer rfl) rfl ?_
  refine rM rfl rfl <| rN <| tr_block ?_
  refine tr_loop (fun m E h' => ∃ k v n, k ≤ G.length ∧ m = G.length - k ∧ E = [(3, v), (6, .slice a G.length c), (7, .int .i64 (G.length : Int)), (8, .int .i64 (k : Int))] ∧ Keep [] h h' ∧ n = (listOf (G.take k)).length ∧ OutR A h h' h.size 64 3 cSpan v n (listOf (G.take k))) G.length [(3, _), (6, _), (7, _), (8, _)] ⟨rfl, rfl, rfl, rfl, trivial⟩ ⟨0, _, 0, Nat.zero_le _, rfl, rfl, K, rfl, OutR.nil _ _ _ _ _ _ _⟩ ?_
  rintro m E hL1 ⟨k, v, n, hk, rfl, rfl, K, hn, hout⟩
  have hout0 := hout
  obtain ⟨xs, F, O, hrow, hF⟩ := hout
  have KL0 := K.1
  have hob := own_ne O; have KL := Keep.refl [] hL1
  refine rG <| rs_v (v_lt rfl rfl) rfl ?_
  refine rN ?_
  refine tr_seq ?_
  refine tr_ifn rfl (fun hif => ?_) (fun hif => ?_)
  · -- no
    simp only [dT, dF] at hif
    have hkk : k = G.length := by omega
    subst hkk
    refine tr_exit <| q_thn_exit ?_
    refine q_lp_exit ?_
    refine q_blk_hit ?_
    refine q_thn ?_
    refine rG <| rM rfl rfl <| rA rfl rfl <| rN <| tr_ret <| q_ret (res_tmp rfl rfl) ?_
    rw [List.take_length] at hout0 hn
    exact ⟨hout0.fin cSpan_st hn (Nat.le_refl _) cSpan_r, K⟩
  -- yes
  simp only [dT, dF] at hif
  rcases hx with rfl | ⟨b, o, rfl, hAb, hR⟩
  · simp at hif; omega
  obtain ⟨x, hsk⟩ := ex_get (L := G) (k := k) (by omega)
  have hkl : k < G.length := (List.getElem?_eq_some_iff.1 hsk).1
  have KL0 := K.1
  obtain ⟨kv, hcc, hkx⟩ := hR k x hsk
  obtain ⟨ka, kc, rfl⟩ := hkx.form2
  have hcells := K.cells (by simp) hcc
  have hnk : n ≤ k := by rw [hn]; exact Nat.le_trans (listOf_le _) (by rw [List.length_take]; omega)
  refine tr_skip ?_
  refine q_thn ?_
  refine tr_seq ?_
  refine tr_block <| rG <| rs_v (v_indexAddrN u_sl_impl_SpanAnswer siz_impl_SpanAnswer rfl rfl (by omega)) rfl ?_
  refine rs_v (v_loadAgg (vs := [_, _, _, _, _]) many_impl_SpanAnswer rfl (by exact hcells)) rfl ?_
  refine rs_w (w_new zero_impl_SpanAnswer) rfl ?_
  rintro _ h2 ⟨rfl, B2, K2, Z2⟩
  have O := O.keep2 K2 (fun x hm => by have := hob x hm; simp; try omega)
  have S2 := K.1; have K := K.new0 K2; have KL := KL.new0 K2
  refine rs_w0 (w_put siz_impl_SpanAnswer rfl rfl rfl rfl B2 rfl) ?_
  rintro _ h3 ⟨B3, K3⟩
  have O := O.keep2 K3 (fun x hm => by have := hob x hm; simp; try omega)
  have B2 := B3; have K := K.new1 K3 (by first | (right; omega) | (left; simp; done)); have Z3 := K3.1; have KL := KL.new1 K3 (.inr (by omega))
  refine rN <| rG <| rF fa_impl_SpanAnswer_1 rfl rfl <| rs_v (v_load one_bool rfl (by exact B2.cell _ rfl)) rfl ?_
  refine rN ?_
  refine tr_if rfl (fun hif => ?_) (fun hif => ?_)
  · -- yes
    skip
    refine tr_reg ?_
    refine rM rfl rfl <| rF fa_impl_SpanAnswer_2 rfl rfl <| rs_v (v_loadAgg (vs := [_, _, _]) many_impl_Span rfl (by exact B2.sub _ 3 rfl)) rfl ?_
    refine rs_w (w_new1 u_sl_impl_Span siz_impl_Span zero_impl_Span rfl rfl rfl rfl rfl) rfl ?_
    rintro _ h4 ⟨rfl, B4, K4, Z4⟩
    have B2 := K4.blk (by simp) B2
    have O := O.keep2 K4 (fun x hm => by have := hob x hm; simp; try omega)
    have S4 := K.1; have K := K.new0 K4; have KL := KL.new0 K4
    refine rs_w (w_app1 u_sl_impl_Span info_impl_Span rfl rfl rfl O rfl rfl B4 rfl (by omega) (by omega) (by omega)) rfl ?_
    have K70 := K
    have KL70 := KL
    rintro v5 h5 ⟨O5, K5, N5, F5⟩
    have K := K.newX K5 (fun x hm => .inr (by have := hob x hm; omega)); have Z5 := K5.1
    have B2 := K5.blk (fun hm => by first | (have := hob _ hm; omega) | exact absurd rfl (hnb _ hm)) B2
    have B4 := K5.blk (fun hm => by first | (have := hob _ hm; omega) | exact absurd rfl (hnb _ hm)) B4
    refine rA rfl rfl ?_
    refine rs_nil ?_
    refine q_blk_n ?_
    refine q_thn ?_
    refine tr_reg ?_
    refine rs_v (v_add rfl rfl (by omega) (by omega)) rfl ?_
    refine rM rfl rfl ?_
    refine rs_nil ?_
    refine q_lp (G.length - (k + 1)) [(3, _), (6, _), (7, _), (8, _)] (by omega) ⟨rfl, rfl, rfl, rfl, trivial⟩ ⟨k + 1, v5, n + 1, by omega, rfl, rfl, K, ?_, ?_⟩
    · rw [take_snoc' hsk, listOf_snoc, if_pos hif, List.length_append, ← hn]; rfl
    · rw [take_snoc' hsk, listOf_snoc, if_pos hif]
      exact OutR.snoc cSpan_st hA (by omega) hob hrow hF KL0 KL70 O5 K5 F5 rfl ⟨_, rfl, (hkx.stab (K70.st hA)).mono Up.old⟩
  -- no
  skip
  refine tr_skip <| q_blk_n ?_
  refine q_thn ?_
  refine tr_reg ?_
  refine rs_v (v_add rfl rfl (by omega) (by omega)) rfl ?_
  refine rM rfl rfl ?_
  refine rs_nil ?_
  refine q_lp (G.length - (k + 1)) [(3, _), (6, _), (7, _), (8, _)] (by omega) ⟨rfl, rfl, rfl, rfl, trivial⟩ ⟨k + 1, v, n, by omega, rfl, rfl, K, ?_, ?_⟩
  · rw [take_snoc' hsk, listOf_snoc, if_neg (by rw [hif]; decide)]; exact hn
  · rw [take_snoc' hsk, listOf_snoc, if_neg (by rw [hif]; decide)]
    exact hout0.keep cSpan_st KL
set_option maxHeartbeats 1000000
section
variable {P : Program} {χ : Chi} {ρ : Operand → Option Value} {h : Heap} {ty : TypeId} {pos : String} {after : Array Edge} {guard : Option (Nat × Bool)} {dst : Option Tmp} {x y : Operand} {t t2 : TypeId}
theorem v_strIndex {s : ByteArray} {k : IntKind} {i : Nat} {c : UInt8} (ht : P.underlying t = some .string) (hx : ρ x = some (.string s)) (hy : ρ y = some (.int k (i : Int))) (hc : s.data.toList[i]? = some c) :
    OpV P χ ⟨dst, .index t x y, ty, pos, after, guard⟩ ρ h (.int .u8 (c.toNat : Int)) := by
  intro r d hr
  have e1 := hr x (by simp [Op.operands]) _ hx
  have e2 := hr y (by simp [Op.operands]) _ hy
  have hlt : i < s.size := (List.getElem?_eq_some_iff.1 hc).1
  have h3 := run_index_string (w := mkw χ h d) t s k (i : Int) ht
  rw [dif_pos ⟨by omega, by omega⟩] at h3
  have h4 : s[(i : Int).toNat]'(by simpa using hlt) = c := by
    have := (List.getElem?_eq_some_iff.1 hc).2
    rw [← this]; rfl
  simp only [execOp, e1, e2]
  rw [Sem.run_bind, h3, h4]
  rfl
end
set_option maxHeartbeats 1000000
section
variable {P : Program} {χ : Chi} {ρ : Operand → Option Value} {h : Heap} {ty : TypeId} {pos : String} {after : Array Edge} {guard : Option (Nat × Bool)} {dst : Option Tmp} {x y z : Operand} {t t2 e : TypeId}
theorem v_mul {a b : Int} (hx : ρ x = some (.int .i64 a)) (hy : ρ y = some (.int .i64 b)) (h0 : -9223372036854775808 ≤ a * b) (h1 : a * b ≤ 9223372036854775807) :
    OpV P χ ⟨dst, .binOp .mul t x y t2, ty, pos, after, guard⟩ ρ h (.int .i64 (a * b)) :=
  v_bin hx hy fun w => by simp [eqGuard, binOp, Op.intArith, IntWalk.i64_in _ ⟨h0, h1⟩]
end
set_option maxHeartbeats 1000000
def Free (a : Value) (b o : Nat) : Prop := ∃ n c, a = .slice (some ⟨b, 0, none⟩) n c ∧ n ≤ o
structure Tn (X : List Nat) (h h' : Heap) (a a' : Value) : Prop where
  sz : h.size ≤ h'.size
  blk : ∀ b, b < h.size → b ∉ X → b ∉ a.ownBlock.toList → h'[b]? = h[b]?
  cell : ∀ b o v, b ∉ X → ¬ Free a b o → cellH h b o = some v → cellH h' b o = some v
  free : ∀ b o, Free a' b o → Free a b o ∨ h.size ≤ b
  own : ∀ x, x ∈ a'.ownBlock.toList → x ∈ a.ownBlock.toList ∨ h.size ≤ x
section
variable {P : Program} {χ : Chi} {ρ : Operand → Option Value} {h : Heap} {ty : TypeId} {pos : String} {after : Array Edge} {guard : Option (Nat × Bool)} {dst : Option Tmp} {x y z : Operand} {t t2 e : TypeId}
end
set_option maxHeartbeats 1000000
section
variable {P : Program} {χ : Chi} {ρ : Operand → Option Value} {h : Heap} {ty : TypeId} {pos : String} {after : Array Edge} {guard : Option (Nat × Bool)}
theorem w_appS {s x : Operand} {t e : TypeId} {dst : Option Tmp} {z : Value} {size bytes base : Nat} {v : Value} {n m c : Nat} {y : Option Addr} {xs : List Value} {news : List Value}
    (ht : P.underlying t = some (.slice e)) (hi : (P.info? e).map (fun i => (i.zero, i.size, i.bytes)) = some (some z, size, bytes)) (hzs : Nat.beq z.cells.size size = true) (hsz : Nat.blt 0 size = true)
    (hs : ρ s = some v) (hown : Own h base e size v n xs) (hx : ρ x = some (.slice y m c)) (hl : news.length = m * size)
    (hnews : news = [] ∨ ∃ b o, y = some ⟨b, o, none⟩ ∧ CellsAt h b o news) (h1 : ∀ u, u ∈ news → u.oneCell' = true) (hbytes : (n + m) * bytes ≤ 140737488355328) (hn : n + m ≤ 9223372036854775807) (hbase : base ≤ h.size) :
    OpW P χ ⟨dst, .call ⟨.builtin .append, #[s, x], #[t, t]⟩, ty, pos, after, guard⟩ ρ h
      (fun v' h' => Own h' base e size v' (n + m) (xs ++ news) ∧ Keep v.ownBlock.toList h h' ∧ (v'.ownBlock = v.ownBlock ∨ v'.ownBlock = some h.size)) := by
  cases hq : P.info? e with
  | none => rw [hq] at hi; simp at hi
  | some i =>
    rw [hq] at hi
    simp only [Option.map_some, Option.some.injEq, Prod.mk.injEq] at hi
    have hsz' : 0 < size := by simpa [Nat.blt_eq] using hsz
    refine w_of_run fun r d hr => ?_
    have e1 := hr s (by simp [Op.operands, Call.operands]) _ hs
    have e2 := hr x (by simp [Op.operands, Call.operands]) _ hx
    cases y with
    | none =>
      have hnil : news = [] := by
        rcases hnews with e | ⟨b, o, e, _⟩
        · exact e
        · cases e
      subst hnil
      have hm : m = 0 := by
        simp only [List.length_nil] at hl
        rcases Nat.eq_zero_or_pos m with h0 | h0
        · exact h0
        · have := Nat.mul_pos h0 hsz'; omega
      subst hm
      have hrun : (Builtin.append_ #[t, t] ty #[v, .slice none 0 c]).run P (mkw χ h d) = .ok v (mkw χ h d) := by
        rcases hown.2 with ⟨rfl, rfl⟩ | ⟨g, cap, cur, rfl, _, _, hnc, _⟩
        · simp [Builtin.append_, run_underlying ht, sizeOf, typeInfo, hq, Builtin.lenOf, Builtin.firstCells]
        · simp [Builtin.append_, run_underlying ht, sizeOf, typeInfo, hq, Builtin.lenOf, Builtin.firstCells, hnc, storeCells]
      refine ⟨v, h, d, ?_, by simpa using hown, Keep.refl _ _, .inl rfl⟩
      simp [execOp, resolve, invoke, builtin, e1, e2, hrun]
    | some ad =>
      obtain ⟨v', w', hrun, h2, h3, h4, h5⟩ := run_append_own_at (P := P) (mkw χ h d) base t ty e i z size bytes ht hq hi.1 hi.2.1 hi.2.2 (Nat.eq_of_beq_eq_true hzs) hsz' v n xs hown ad m c news hl
        (fun j u hj => by
          rcases hnews with e | ⟨b, o, e, hc⟩
          · rw [e] at hj; simp at hj
          · cases e; rw [addr_add, cell_mkw]; exact hc j u hj) h1 (by unfold maxLen; omega) hbytes hbase
      obtain ⟨k1, k2⟩ := grown_keep h3
      refine ⟨v', w'.heap, w'.drawn, ?_, ?_, k2, h5⟩
      · simp [execOp, resolve, invoke, builtin, e1, e2, hrun]; exact k1
      · rw [k1] at h2; exact h2
end
section
variable {W : List SpanD} {I : ItI} {t : TypeId} {v0 cm : Value} {c cb : Nat} {d : Bool} {cur : SpanD} {q q' : Pos} {Fin F G : Nat → Prop} {h h' h1 h2 h3 : Heap} {sp sp' sv sv' ev ev' kv kv' a ksv kbv kbv' : Value} {z z' : Int} {nk nb nb' : Nat} {xk xb xb' : List Value} {χ : Chi}
end
set_option maxHeartbeats 2000000
theorem v_ine_nil {P : Program} {χ : Chi} {ρ : Operand → Option Value} {h : Heap} {dst : Option Tmp} {ty : TypeId} {pos : String} {after : Array Edge} {guard : Option (Nat × Bool)} {x : Operand} {t t2 : TypeId} (ht : Tess.IsIface P t) (hx : ρ x = some .nilIface) (hy : ρ (.const .nilIface) = some .nilIface) :
    OpV P χ ⟨dst, .binOp .neq t x (.const .nilIface) t2, ty, pos, after, guard⟩ ρ h (.bool false) := by
  intro r d hr
  have e1 := hr x (by simp [Op.operands]) _ hx
  unfold Tess.IsIface at ht
  cases hu : P.underlying t with
  | none => rw [hu] at ht; simp at ht
  | some d' =>
    rw [hu] at ht
    cases d' <;> first | (simp at ht; done) | skip
    have : (Op.equal t .nilIface .nilIface).run P (mkw χ h d) = .ok true (mkw χ h d) := run_equal' (fun d => by simp [Op.equalIn, run_underlying hu])
    have e2 := hr (.const .nilIface) (by simp [Op.operands]) _ hy
    simp [execOp, e1, e2, eqGuard, binOp, this]
set_option maxHeartbeats 1000000
theorem v_makeIfaceF {P : Program} {χ : Chi} {ρ : Operand → Option Value} {h : Heap} {dst : Option Tmp} {ty : TypeId} {pos : String} {after : Array Edge} {guard : Option (Nat × Bool)} {x : Operand} {t : TypeId} {v : Value} (ht : Tess.IsFunc P t) (hx : ρ x = some v) : OpV P χ ⟨dst, .makeInterface t x, ty, pos, after, guard⟩ ρ h (.iface t v) := by
  intro r d hr
  have e1 := hr x (by simp [Op.operands]) _ hx
  unfold Tess.IsFunc at ht
  cases hu : P.underlying t with
  | none => rw [hu] at ht; simp at ht
  | some d' =>
    rw [hu] at ht
    cases d' <;> first | (simp at ht; done) | skip
    simp [execOp, e1, Instr.makeInterface, run_underlying hu]
section
variable {A : Nat → Prop} {h : Heap} {v : Value} {cb : Nat} {cs : List Value} {T : TypeId}
end
set_option maxHeartbeats 1000000
theorem putRow_app (A c B u : List Value) (d : Nat) (h : d + u.length ≤ c.length) : putRow (A ++ c ++ B) (A.length + d) u = A ++ putRow c d u ++ B := by
  unfold putRow
  rw [List.append_assoc A c B, List.take_append, List.drop_append, List.take_append, List.drop_append]
  rw [List.take_of_length_le (by omega : A.length ≤ A.length + d), List.drop_of_length_le (by omega : A.length ≤ A.length + d + u.length)]
  rw [show A.length + d - A.length = d from by omega, show A.length + d + u.length - A.length = d + u.length from by omega]
  rw [show d - c.length = 0 from by omega, show d + u.length - c.length = 0 from by omega]
  simp
theorem putRow_all {c u : List Value} (h : u.length = c.length) : putRow c 0 u = u := by
  unfold putRow
  rw [List.take_zero, Nat.zero_add, h, List.drop_of_length_le (Nat.le_refl _), List.nil_append, List.append_nil]
theorem RowsR.setF {α : Type} {sz : Nat} {R : List Value → α → Prop} {xs : List Value} {ls : List α} (h : RowsR sz R xs ls) {i d : Nat} {u : List Value} {a : α} (hi : i < ls.length) (hd : d + u.length ≤ sz)
    (hr : ∀ c b, ls[i]? = some b → c.length = sz → R c b → R (putRow c d u) a) : RowsR sz R (putRow xs (i * sz + d) u) (ls.set i a) := by
  obtain ⟨css, rfl, hl, hx⟩ := h
  have hci : css[i]? = some (css[i]'(by omega)) := List.getElem?_eq_getElem (by omega)
  have hai : ls[i]? = some ls[i] := List.getElem?_eq_getElem hi
  obtain ⟨hcl, hcr⟩ := hx i _ _ hci hai
  have hlens := RowsR.lens hl hx
  have hpl : (putRow (css[i]'(by omega)) d u).length = sz := by
    simp only [putRow, List.length_append, List.length_take, List.length_drop, hcl]; omega
  have e : putRow css.flatten (i * sz + d) u = putRow css.flatten (i * sz) (putRow (css[i]'(by omega)) d u) := by
    have hs : css.flatten = (css.take i).flatten ++ css[i]'(by omega) ++ (css.drop (i + 1)).flatten := by
      have h9 := congrArg List.flatten (List.take_append_drop i css)
      rw [List.drop_eq_getElem_cons (by omega : i < css.length), List.flatten_append, List.flatten_cons] at h9
      rw [← h9, List.append_assoc]
    have hal : (css.take i).flatten.length = i * sz := by
      rw [← (flatten_take css i hlens (by omega)).1, List.length_take]
      have : css.flatten.length = css.length * sz := by
        have := RowsR.len (sz := sz) (R := R) (xs := css.flatten) (α := α) ⟨css, rfl, hl, hx⟩
        rw [this, hl]
      rw [this]
      exact Nat.min_eq_left (Nat.mul_le_mul_right sz (by omega))
    rw [hs, ← hal, putRow_app _ _ _ _ _ (by omega)]
    refine Eq.trans ?_ (putRow_app (css.take i).flatten (css[i]'(by omega)) (css.drop (i + 1)).flatten (putRow (css[i]'(by omega)) d u) 0 (by omega)).symm
    rw [putRow_all (by rw [hpl, hcl])]
  rw [e]
  exact RowsR.set ⟨css, rfl, hl, hx⟩ hpl (hr _ _ hai hcl hcr) hi
set_option maxHeartbeats 1000000
theorem descB_map {l m : List KeyD} (h : l.map (·.tr) = m.map (·.tr)) (hd : descB l = true) : descB m = true := by
  have h1 := (desc_pair l).1 hd
  have h2 : (l.map (·.tr)).Pairwise (fun a b => b ≤ a) := List.pairwise_map.2 h1
  rw [h] at h2
  exact (desc_pair m).2 (List.pairwise_map.1 h2)
theorem swapAt_tr {l : List KeyD} {j : Nat} (h : lessAt l (j + 1) = true) (hd : descB l = true) : (swapAt l j).map (·.tr) = l.map (·.tr) := by
  simp only [lessAt] at h
  cases ha : l[j + 1]? with
  | none => rw [ha] at h; cases h
  | some a =>
    cases hb : l[j]? with
    | none => rw [ha, hb] at h; cases h
    | some b =>
      rw [ha, hb] at h
      simp only at h
      have h1 : b.tr ≤ a.tr := by
        unfold keyLess at h
        split at h
        · omega
        · simp at h; omega
      have h2 : a.tr ≤ b.tr := by
        have hp := (desc_pair l).1 hd
        have := List.pairwise_iff_getElem.1 hp j (j + 1) (List.getElem?_eq_some_iff.1 hb).1 (List.getElem?_eq_some_iff.1 ha).1 (by omega)
        rw [(List.getElem?_eq_some_iff.1 hb).2, (List.getElem?_eq_some_iff.1 ha).2] at this
        exact this
      have e : a.tr = b.tr := by omega
      have es : swapAt l j = (l.set (j + 1) b).set j a := by simp [swapAt, ha, hb]
      rw [es, List.map_set, List.map_set]
      refine List.ext_getElem? fun i => ?_
      rw [List.getElem?_set, List.getElem?_set]
      simp only [List.length_set, List.length_map, List.getElem?_map]
      have hl1 := (List.getElem?_eq_some_iff.1 hb).1
      have hl2 := (List.getElem?_eq_some_iff.1 ha).1
      by_cases e1 : j = i
      · subst e1; simp [hl1, hb, e]; rw [(List.getElem?_eq_some_iff.1 hb).2]
      · by_cases e2 : j + 1 = i
        · subst e2; simp [ha, hl2, e]; rw [(List.getElem?_eq_some_iff.1 ha).2, e]
        · simp [e1, e2]
theorem insW_tr : ∀ (j : Nat) (l : List KeyD), descB l = true → (insW l j).map (·.tr) = l.map (·.tr)
  | 0, l, _ => rfl
  | j + 1, l, hd => by
    simp only [insW]
    split
    · rename_i h
      have e := swapAt_tr h hd
      rw [insW_tr j _ (descB_map e.symm hd), e]
    · rfl
theorem descB_take {l : List KeyD} (h : descB l = true) (k : Nat) : descB (l.take k) = true :=
  (desc_pair _).2 (((desc_pair _).1 h).sublist (List.take_sublist k l))
theorem canonF_tr {ks : List KeyD} (hd : descB ks = true) : ∀ k, k ≤ ks.length → (canonF (ks.take k)).map (·.tr) = (ks.take k).map (·.tr)
  | 0, _ => rfl
  | k + 1, hk => by
    obtain ⟨x, hx⟩ := ex_get (L := ks) (k := k) (by omega)
    rw [take_snoc' hx, canonF_snoc]
    have e : (canonF (ks.take k) ++ [x]).map (·.tr) = (ks.take k ++ [x]).map (·.tr) := by rw [List.map_append, List.map_append, canonF_tr hd k (by omega)]
    rw [insW_tr _ _ (descB_map e.symm (by rw [← take_snoc' hx]; exact descB_take hd _)), e]
theorem swapAt_mem {l : List KeyD} {j : Nat} {x : KeyD} (h : x ∈ swapAt l j) : x ∈ l := by
  unfold swapAt at h
  split at h
  · rename_i a b ha hb
    rcases List.mem_or_eq_of_mem_set h with h | rfl
    · rcases List.mem_or_eq_of_mem_set h with h | rfl
      · exact h
      · exact List.mem_of_getElem? hb
    · exact List.mem_of_getElem? ha
  · exact h
theorem insW_mem : ∀ (j : Nat) (l : List KeyD) (x : KeyD), x ∈ insW l j → x ∈ l
  | 0, l, x, h => h
  | j + 1, l, x, h => by
    simp only [insW] at h
    split at h
    · exact swapAt_mem (insW_mem j _ x h)
    · exact h
theorem canonF_mem {ks : List KeyD} {x : KeyD} : ∀ k, k ≤ ks.length → x ∈ canonF (ks.take k) → x ∈ ks
  | 0, _, h => by simp [canonF] at h
  | k + 1, hk, h => by
    obtain ⟨y, hy⟩ := ex_get (L := ks) (k := k) (by omega)
    rw [take_snoc' hy, canonF_snoc] at h
    rcases List.mem_append.1 (insW_mem _ _ x h) with h | h
    · exact canonF_mem k (by omega) h
    · simp at h; subst h; exact List.mem_of_getElem? hy
theorem canonF_sub {ks : List KeyD} {x : KeyD} (h : x ∈ canonF ks) : x ∈ ks := by
  have := canonF_mem (ks := ks) (x := x) ks.length (Nat.le_refl _)
  rw [List.take_length] at this
  exact this h
set_option maxHeartbeats 1000000
def atF (a e : ByteArray) (keys : List ByteArray) : ByteArray := keys.foldl (fun t k => if slt a k && slt k t then k else t) e
theorem slt_irr (a : ByteArray) : slt a a = false := by
  cases h : slt a a with
  | false => rfl
  | true => have := slt_iff.1 h; have h2 := sle_iff.1 (sle_refl a); have h3 := not_slt.2 (sle_refl a); rw [h] at h3; cases h3
def OrdF : ByteArray → List SpanD → Prop
  | _, [] => True
  | lo, s :: r => sle lo s.s = true ∧ slt s.s s.e = true ∧ OrdF s.e r
theorem ord_ordF : ∀ (r : List SpanD) (s : SpanD), Tess.Ord (s :: r) ↔ slt s.s s.e = true ∧ OrdF s.e r
  | [], s => ⟨fun h => ⟨h.1 s (by simp), trivial⟩, fun h => ⟨by intro x hx; simp at hx; subst hx; exact h.1, by intro i a b _ hb; simp at hb⟩⟩
  | t :: r, s => by
    constructor
    · intro h
      refine ⟨h.1 s (by simp), h.2 0 s t rfl rfl, ?_⟩
      exact (ord_ordF r t).1 ⟨fun x hx => h.1 x (by simp [hx]), fun i a b ha hb => h.2 (i + 1) a b (by simpa using ha) (by simpa using hb)⟩
    · rintro ⟨h1, h2, h3⟩
      have ht := (ord_ordF r t).2 h3
      refine ⟨fun x hx => ?_, fun i a b ha hb => ?_⟩
      · rcases List.mem_cons.1 hx with e | e
        · rw [e]; exact h1
        · exact ht.1 x e
      · cases i with
        | zero => simp at ha hb; subst ha; subst hb; exact h2
        | succ i => exact ht.2 i a b (by simpa using ha) (by simpa using hb)
theorem OrdF.lo {a b : ByteArray} {L : List SpanD} (h : OrdF b L) (hab : sle a b = true) : OrdF a L := by
  cases L with
  | nil => trivial
  | cons s r => exact ⟨sle_trans hab h.1, h.2⟩
theorem ord_of_ordF {lo : ByteArray} {L : List SpanD} (h : OrdF lo L) : Tess.Ord L := by
  cases L with
  | nil => exact ⟨by simp, by intro i a b ha _; simp at ha⟩
  | cons s r => exact (ord_ordF r s).2 h.2
theorem ordF_of_ord {W : List SpanD} (h : Tess.Ord W) : ∃ lo, OrdF lo W := by
  cases W with
  | nil => exact ⟨ByteArray.empty, trivial⟩
  | cons s r => exact ⟨s.s, sle_refl _, (ord_ordF r s).1 h⟩
theorem jn_of {a b : SpanD} (h1 : a.e = b.s) (h2 : a.ks = b.ks) : jn a b = true := jn_iff.2 ⟨h1, h2⟩
set_option maxHeartbeats 2000000
abbrev tcF (x y : ByteArray) (s : SpanD) : Option SpanD := ffT none none x y s
theorem cmp_eq {a b : ByteArray} (h1 : sle a b = true) (h2 : sle b a = true) : a = b := by
  refine seq_iff.1 ?_
  have h3 := not_slt.2 h1
  have h4 := not_slt.2 h2
  simp only [sle] at h1
  rw [h4] at h1
  simpa using h1
theorem cutLo_x (x : ByteArray) (s : SpanD) : sle x (cutLo x s) = true := by
  unfold cutLo
  cases hq : slt s.s x with
  | true => rw [if_pos rfl]; exact sle_refl _
  | false => rw [if_neg (by decide)]; exact not_slt.1 hq
theorem cutUp_y (y : ByteArray) (s : SpanD) : sle (cutUp y s) y = true := by
  unfold cutUp
  cases hq : slt y s.e with
  | true => rw [if_pos rfl]; exact sle_refl _
  | false => rw [if_neg (by decide)]; exact not_slt.1 hq
theorem sle_ns {a b : ByteArray} (h : sle a b = true) : slt b a = false := not_slt.2 h
theorem cutLo_off {x : ByteArray} {s : SpanD} (h : sle x s.s = true) : cutLo x s = s.s := by unfold cutLo; rw [if_neg (by rw [sle_ns h]; decide)]
theorem cutLo_on {x : ByteArray} {s : SpanD} (h : sle s.s x = true) : cutLo x s = x := by
  unfold cutLo
  cases hq : slt s.s x with
  | true => rw [if_pos rfl]
  | false => rw [if_neg (by decide)]; exact cmp_eq h (not_slt.1 hq)
theorem cutUp_off {y : ByteArray} {s : SpanD} (h : sle s.e y = true) : cutUp y s = s.e := by unfold cutUp; rw [if_neg (by rw [sle_ns h]; decide)]
theorem cutUp_on {y : ByteArray} {s : SpanD} (h : sle y s.e = true) : cutUp y s = y := by
  unfold cutUp
  cases hq : slt y s.e with
  | true => rw [if_pos rfl]
  | false => rw [if_neg (by decide)]; exact cmp_eq (not_slt.1 hq) h
theorem tc_none {x y : ByteArray} {s : SpanD} (h : sle (cutUp y s) (cutLo x s) = true) : tcF x y s = none := by rw [tcF, ffT_plain, sle_ns h]; rfl
theorem tc_some {x y : ByteArray} {s : SpanD} (h : slt (cutLo x s) (cutUp y s) = true) : tcF x y s = some ⟨cutLo x s, cutUp y s, s.ks⟩ := by rw [tcF, ffT_plain, h]; rfl
def CutEq (L M : List SpanD) : Prop := dfr L = dfr M ∧ ∀ c, joinF c L = joinF c M
theorem CutEq.refl (L : List SpanD) : CutEq L L := ⟨rfl, fun _ => rfl⟩
theorem CutEq.cons {L M : List SpanD} (h : CutEq L M) (s : SpanD) : CutEq (s :: L) (s :: M) :=
  ⟨h.2 s, fun c => by simp only [joinF]; rw [h.2, h.2]⟩
theorem CutEq.cut (l b u : ByteArray) (k : List KeyD) (R : List SpanD) : CutEq (⟨l, b, k⟩ :: ⟨b, u, k⟩ :: R) (⟨l, u, k⟩ :: R) := by
  have e : ∀ c : SpanD, c.e = b → c.ks = k → joinF c (⟨b, u, k⟩ :: R) = joinF ⟨c.s, u, c.ks⟩ R := fun c h1 h2 => by simp only [joinF, jn_of (a := c) (b := ⟨b, u, k⟩) h1 h2, if_true]
  refine ⟨e _ rfl rfl, fun c => ?_⟩
  cases hj : jn c ⟨l, b, k⟩ with
  | true =>
    have hj2 : jn c ⟨l, u, k⟩ = true := hj
    have e1 : joinF c (⟨l, b, k⟩ :: ⟨b, u, k⟩ :: R) = joinF ⟨c.s, b, c.ks⟩ (⟨b, u, k⟩ :: R) := if_pos hj
    have e2 : joinF c (⟨l, u, k⟩ :: R) = joinF ⟨c.s, u, c.ks⟩ R := if_pos hj2
    rw [e1, e2]
    exact e ⟨c.s, b, c.ks⟩ rfl (jn_iff.1 hj).2
  | false =>
    have hj2 : jn c ⟨l, u, k⟩ = false := hj
    have e1 : joinF c (⟨l, b, k⟩ :: ⟨b, u, k⟩ :: R) = c :: joinF ⟨l, b, k⟩ (⟨b, u, k⟩ :: R) := if_neg (by rw [hj]; decide)
    have e2 : joinF c (⟨l, u, k⟩ :: R) = c :: joinF ⟨l, u, k⟩ R := if_neg (by rw [hj2]; decide)
    rw [e1, e2, e ⟨l, b, k⟩ rfl rfl]
def TL (x y : ByteArray) (W : List SpanD) : List SpanD := W.filterMap (ffT none none x y)
theorem TL_cons (x y : ByteArray) (s : SpanD) (r : List SpanD) : TL x y (s :: r) = (tcF x y s).toList ++ TL x y r := by
  unfold TL tcF
  rw [List.filterMap_cons]
  cases ffT none none x y s <;> rfl
theorem tc_behind {a b c : ByteArray} {t : SpanD} (hab : sle a b = true) (h : sle b t.s = true) : tcF a b t = none ∧ tcF a c t = tcF b c t := by
  have h1 : sle a t.s = true := sle_trans hab h
  refine ⟨tc_none (by rw [cutLo_off h1]; exact sle_trans (cutUp_y b t) h), ?_⟩
  rw [tcF, tcF, ffT_plain, ffT_plain, cutLo_off h1, cutLo_off h]
theorem TL_behind {a b c : ByteArray} (hab : sle a b = true) : ∀ (W : List SpanD) (lo : ByteArray), OrdF lo W → sle b lo = true → TL a b W = [] ∧ TL a c W = TL b c W
  | [], _, _, _ => ⟨rfl, rfl⟩
  | t :: r, lo, h, hb => by
    have h1 := sle_trans hb h.1
    obtain ⟨e1, e2⟩ := tc_behind (c := c) hab h1
    obtain ⟨e3, e4⟩ := TL_behind (c := c) hab r t.e h.2.2 (sle_trans h1 (slt_sle h.2.1))
    rw [TL_cons, TL_cons, TL_cons, e1, e2, e3, e4]
    exact ⟨rfl, rfl⟩
theorem parts_cut {a b c : ByteArray} (hab : sle a b = true) (hbc : sle b c = true) : ∀ (W : List SpanD) (lo : ByteArray), OrdF lo W → CutEq (TL a b W ++ TL b c W) (TL a c W)
  | [], _, _ => CutEq.refl _
  | s :: r, lo, h => by
    cases he : sle s.e b with
    | true =>
      -- ahead of the middle
      have e1 : tcF a b s = tcF a c s := by rw [tcF, tcF, ffT_plain, ffT_plain, cutUp_off he, cutUp_off (sle_trans he hbc)]
      have e2 : tcF b c s = none := tc_none (sle_trans (cutUp_le c s) (sle_trans he (cutLo_x b s)))
      have ih := parts_cut hab hbc r s.e h.2.2
      rw [TL_cons, TL_cons, TL_cons, e1, e2]
      cases hq : tcF a c s with
      | none => exact ih
      | some t => exact ih.cons t
    | false =>
      have hbe : slt b s.e = true := not_sle.1 he
      obtain ⟨e3, e4⟩ := TL_behind (c := c) hab r s.e h.2.2 (slt_sle hbe)
      rw [TL_cons, TL_cons, TL_cons, e3, e4, List.append_nil]
      cases hs : sle b s.s with
      | true =>
        obtain ⟨e1, e2⟩ := tc_behind (c := c) hab hs
        rw [e1, e2]; exact CutEq.refl _
      | false =>
        have hsb : slt s.s b = true := not_sle.1 hs
        have f1 : cutUp b s = b := cutUp_on (slt_sle hbe)
        have f2 : cutLo b s = b := cutLo_on (slt_sle hsb)
        have hlb : sle (cutLo a s) b = true := by
          unfold cutLo; split
          · exact hab
          · exact slt_sle hsb
        have hbu : sle b (cutUp c s) = true := by
          unfold cutUp; split
          · exact hbc
          · exact slt_sle hbe
        cases h1 : slt (cutLo a s) b with
        | false =>
          have el : cutLo a s = b := cmp_eq hlb (not_slt.1 h1)
          have e1 : tcF a b s = none := tc_none (by rw [f1, el]; exact sle_refl _)
          have e2 : tcF a c s = tcF b c s := by rw [tcF, tcF, ffT_plain, ffT_plain, el, f2]
          rw [e1, e2]; exact CutEq.refl _
        | true =>
          have e1 : tcF a b s = some ⟨cutLo a s, b, s.ks⟩ := by rw [tc_some (by rw [f1]; exact h1), f1]
          cases h2 : slt b (cutUp c s) with
          | false =>
            have eu : cutUp c s = b := cmp_eq (not_slt.1 h2) hbu
            have e2 : tcF b c s = none := tc_none (by rw [f2, eu]; exact sle_refl _)
            have e5 : tcF a c s = some ⟨cutLo a s, b, s.ks⟩ := by rw [tc_some (by rw [eu]; exact h1), eu]
            rw [e1, e2, e5]; exact CutEq.refl _
          | true =>
            have e2 : tcF b c s = some ⟨b, cutUp c s, s.ks⟩ := by rw [tc_some (by rw [f2]; exact h2), f2]
            have e5 : tcF a c s = some ⟨cutLo a s, cutUp c s, s.ks⟩ := tc_some (slt_of_slt_sle h1 hbu)
            rw [e1, e2, e5]
            exact CutEq.cut _ _ _ _ _
theorem TL_ordF (x y : ByteArray) : ∀ (W : List SpanD) (lo : ByteArray), OrdF lo W → OrdF lo (TL x y W)
  | [], _, _ => trivial
  | s :: r, lo, h => by
    have ih := TL_ordF x y r s.e h.2.2
    rw [TL_cons]
    cases hq : slt (cutLo x s) (cutUp y s) with
    | true =>
      rw [tc_some hq]
      exact ⟨sle_trans h.1 (cutLo_ge x s), hq, ih.lo (cutUp_le y s)⟩
    | false =>
      rw [tc_none (not_slt.1 hq)]
      exact ih.lo (sle_trans h.1 (slt_sle h.2.1))
theorem TL_len (x y : ByteArray) (W : List SpanD) : (TL x y W).length ≤ W.length := List.length_filterMap_le _ _
end Go.Proofs.YtmckkklhonfmcaaGreat
namespace Go.Proofs.YtmckkklhonfmcaaGreat
open Go.Tess Go.RowKit
open Go.Sort (swp order2 median medianAdjacent insInner insOuter insertionSort siftDown heapBuild heapPop heapSort scanUp scanDown partLoop partition partEqLoop partitionEqual scanSorted shiftDown shiftUp partialIns partialInsertionSort choosePivot reverseLoop reverseRange xorNext bitsLen breakStep breakPatterns pdq Hint)
set_option maxRecDepth 100000
set_option maxHeartbeats 1000000
structure SortM {α : Type} [Inhabited α] (χ : Chi) (T : TypeId) (rv : Value) (n : Nat) (lt : α → α → Bool) (blk : Nat) (F : Nat → Prop) (R : Array α → Heap → Prop) : Prop where
  small : n ≤ 1000000
  size : ∀ {d h}, R d h → d.size = n
  fb : F blk
  low : ∀ {d h}, R d h → Low F h
  stab : ∀ {d h h'}, R d h → Stab F h h' → h.size ≤ h'.size → R d h'
  len : ∀ {d h}, R d h → MCall Tryz.prog χ T rv "Len" [] h (fun r h' => r = .int .i64 (n : Int) ∧ R d h' ∧ Keep [blk] h h')
  less : ∀ {d h} {i j : Nat}, R d h → i < n → j < n → MCall Tryz.prog χ T rv "Less" [.int .i64 (i : Int), .int .i64 (j : Int)] h (fun r h' => r = .bool (lt d[i]! d[j]!) ∧ R d h' ∧ Keep [blk] h h')
  swap : ∀ {d h} {i j : Nat}, R d h → i < n → j < n → MCall Tryz.prog χ T rv "Swap" [.int .i64 (i : Int), .int .i64 (j : Int)] h (fun r h' => r = .tuple #[] ∧ R (swp d i j) h' ∧ Keep [blk] h h')
section
variable {α : Type} [Inhabited α] {χ : Chi} {T : TypeId} {rv : Value} {n : Nat} {lt : α → α → Bool} {blk : Nat} {F : Nat → Prop} {R : Array α → Heap → Prop} {d : Array α} {h h' : Heap}
theorem SortM.less' (M : SortM χ T rv n lt blk F R) (hR : R d h) {i j : Nat} {x y : Int} (hi : i < n) (hj : j < n) (hx : x = (i : Int)) (hy : y = (j : Int)) :
    MCall Tryz.prog χ T rv "Less" [.int .i64 x, .int .i64 y] h (fun r h' => r = .bool (lt d[i]! d[j]!) ∧ R d h' ∧ Keep [blk] h h') := by subst hx; subst hy; exact M.less hR hi hj
theorem SortM.swap' (M : SortM χ T rv n lt blk F R) (hR : R d h) {i j : Nat} {x y : Int} (hi : i < n) (hj : j < n) (hx : x = (i : Int)) (hy : y = (j : Int)) :
    MCall Tryz.prog χ T rv "Swap" [.int .i64 x, .int .i64 y] h (fun r h' => r = .tuple #[] ∧ R (swp d i j) h' ∧ Keep [blk] h h') := by subst hx; subst hy; exact M.swap hR hi hj
theorem SortM.keep (M : SortM χ T rv n lt blk F R) (hR : R d h) {X : List Nat} (K : Keep X h h') (hX : ∀ x, x ∈ X → ¬ F x) : R d h' := M.stab hR (K.stab fun b hb => ⟨M.low hR b hb, fun hm => hX b hm hb⟩) K.1
theorem order2_lt {a b s m : Nat} (ha : a < m) (hb : b < m) : (order2 lt d a b s).1 < m ∧ (order2 lt d a b s).2.1 < m ∧ (order2 lt d a b s).2.2 ≤ s + 1 := by unfold order2; split <;> simp <;> omega
end
theorem c_order2 {α : Type} [Inhabited α] {χ : Chi} {T : TypeId} {rv : Value} {n : Nat} {lt : α → α → Bool} {blk : Nat} {F : Nat → Prop} {R : Array α → Heap → Prop} (M : SortM χ T rv n lt blk F R) {d : Array α} {h : Heap} {a b s c0 : Nat} (hR : R d h) (ha : a < n) (hb : b < n) (Bs : Blk h c0 [.int .i64 (s : Int)] 3) (hc : ¬ F c0) (hs : s ≤ 1000) :
    Cl Tryz.prog χ 156 #[.iface T rv, .int .i64 (a : Int), .int .i64 (b : Int), .pointer (some ⟨c0, 0, none⟩)] h (fun r h' => r = .tuple #[.int .i64 (((order2 lt d a b s).1 : Nat) : Int), .int .i64 (((order2 lt d a b s).2.1 : Nat) : Int)] ∧ R d h' ∧ Blk h' c0 [.int .i64 (((order2 lt d a b s).2.2 : Nat) : Int)] 3 ∧ Keep [blk, c0] h h') := by
  have hbc : c0 ≠ blk := fun e => hc (by rw [e]; exact M.fb)
  refine cl_intro Tryz.func156 rfl rfl rfl ?_
  have K : Keep [blk, c0] h h := Keep.refl _ _
  refine rG <| rA rfl rfl <| rA rfl rfl <| rN ?_
  refine tr_seq ?_
  refine rG <| rM rfl rfl <| rM rfl rfl <| rM rfl rfl <| rs_w (w_mcall (vs := [_, _]) (M.less' hR (i := b) (j := a) (by omega) (by omega) (by first | rfl | omega) (by first | rfl | omega)) rfl ⟨rfl, rfl, trivial⟩) rfl ?_
  rintro _ h1 ⟨rfl, hR, K1⟩
  have K := K.trans (K1.sub (by simp))
  have Bs := K1.blk (by simp; exact hbc) Bs
  refine rN ?_
  refine tr_if rfl (fun hif => ?_) (fun hif => ?_)
  · -- yes
    skip
    refine rG <| rM rfl rfl <| rC rfl rfl <| rs_v (v_load one_int rfl (by exact Bs.cell _ rfl)) rfl ?_
    refine rs_v (v_add rfl rfl (by omega) (by omega)) rfl ?_
    refine rC rfl rfl <| rs_w0 (w_put siz_int rfl rfl rfl rfl Bs rfl) ?_
    rintro _ h2 ⟨Bs, K2⟩
    have K := K.trans (K2.sub (by simp))
    have hR := M.keep hR K2 (fun x hx => by simp at hx; subst hx; exact hc)
    refine rN <| rG <| rM rfl rfl <| rM rfl rfl <| rA rfl rfl <| rA rfl rfl <| rN <| tr_ret <| q_thn_ret <| q_ret (res_tmp2 rfl rfl rfl) ?_
    refine ⟨?_, hR, ?_, K⟩
    · simp [order2, hif]
    · have e : (order2 lt d a b s).2.2 = s + 1 := by simp [order2, hif]
      rw [e]; exact Bs
  -- no
  skip
  refine tr_skip ?_
  refine q_thn ?_
  refine rG <| rM rfl rfl <| rM rfl rfl <| rA rfl rfl <| rA rfl rfl <| rN <| tr_ret <| q_ret (res_tmp2 rfl rfl rfl) ?_
  refine ⟨?_, hR, ?_, K⟩
  · simp [order2, hif]
  · have e : (order2 lt d a b s).2.2 = s := by simp [order2, hif]
    rw [e]; exact Bs
theorem c_median {α : Type} [Inhabited α] {χ : Chi} {T : TypeId} {rv : Value} {n : Nat} {lt : α → α → Bool} {blk : Nat} {F : Nat → Prop} {R : Array α → Heap → Prop} (M : SortM χ T rv n lt blk F R) {d : Array α} {h : Heap} {a b c s c0 : Nat} (hR : R d h) (ha : a < n) (hb : b < n) (hcc : c < n) (Bs : Blk h c0 [.int .i64 (s : Int)] 3) (hc : ¬ F c0) (hs : s ≤ 100) :
    Cl Tryz.prog χ 152 #[.iface T rv, .int .i64 (a : Int), .int .i64 (b : Int), .int .i64 (c : Int), .pointer (some ⟨c0, 0, none⟩)] h (fun r h' => r = .int .i64 (((median lt d a b c s).1 : Nat) : Int) ∧ R d h' ∧ Blk h' c0 [.int .i64 (((median lt d a b c s).2 : Nat) : Int)] 3 ∧ Keep [blk, c0] h h') := by
  have l1 := order2_lt (lt := lt) (d := d) (s := s) ha hb
  have l2 := order2_lt (lt := lt) (d := d) (s := (order2 lt d a b s).2.2) l1.2.1 hcc
  have l3 := order2_lt (lt := lt) (d := d) (s := (order2 lt d (order2 lt d a b s).2.1 c (order2 lt d a b s).2.2).2.2) l1.1 l2.1
  refine cl_intro Tryz.func152 rfl rfl rfl ?_
  have K : Keep [blk, c0] h h := Keep.refl _ _
  refine rG <| rA rfl rfl <| rN <| rG <| rM rfl rfl <| rM rfl rfl <| rM rfl rfl <| rM rfl rfl <| rs_w (w_call (vs := [_, _, _, _]) ok_sort_order2 rfl ⟨rfl, rfl, rfl, rfl, trivial⟩ (c_order2 M hR ha hb Bs hc (by omega))) rfl ?_
  rintro _ h1 ⟨rfl, hR, Bs, K1⟩
  have K := K.trans K1
  refine rM rfl rfl <| rs_v (v_extract rfl rfl) rfl ?_
  refine rs_v (v_extract rfl rfl) rfl ?_
  refine rA rfl rfl <| rA rfl rfl <| rN <| rG <| rM rfl rfl <| rM rfl rfl <| rM rfl rfl <| rM rfl rfl <| rs_w (w_call (vs := [_, _, _, _]) ok_sort_order2 rfl ⟨rfl, rfl, rfl, rfl, trivial⟩ (c_order2 M hR l1.2.1 hcc Bs hc (by omega))) rfl ?_
  rintro _ h2 ⟨rfl, hR, Bs, K2⟩
  have K := K.trans K2
  refine rM rfl rfl <| rs_v (v_extract rfl rfl) rfl ?_
  refine rs_v (v_extract rfl rfl) rfl ?_
  refine rA rfl rfl <| rA rfl rfl <| rN <| rG <| rM rfl rfl <| rM rfl rfl <| rM rfl rfl <| rM rfl rfl <| rs_w (w_call (vs := [_, _, _, _]) ok_sort_order2 rfl ⟨rfl, rfl, rfl, rfl, trivial⟩ (c_order2 M hR l1.1 l2.1 Bs hc (by omega))) rfl ?_
  rintro _ h3 ⟨rfl, hR, Bs, K3⟩
  have K := K.trans K3
  refine rM rfl rfl <| rs_v (v_extract rfl rfl) rfl ?_
  refine rs_v (v_extract rfl rfl) rfl ?_
  refine rA rfl rfl <| rA rfl rfl <| rN <| rG <| rM rfl rfl <| rA rfl rfl <| rN <| tr_ret <| q_ret (res_tmp rfl rfl) ?_
  exact ⟨rfl, hR, Bs, K⟩
theorem c_medianAdjacent {α : Type} [Inhabited α] {χ : Chi} {T : TypeId} {rv : Value} {n : Nat} {lt : α → α → Bool} {blk : Nat} {F : Nat → Prop} {R : Array α → Heap → Prop} (M : SortM χ T rv n lt blk F R) {d : Array α} {h : Heap} {a s c0 : Nat} (hR : R d h) (ha0 : 1 ≤ a) (ha : a + 1 < n) (Bs : Blk h c0 [.int .i64 (s : Int)] 3) (hc : ¬ F c0) (hs : s ≤ 100) :
    Cl Tryz.prog χ 151 #[.iface T rv, .int .i64 (a : Int), .pointer (some ⟨c0, 0, none⟩)] h (fun r h' => r = .int .i64 (((medianAdjacent lt d a s).1 : Nat) : Int) ∧ R d h' ∧ Blk h' c0 [.int .i64 (((medianAdjacent lt d a s).2 : Nat) : Int)] 3 ∧ Keep [blk, c0] h h') := by
  have hn := M.small
  refine cl_intro Tryz.func151 rfl rfl rfl ?_
  have K : Keep [blk, c0] h h := Keep.refl _ _
  refine rG <| rA rfl rfl <| rN <| rG <| rM rfl rfl <| rM rfl rfl <| rs_v (v_sub rfl rfl (by omega) (by omega)) rfl ?_
  refine rM rfl rfl <| rM rfl rfl <| rs_v (v_add rfl rfl (by omega) (by omega)) rfl ?_
  refine rM rfl rfl <| rs_w (w_call (vs := [_, _, _, _, _]) ok_sort_median rfl ⟨rfl, rfl, rfl, rfl, rfl, trivial⟩ (by rw [show ((a : Int) - 1) = ((a - 1 : Nat) : Int) from by omega, show ((a : Int) + 1) = ((a + 1 : Nat) : Int) from by omega]; exact c_median M hR (by omega) (by omega) ha Bs hc hs)) rfl ?_
  rintro _ h1 ⟨rfl, hR, Bs, K1⟩
  have K := K.trans K1
  refine rA rfl rfl <| rN <| tr_ret <| q_ret (res_tmp rfl rfl) ?_
  exact ⟨rfl, hR, Bs, K⟩
theorem c_reverseRange {α : Type} [Inhabited α] {χ : Chi} {T : TypeId} {rv : Value} {n : Nat} {lt : α → α → Bool} {blk : Nat} {F : Nat → Prop} {R : Array α → Heap → Prop} (M : SortM χ T rv n lt blk F R) {d : Array α} {h : Heap} {a b : Nat} (hR : R d h) (hab : a < b) (hb : b ≤ n) :
    Cl Tryz.prog χ 139 #[.iface T rv, .int .i64 (a : Int), .int .i64 (b : Int)] h (fun r h' => r = .tuple #[] ∧ R (reverseRange d a b) h' ∧ Keep [blk] h h') := by
  have hn := M.small
  refine cl_intro Tryz.func139 rfl rfl rfl ?_
  have K : Keep [blk] h h := Keep.refl _ _
  refine rG <| rM rfl rfl <| rA rfl rfl <| rN <| rG <| rM rfl rfl <| rs_v (v_sub rfl rfl (by omega) (by omega)) rfl ?_
  refine rA rfl rfl <| rN <| tr_block ?_
  refine tr_loop (fun m E h' => ∃ i j d', j + 1 ≤ b ∧ m = j - i ∧ E = [(0, .iface T rv), (1, .int .i64 (a : Int)), (2, .int .i64 (b : Int)), (6, .int .i64 (i : Int)), (7, .int .i64 (j : Int))] ∧ R d' h' ∧ Keep [blk] h h' ∧ reverseLoop i j d' = reverseRange d a b) (b - 1 - a) [(0, _), (1, _), (2, _), (6, _), (7, _)] ⟨rfl, rfl, rfl, rfl, rfl, trivial⟩ ⟨a, b - 1, d, by omega, rfl, by rw [show ((b : Int) - 1) = ((b - 1 : Nat) : Int) from by omega], hR, K, rfl⟩ ?_
  rintro m E hL1 ⟨i, j, d', hj, rfl, rfl, hR, K, he⟩
  refine tr_seq ?_
  refine rG <| rM rfl rfl <| rM rfl rfl <| rs_v (v_lt rfl rfl) rfl ?_
  refine rN ?_
  refine tr_ifn rfl (fun hif => ?_) (fun hif => ?_)
  · -- no
    simp only [dT, dF] at hif
    refine tr_exit <| q_thn_exit ?_
    refine q_lp_exit ?_
    refine q_blk_hit ?_
    refine q_end (res_none rfl) ?_
    refine ⟨rfl, ?_, K⟩
    rw [← he, reverseLoop, if_neg (by omega)]; exact hR
  -- yes
  simp only [dT, dF] at hif
  have hij : i < j := by omega
  refine tr_skip ?_
  refine q_thn ?_
  refine tr_block <| rG <| rM rfl rfl <| rM rfl rfl <| rM rfl rfl <| rs_w (w_mcall (vs := [_, _]) (M.swap' hR (i := i) (j := j) (by omega) (by omega) (by first | rfl | omega) (by first | rfl | omega)) rfl ⟨rfl, rfl, trivial⟩) rfl ?_
  rintro _ h2 ⟨rfl, hR, K2⟩
  have K := K.trans K2
  refine rN <| rG <| rM rfl rfl <| rs_v (v_add rfl rfl (by omega) (by omega)) rfl ?_
  refine rA rfl rfl <| rN ?_
  refine tr_reg ?_
  refine rM rfl rfl <| rs_v (v_sub rfl rfl (by omega) (by omega)) rfl ?_
  refine rA rfl rfl ?_
  refine rs_nil ?_
  refine q_blk_n ?_
  refine q_lp (j - 1 - (i + 1)) [(0, _), (1, _), (2, _), (6, _), (7, _)] (by omega) ⟨rfl, rfl, rfl, rfl, rfl, trivial⟩ ⟨i + 1, j - 1, swp d' i j, by omega, rfl, ?_, hR, K, ?_⟩
  · rw [show ((j - 1 : Nat) : Int) = (j : Int) - 1 from by omega]; rfl
  · rw [← he]; conv => rhs; rw [reverseLoop, if_pos hij]
end Go.Proofs.YtmckkklhonfmcaaGreat
namespace Go.Proofs.YtmckkklhonfmcaaGreat
open Go.Tess Go.RowKit
open Go.Sort (swp order2 median medianAdjacent insInner insOuter insertionSort siftDown heapBuild heapPop heapSort scanUp scanDown partLoop partition partEqLoop partitionEqual scanSorted shiftDown shiftUp partialIns partialInsertionSort choosePivot reverseLoop reverseRange xorNext bitsLen breakStep breakPatterns pdq Hint)
set_option maxRecDepth 100000
set_option maxHeartbeats 1000000
section
variable {α : Type} [Inhabited α] (lt : α → α → Bool)
def insC (a j : Nat) (d : Array α) : Bool := decide (a < j) && lt d[j]! d[j - 1]!
theorem insInner_go {a j : Nat} {d : Array α} (h : insC lt a j d = true) : insInner lt a j d = insInner lt a (j - 1) (swp d j (j - 1)) := by
  unfold insC at h
  simp only [Bool.and_eq_true, decide_eq_true_eq] at h
  cases j with
  | zero => omega
  | succ j =>
    rw [insInner, if_pos (by simp only [Bool.and_eq_true, decide_eq_true_eq]; exact ⟨h.1, h.2⟩)]; rfl
theorem insInner_stop {a j : Nat} {d : Array α} (h : insC lt a j d = false) : insInner lt a j d = d := by
  cases j with
  | zero => rfl
  | succ j =>
    rw [insInner, if_neg]
    intro h2
    simp only [Bool.and_eq_true, decide_eq_true_eq] at h2
    unfold insC at h
    rw [show decide (a < j + 1) = true from decide_eq_true h2.1, Bool.true_and] at h
    rw [show j + 1 - 1 = j from rfl, h2.2] at h; cases h
def sdC (hi first root : Nat) (d : Array α) : Bool := decide (2 * root + 1 + 1 < hi) && lt d[first + (2 * root + 1)]! d[first + (2 * root + 1) + 1]!
theorem sdC_lt {hi first root : Nat} {d : Array α} (h : sdC lt hi first root d = true) : 2 * root + 2 < hi := by unfold sdC at h; simp at h; omega
theorem sd_end {hi first root : Nat} {d : Array α} (h : hi ≤ 2 * root + 1) : siftDown lt hi first root d = d := by rw [siftDown, dif_pos h]
theorem sd_r0 {hi first root : Nat} {d : Array α} (h : ¬ hi ≤ 2 * root + 1) (hc : sdC lt hi first root d = true) (hl : lt d[first + root]! d[first + (2 * root + 2)]! = false) : siftDown lt hi first root d = d := by
  unfold sdC at hc
  rw [siftDown, dif_neg h, if_pos hc, if_pos (by rw [hl]; rfl)]
theorem sd_r {hi first root : Nat} {d : Array α} (h : ¬ hi ≤ 2 * root + 1) (hc : sdC lt hi first root d = true) (hl : lt d[first + root]! d[first + (2 * root + 2)]! = true) :
    siftDown lt hi first root d = siftDown lt hi first (2 * root + 2) (swp d (first + root) (first + (2 * root + 2))) := by
  have hc2 := hc
  unfold sdC at hc
  rw [siftDown, dif_neg h, if_pos hc, if_neg (by rw [hl]; decide), dif_pos (sdC_lt lt hc2)]
theorem sd_l0 {hi first root : Nat} {d : Array α} (h : ¬ hi ≤ 2 * root + 1) (hc : sdC lt hi first root d = false) (hl : lt d[first + root]! d[first + (2 * root + 1)]! = false) : siftDown lt hi first root d = d := by
  rw [siftDown, dif_neg h, if_neg (by unfold sdC at hc; rw [hc]; decide), if_pos (by rw [hl]; rfl)]
theorem sd_l {hi first root : Nat} {d : Array α} (h : ¬ hi ≤ 2 * root + 1) (hc : sdC lt hi first root d = false) (hl : lt d[first + root]! d[first + (2 * root + 1)]! = true) :
    siftDown lt hi first root d = siftDown lt hi first (2 * root + 1) (swp d (first + root) (first + (2 * root + 1))) := by
  rw [siftDown, dif_neg h, if_neg (by unfold sdC at hc; rw [hc]; decide), if_neg (by rw [hl]; decide)]
end
theorem c_insertionSort {α : Type} [Inhabited α] {χ : Chi} {T : TypeId} {rv : Value} {n : Nat} {lt : α → α → Bool} {blk : Nat} {F : Nat → Prop} {R : Array α → Heap → Prop} (M : SortM χ T rv n lt blk F R) {d : Array α} {h : Heap} {a b : Nat} (hR : R d h) (hab : a ≤ b) (hb : b ≤ n) :
    Cl Tryz.prog χ 135 #[.iface T rv, .int .i64 (a : Int), .int .i64 (b : Int)] h (fun r h' => r = .tuple #[] ∧ R (insertionSort lt d a b) h' ∧ Keep [blk] h h') := by
  have hn := M.small
  refine cl_intro Tryz.func135 rfl rfl rfl ?_
  have K : Keep [blk] h h := Keep.refl _ _
  refine rG <| rM rfl rfl <| rs_v (v_add rfl rfl (by omega) (by omega)) rfl ?_
  refine rA rfl rfl <| rN <| tr_block ?_
  refine tr_loop (fun m E h' => ∃ i d1, a + 1 ≤ i ∧ i ≤ a + b + 1 ∧ m = b - i ∧ E = [(0, .iface T rv), (1, .int .i64 (a : Int)), (2, .int .i64 (b : Int)), (6, .int .i64 (i : Int))] ∧ R d1 h' ∧ Keep [blk] h h' ∧ insOuter lt a b i d1 = insertionSort lt d a b) (b - (a + 1)) [(0, _), (1, _), (2, _), (6, _)] ⟨rfl, rfl, rfl, rfl, trivial⟩ ⟨a + 1, d, Nat.le_refl _, by omega, rfl, rfl, hR, K, rfl⟩ ?_
  rintro m E hL1 ⟨i, d1, hi, hi2, rfl, rfl, hR, K, he⟩
  refine tr_seq ?_
  refine rG <| rM rfl rfl <| rM rfl rfl <| rs_v (v_lt rfl rfl) rfl ?_
  refine rN ?_
  refine tr_ifn rfl (fun hif => ?_) (fun hif => ?_)
  · -- no
    simp only [dT, dF] at hif
    refine tr_exit <| q_thn_exit ?_
    refine q_lp_exit ?_
    refine q_blk_hit ?_
    refine q_end (res_none rfl) ?_
    refine ⟨rfl, ?_, K⟩
    rw [← he, insOuter.eq_def, if_neg (by omega)]; exact hR
  -- yes
  simp only [dT, dF] at hif
  refine tr_skip ?_
  refine q_thn ?_
  refine tr_seq ?_
  refine tr_block <| rG <| rM rfl rfl <| rA rfl rfl <| rN <| tr_block ?_
  refine tr_loop (fun m E h' => ∃ j d2, j ≤ i ∧ j = m ∧ E = [(0, .iface T rv), (1, .int .i64 (a : Int)), (2, .int .i64 (b : Int)), (6, .int .i64 (i : Int)), (7, .int .i64 (j : Int))] ∧ R d2 h' ∧ Keep [blk] h h' ∧ insInner lt a j d2 = insInner lt a i d1) i [(0, _), (1, _), (2, _), (6, _), (7, _)] ⟨rfl, rfl, rfl, rfl, rfl, trivial⟩ ⟨i, d1, Nat.le_refl _, rfl, rfl, hR, K, rfl⟩ ?_
  rintro m E hL2 ⟨j, d2, hj, rfl, rfl, hR, K, he2⟩
  refine tr_seq ?_
  refine tr_cut (fun E h' => R d2 h' ∧ Keep [blk] h h' ∧ E = [(0, .iface T rv), (1, .int .i64 (a : Int)), (2, .int .i64 (b : Int)), (6, .int .i64 (i : Int)), (7, .int .i64 (j : Int)), (25, .bool (insC lt a j d2))]) ?_ ?_
  ·
    rcases Bool.eq_false_or_eq_true (decide (a < j)) with g0 | g0
    · have g1 : decide ((a : Int) < (j : Int)) = true := by simpa using g0
      have hj0 : a < j := by simpa using g0
      refine tr_reg ?_
      refine rM rfl rfl <| rM rfl rfl <| rs_v (v_gt rfl rfl) rfl ?_
      refine rM rfl rfl <| rs_gv rfl (lkb g1) (v_move rfl) rfl <| rs_gv rfl (lkb g1) (v_move rfl) rfl <| rs_gv rfl (lkb g1) (v_move rfl) rfl <| rs_gv rfl (lkb g1) (v_sub rfl rfl (by omega) (by omega)) rfl ?_
      refine rs_gw rfl (lkb g1) (w_mcall (vs := [_, _]) (M.less' hR (i := j) (j := j - 1) (by omega) (by omega) (by first | rfl | omega) (by first | rfl | omega)) rfl ⟨rfl, rfl, trivial⟩) rfl ?_
      rintro _ h3 ⟨rfl, hR, K3⟩
      have K := K.trans K3
      refine rs_v (v_pick_t (lkb g1) rfl) rfl ?_
      refine rs_nil ?_
      exact q_cut [(0, _), (1, _), (2, _), (6, _), (7, _), (25, _)] ⟨rfl, rfl, rfl, rfl, rfl, rfl, trivial⟩ ⟨hR, K, by rw [show insC lt a j d2 = lt d2[j]! d2[j - 1]! from by simp only [insC, g0, Bool.true_and, Bool.false_and]]⟩
    · have g1 : decide ((a : Int) < (j : Int)) = false := by simpa using g0
      refine tr_reg ?_
      refine rM rfl rfl <| rM rfl rfl <| rs_v (v_gt rfl rfl) rfl ?_
      refine rM rfl rfl <| rs_gs rfl (lkb g1) rfl rfl <| rs_gs rfl (lkb g1) rfl rfl <| rs_gs rfl (lkb g1) rfl rfl <| rs_gs rfl (lkb g1) rfl rfl <| rs_gs rfl (lkb g1) rfl rfl <| rs_v (v_pick_f (lkb g1) rfl) rfl ?_
      refine rs_nil ?_
      exact q_cut [(0, _), (1, _), (2, _), (6, _), (7, _), (25, _)] ⟨rfl, rfl, rfl, rfl, rfl, rfl, trivial⟩ ⟨hR, K, by rw [show insC lt a j d2 = false from by simp only [insC, g0, Bool.true_and, Bool.false_and]]⟩
  rintro E h99 ⟨hR, K, rfl⟩
  refine tr_ifn rfl (fun hif => ?_) (fun hif => ?_)
  · -- no
    skip
    refine tr_exit <| q_thn_exit ?_
    refine q_lp_exit ?_
    refine q_blk_hit <| q_blk_n ?_
    refine q_thn ?_
    refine tr_reg ?_
    refine rM rfl rfl <| rs_v (v_add rfl rfl (by omega) (by omega)) rfl ?_
    refine rA rfl rfl ?_
    refine rs_nil ?_
    refine q_lp (b - (i + 1)) [(0, _), (1, _), (2, _), (6, _)] (by omega) ⟨rfl, rfl, rfl, rfl, trivial⟩ ⟨i + 1, d2, by omega, by omega, rfl, rfl, hR, K, ?_⟩
    rw [insInner_stop lt hif] at he2
    rw [← he, insOuter.eq_def lt a b i d1, if_pos (by omega), he2]
  -- yes
  have hjp : a < j := by unfold insC at hif; simp at hif; exact hif.1
  refine tr_skip ?_
  refine q_thn ?_
  refine tr_seq ?_
  refine tr_block ?_
  refine tr_reg ?_
  refine rM rfl rfl <| rM rfl rfl <| rM rfl rfl <| rs_v (v_sub rfl rfl (by omega) (by omega)) rfl ?_
  refine rs_w (w_mcall (vs := [_, _]) (M.swap' hR (i := j) (j := j - 1) (by omega) (by omega) (by first | rfl | omega) (by first | rfl | omega)) rfl ⟨rfl, rfl, trivial⟩) rfl ?_
  rintro _ h5 ⟨rfl, hR, K5⟩
  have K := K.trans K5
  refine rs_nil ?_
  refine q_blk_n ?_
  refine q_thn ?_
  refine tr_reg ?_
  refine rM rfl rfl <| rs_v (v_sub rfl rfl (by omega) (by omega)) rfl ?_
  refine rA rfl rfl ?_
  refine rs_nil ?_
  refine q_lp (j - 1) [(0, _), (1, _), (2, _), (6, _), (7, _)] (by omega) ⟨rfl, rfl, rfl, rfl, rfl, trivial⟩ ⟨j - 1, swp d2 j (j - 1), by omega, rfl, ?_, hR, K, ?_⟩
  · rw [show ((j - 1 : Nat) : Int) = (j : Int) - 1 from by omega]
  · rw [← he2, insInner_go lt hif]
theorem c_siftDown {α : Type} [Inhabited α] {χ : Chi} {T : TypeId} {rv : Value} {n : Nat} {lt : α → α → Bool} {blk : Nat} {F : Nat → Prop} {R : Array α → Heap → Prop} (M : SortM χ T rv n lt blk F R) {d : Array α} {h : Heap} {lo hi first : Nat} (hR : R d h) (hlo : lo ≤ hi) (hb : first + hi ≤ n) :
    Cl Tryz.prog χ 148 #[.iface T rv, .int .i64 (lo : Int), .int .i64 (hi : Int), .int .i64 (first : Int)] h (fun r h' => r = .tuple #[] ∧ R (siftDown lt hi first lo d) h' ∧ Keep [blk] h h') := by
  have hn := M.small
  refine cl_intro Tryz.func148 rfl rfl rfl ?_
  have K : Keep [blk] h h := Keep.refl _ _
  refine rG <| rM rfl rfl <| rA rfl rfl <| rN <| tr_block ?_
  refine tr_loop (fun m E h' => ∃ root d1, m = hi - root ∧ root ≤ hi ∧ E = [(0, .iface T rv), (2, .int .i64 (hi : Int)), (3, .int .i64 (first : Int)), (8, .int .i64 (root : Int))] ∧ R d1 h' ∧ Keep [blk] h h' ∧ siftDown lt hi first root d1 = siftDown lt hi first lo d) (hi - lo) [(0, _), (2, _), (3, _), (8, _)] ⟨rfl, rfl, rfl, rfl, trivial⟩ ⟨lo, d, rfl, hlo, rfl, hR, K, rfl⟩ ?_
  rintro m E hL1 ⟨root, d1, rfl, hrh, rfl, hR, K, he⟩
  refine tr_block <| rG <| rM rfl rfl <| rs_v (v_mul rfl rfl (by omega) (by omega)) rfl ?_
  refine rs_v (v_add rfl rfl (by omega) (by omega)) rfl ?_
  refine rA rfl rfl <| rN ?_
  refine tr_seq ?_
  refine rG <| rM rfl rfl <| rM rfl rfl <| rs_v (v_ge rfl rfl) rfl ?_
  refine rN ?_
  refine tr_if rfl (fun hif => ?_) (fun hif => ?_)
  · -- yes
    simp only [dT, dF] at hif
    refine tr_exit <| q_thn_exit ?_
    refine q_blk_miss rfl ?_
    refine q_lp_exit ?_
    refine q_blk_hit ?_
    refine q_end (res_none rfl) ?_
    refine ⟨rfl, ?_, K⟩
    rw [← he, sd_end lt (by omega)]; exact hR
  -- no
  simp only [dT, dF] at hif
  have hif0 : ¬ hi ≤ 2 * root + 1 := by omega
  refine tr_skip ?_
  refine q_thn ?_
  refine tr_seq ?_
  refine tr_cut (fun E h' => R d1 h' ∧ Keep [blk] h h' ∧ E = [(0, .iface T rv), (2, .int .i64 (hi : Int)), (3, .int .i64 (first : Int)), (8, .int .i64 (root : Int)), (9, .int .i64 (2 * (root : Int) + 1)), (31, .bool (sdC lt hi first root d1))]) ?_ ?_
  ·
    rcases Bool.eq_false_or_eq_true (decide (2 * root + 1 + 1 < hi)) with g0 | g0
    · have g2 : 2 * root + 1 + 1 < hi := by simpa using g0
      have g1 : decide ((2 * (root : Int) + 1 + 1) < (hi : Int)) = true := decide_eq_true (by omega)
      refine tr_reg ?_
      refine rM rfl rfl <| rs_v (v_add rfl rfl (by omega) (by omega)) rfl ?_
      refine rM rfl rfl <| rs_v (v_lt rfl rfl) rfl ?_
      refine rM rfl rfl <| rs_gv rfl (lkb g1) (v_move rfl) rfl <| rs_gv rfl (lkb g1) (v_move rfl) rfl <| rs_gv rfl (lkb g1) (v_move rfl) rfl <| rs_gv rfl (lkb g1) (v_add rfl rfl (by omega) (by omega)) rfl ?_
      refine rs_gv rfl (lkb g1) (v_move rfl) rfl <| rs_gv rfl (lkb g1) (v_move rfl) rfl <| rs_gv rfl (lkb g1) (v_add rfl rfl (by omega) (by omega)) rfl ?_
      refine rs_gv rfl (lkb g1) (v_add rfl rfl (by omega) (by omega)) rfl ?_
      refine rs_gw rfl (lkb g1) (w_mcall (vs := [_, _]) (M.less' hR (i := first + (2 * root + 1)) (j := first + (2 * root + 1) + 1) (by omega) (by omega) (by first | rfl | omega) (by first | rfl | omega)) rfl ⟨rfl, rfl, trivial⟩) rfl ?_
      rintro _ h2 ⟨rfl, hR, K2⟩
      have K := K.trans K2
      refine rs_v (v_pick_t (lkb g1) rfl) rfl ?_
      refine rs_nil ?_
      exact q_cut [(0, _), (2, _), (3, _), (8, _), (9, _), (31, _)] ⟨rfl, rfl, rfl, rfl, rfl, rfl, trivial⟩ ⟨hR, K, by rw [show sdC lt hi first root d1 = lt d1[first + (2 * root + 1)]! d1[first + (2 * root + 1) + 1]! from by simp only [sdC, g0, Bool.true_and, Bool.false_and]]⟩
    · have g2 : ¬ 2 * root + 1 + 1 < hi := by simpa using g0
      have g1 : decide ((2 * (root : Int) + 1 + 1) < (hi : Int)) = false := decide_eq_false (by omega)
      refine tr_reg ?_
      refine rM rfl rfl <| rs_v (v_add rfl rfl (by omega) (by omega)) rfl ?_
      refine rM rfl rfl <| rs_v (v_lt rfl rfl) rfl ?_
      refine rM rfl rfl <| rs_gs rfl (lkb g1) rfl rfl <| rs_gs rfl (lkb g1) rfl rfl <| rs_gs rfl (lkb g1) rfl rfl <| rs_gs rfl (lkb g1) rfl rfl <| rs_gs rfl (lkb g1) rfl rfl <| rs_gs rfl (lkb g1) rfl rfl <| rs_gs rfl (lkb g1) rfl rfl <| rs_gs rfl (lkb g1) rfl rfl <| rs_gs rfl (lkb g1) rfl rfl <| rs_v (v_pick_f (lkb g1) rfl) rfl ?_
      refine rs_nil ?_
      exact q_cut [(0, _), (2, _), (3, _), (8, _), (9, _), (31, _)] ⟨rfl, rfl, rfl, rfl, rfl, rfl, trivial⟩ ⟨hR, K, by rw [show sdC lt hi first root d1 = false from by simp only [sdC, g0, Bool.true_and, Bool.false_and]]⟩
  rintro E h99 ⟨hR, K, rfl⟩
  refine tr_if rfl (fun hif => ?_) (fun hif => ?_)
  · -- yes
    have hC := hif
    have hcl := sdC_lt lt hC
    refine tr_reg ?_
    refine rM rfl rfl <| rs_v (v_add rfl rfl (by omega) (by omega)) rfl ?_
    refine rA rfl rfl <| rN ?_
    refine tr_seq ?_
    refine rG <| rM rfl rfl <| rM rfl rfl <| rM rfl rfl <| rs_v (v_add rfl rfl (by omega) (by omega)) rfl ?_
    refine rM rfl rfl <| rM rfl rfl <| rs_v (v_add rfl rfl (by omega) (by omega)) rfl ?_
    refine rs_w (w_mcall (vs := [_, _]) (M.less' hR (i := first + root) (j := first + (2 * root + 2)) (by omega) (by omega) (by first | rfl | omega) (by first | rfl | omega)) rfl ⟨rfl, rfl, trivial⟩) rfl ?_
    rintro _ h4 ⟨rfl, hR, K4⟩
    have K := K.trans K4
    refine rs_v (v_not rfl) rfl ?_
    refine rN ?_
    refine tr_if rfl (fun hif => ?_) (fun hif => ?_)
    · -- yes
      skip
      refine tr_ret <| q_thn_ret <| q_blk_ret ?_
      refine q_lp_ret ?_
      refine q_blk_ret <| q_ret (res_none rfl) ?_
      refine ⟨rfl, ?_, K⟩
      rw [← he, sd_r0 lt hif0 hC (by simpa using hif)]; exact hR
    -- no
    skip
    refine tr_skip ?_
    refine q_thn ?_
    refine rG <| rM rfl rfl <| rM rfl rfl <| rM rfl rfl <| rs_v (v_add rfl rfl (by omega) (by omega)) rfl ?_
    refine rM rfl rfl <| rM rfl rfl <| rs_v (v_add rfl rfl (by omega) (by omega)) rfl ?_
    refine rs_w (w_mcall (vs := [_, _]) (M.swap' hR (i := first + root) (j := first + (2 * root + 2)) (by omega) (by omega) (by first | rfl | omega) (by first | rfl | omega)) rfl ⟨rfl, rfl, trivial⟩) rfl ?_
    rintro _ h5 ⟨rfl, hR, K5⟩
    have K := K.trans K5
    refine rN ?_
    refine tr_reg ?_
    refine rM rfl rfl <| rA rfl rfl ?_
    refine rs_nil ?_
    refine q_blk_n ?_
    refine q_lp (hi - (2 * root + 2)) [(0, _), (2, _), (3, _), (8, _)] (by omega) ⟨rfl, rfl, rfl, rfl, trivial⟩ ⟨2 * root + 2, _, rfl, by omega, by first | rfl | (rw [show (((2 * root + 2 : Nat)) : Int) = 2 * (root : Int) + 1 + 1 from by omega]), hR, K, ?_⟩
    rw [← he, sd_r lt hif0 hC (by simpa using hif)]
  -- no
  have hC := hif
  refine tr_skip ?_
  refine q_thn ?_
  refine tr_seq ?_
  refine rG <| rM rfl rfl <| rM rfl rfl <| rM rfl rfl <| rs_v (v_add rfl rfl (by omega) (by omega)) rfl ?_
  refine rM rfl rfl <| rM rfl rfl <| rs_v (v_add rfl rfl (by omega) (by omega)) rfl ?_
  refine rs_w (w_mcall (vs := [_, _]) (M.less' hR (i := first + root) (j := first + (2 * root + 1)) (by omega) (by omega) (by first | rfl | omega) (by first | rfl | omega)) rfl ⟨rfl, rfl, trivial⟩) rfl ?_
  rintro _ h6 ⟨rfl, hR, K6⟩
  have K := K.trans K6
  refine rs_v (v_not rfl) rfl ?_
  refine rN ?_
  refine tr_if rfl (fun hif => ?_) (fun hif => ?_)
  · -- yes
    skip
    refine tr_ret <| q_thn_ret <| q_blk_ret ?_
    refine q_lp_ret ?_
    refine q_blk_ret <| q_ret (res_none rfl) ?_
    refine ⟨rfl, ?_, K⟩
    rw [← he, sd_l0 lt hif0 hC (by simpa using hif)]; exact hR
  -- no
  skip
  refine tr_skip ?_
  refine q_thn ?_
  refine rG <| rM rfl rfl <| rM rfl rfl <| rM rfl rfl <| rs_v (v_add rfl rfl (by omega) (by omega)) rfl ?_
  refine rM rfl rfl <| rM rfl rfl <| rs_v (v_add rfl rfl (by omega) (by omega)) rfl ?_
  refine rs_w (w_mcall (vs := [_, _]) (M.swap' hR (i := first + root) (j := first + (2 * root + 1)) (by omega) (by omega) (by first | rfl | omega) (by first | rfl | omega)) rfl ⟨rfl, rfl, trivial⟩) rfl ?_
  rintro _ h7 ⟨rfl, hR, K7⟩
  have K := K.trans K7
  refine rN ?_
  refine tr_reg ?_
  refine rM rfl rfl <| rA rfl rfl ?_
  refine rs_nil ?_
  refine q_blk_n ?_
  refine q_lp (hi - (2 * root + 1)) [(0, _), (2, _), (3, _), (8, _)] (by omega) ⟨rfl, rfl, rfl, rfl, trivial⟩ ⟨2 * root + 1, _, rfl, by omega, by first | rfl | (rw [show (((2 * root + 1 : Nat)) : Int) = 2 * (root : Int) + 1 + 1 from by omega]), hR, K, ?_⟩
  rw [← he, sd_l lt hif0 hC (by simpa using hif)]
end Go.Proofs.YtmckkklhonfmcaaGreat
namespace Go.Tess
open Go.RowKit
section
variable {P : Program} {χ : Chi} {ρ : Operand → Option Value} {h : Heap} {dst : Option Tmp} {ty : TypeId} {pos : String} {after : Array Edge} {guard : Option (Nat × Bool)} {x y : Operand} {t t2 : TypeId}
theorem v_quoN {xi : Int} {a b : Nat} (hx : ρ x = some (.int .i64 xi)) (hy : ρ y = some (.int .i64 (b : Int))) (he : xi = (a : Int)) (hb : 0 < b) (ha : a ≤ 9223372036854775807) :
    OpV P χ ⟨dst, .binOp .quo t x y t2, ty, pos, after, guard⟩ ρ h (.int .i64 ((a / b : Nat) : Int)) :=
  v_bin hx hy fun w => by
    subst he
    have hbz : ¬ (b : Int) = 0 := by omega
    have h1 : (a / b : Nat) ≤ a := Nat.div_le_self a b
    have e : Int.tdiv (a : Int) (b : Int) = ((a / b : Nat) : Int) := by rw [Int.ofNat_tdiv]
    have h2 : ((a / b : Nat) : Int) ≤ 9223372036854775807 := Int.le_trans (Int.ofNat_le.2 (Nat.le_trans h1 ha)) (by decide)
    have h3 : (-9223372036854775808 : Int) ≤ ((a / b : Nat) : Int) := Int.le_trans (by decide) (Int.natCast_nonneg _)
    simp [eqGuard, binOp, Op.intArith, hbz, Op.intDiv]
    have e2 : (a : Int) / (b : Int) = ((a / b : Nat) : Int) := by simp
    rw [if_neg (by omega), e2, IntWalk.i64_in _ ⟨h3, h2⟩]
end
end Go.Tess
namespace Go.Proofs.YtmckkklhonfmcaaGreat
open Go.Tess Go.RowKit
open Go.Sort (swp order2 median medianAdjacent insInner insOuter insertionSort siftDown heapBuild heapPop heapSort scanUp scanDown partLoop partition partEqLoop partitionEqual scanSorted shiftDown shiftUp partialIns partialInsertionSort choosePivot reverseLoop reverseRange xorNext bitsLen breakStep breakPatterns pdq Hint)
set_option maxRecDepth 100000
set_option maxHeartbeats 1000000
section
variable {α : Type} [Inhabited α]
def upC (p : α → Bool) (d : Array α) (j i : Nat) : Bool := decide (i ≤ j) && p d[i]!
def dnC (p : α → Bool) (d : Array α) (i j : Nat) : Bool := decide (i ≤ j) && p d[j]!
theorem upC_le {p : α → Bool} {d : Array α} {j i : Nat} (h : upC p d j i = true) : i ≤ j := by simp [upC] at h; exact h.1
theorem dnC_le {p : α → Bool} {d : Array α} {j i : Nat} (h : dnC p d i j = true) : i ≤ j := by simp [dnC] at h; exact h.1
theorem up_go {p : α → Bool} {d : Array α} {j i : Nat} (h : upC p d j i = true) : scanUp p d j i = scanUp p d j (i + 1) := by
  unfold upC at h; rw [scanUp, if_pos h]
theorem up_stop {p : α → Bool} {d : Array α} {j i : Nat} (h : upC p d j i = false) : scanUp p d j i = i := by
  unfold upC at h; rw [scanUp, if_neg (by rw [h]; decide)]
theorem dn_go {p : α → Bool} {d : Array α} {j i : Nat} (h : dnC p d i j = true) (hi : 0 < i) : scanDown p d i j = scanDown p d i (j - 1) := by
  have hl := dnC_le h
  unfold dnC at h
  cases j with
  | zero => omega
  | succ j => rw [scanDown, if_pos h]; rfl
theorem dn_stop {p : α → Bool} {d : Array α} {j i : Nat} (h : dnC p d i j = false) : scanDown p d i j = j := by
  unfold dnC at h
  cases j with
  | zero => rfl
  | succ j => rw [scanDown, if_neg (by rw [h]; decide)]
variable {lt : α → α → Bool} {d : Array α} {a b pv i j i2 j2 : Nat}
theorem part_done (hi : scanUp (fun x => lt x (swp d a pv)[a]!) (swp d a pv) (b - 1) (a + 1) = i) (hj : scanDown (fun x => !lt x (swp d a pv)[a]!) (swp d a pv) i (b - 1) = j) (h : i > j) :
    partition lt d a b pv = (j, true, swp (swp d a pv) j a) := by
  unfold partition; simp only [hi, hj, if_pos h]
theorem part_go (hi : scanUp (fun x => lt x (swp d a pv)[a]!) (swp d a pv) (b - 1) (a + 1) = i) (hj : scanDown (fun x => !lt x (swp d a pv)[a]!) (swp d a pv) i (b - 1) = j) (h : ¬ i > j) :
    partition lt d a b pv = ((partLoop lt a (i + 1) (j - 1) (swp (swp d a pv) i j)).1, false, swp (partLoop lt a (i + 1) (j - 1) (swp (swp d a pv) i j)).2 (partLoop lt a (i + 1) (j - 1) (swp (swp d a pv) i j)).1 a) := by
  unfold partition; simp only [hi, hj, if_neg h]
theorem pl_end (hi : scanUp (fun x => lt x d[a]!) d j i = i2) (hj : scanDown (fun x => !lt x d[a]!) d i2 j = j2) (h : i2 > j2) : partLoop lt a i j d = (j2, d) := by
  rw [partLoop]; simp only [hi, hj, if_pos h]
theorem pl_go (hi : scanUp (fun x => lt x d[a]!) d j i = i2) (hj : scanDown (fun x => !lt x d[a]!) d i2 j = j2) (h : ¬ i2 > j2) (h1 : i ≤ i2) (h2 : j2 ≤ j) (h3 : 0 < i2) :
    partLoop lt a i j d = partLoop lt a (i2 + 1) (j2 - 1) (swp d i2 j2) := by
  conv => lhs; rw [partLoop]
  simp only [hi, hj, if_neg h]
  rw [dif_pos (by omega)]
theorem pe_end (hi : scanUp (fun x => !lt d[a]! x) d j i = i2) (hj : scanDown (fun x => lt d[a]! x) d i2 j = j2) (h : i2 > j2) : partEqLoop lt a i j d = (i2, d) := by
  rw [partEqLoop]; simp only [hi, hj, if_pos h]
theorem pe_go (hi : scanUp (fun x => !lt d[a]! x) d j i = i2) (hj : scanDown (fun x => lt d[a]! x) d i2 j = j2) (h : ¬ i2 > j2) (h1 : i ≤ i2) (h2 : j2 ≤ j) (h3 : 0 < i2) :
    partEqLoop lt a i j d = partEqLoop lt a (i2 + 1) (j2 - 1) (swp d i2 j2) := by
  conv => lhs; rw [partEqLoop]
  simp only [hi, hj, if_neg h]
  rw [dif_pos (by omega)]
end
theorem c_heapSort {α : Type} [Inhabited α] {χ : Chi} {T : TypeId} {rv : Value} {n : Nat} {lt : α → α → Bool} {blk : Nat} {F : Nat → Prop} {R : Array α → Heap → Prop} (M : SortM χ T rv n lt blk F R) {d : Array α} {h : Heap} {a b : Nat} (hR : R d h) (hab : a < b) (hb : b ≤ n) :
    Cl Tryz.prog χ 136 #[.iface T rv, .int .i64 (a : Int), .int .i64 (b : Int)] h (fun r h' => r = .tuple #[] ∧ R (heapSort lt d a b) h' ∧ Keep [blk] h h') := by
  have hn := M.small
  refine cl_intro Tryz.func136 rfl rfl rfl ?_
  have K : Keep [blk] h h := Keep.refl _ _
  refine rG <| rM rfl rfl <| rA rfl rfl <| rN <| rG <| rA rfl rfl <| rN <| rG <| rM rfl rfl <| rM rfl rfl <| rs_v (v_sub rfl rfl (by omega) (by omega)) rfl ?_
  refine rA rfl rfl <| rN ?_
  refine tr_seq ?_
  refine rG <| rM rfl rfl <| rs_v (v_sub rfl rfl (by omega) (by omega)) rfl ?_
  refine rs_v (v_quoN (b := 2) rfl rfl (show _ = ((b - a - 1 : Nat) : Int) from by omega) (by decide) (by omega)) rfl ?_
  refine rA rfl rfl <| rN <| tr_block ?_
  refine tr_loop (fun m E h' => ∃ k d1 x, k = m ∧ k ≤ b - a ∧ x = (k : Int) - 1 ∧ E = [(0, .iface T rv), (6, .int .i64 (a : Int)), (7, .int .i64 0), (8, .int .i64 ((b - a : Nat) : Int)), (9, .int .i64 x)] ∧ R d1 h' ∧ Keep [blk] h h' ∧ heapBuild lt (b - a) a k d1 = heapBuild lt (b - a) a ((b - a - 1) / 2 + 1) d) ((b - a - 1) / 2 + 1) [(0, _), (6, _), (7, _), (8, _), (9, _)] ⟨rfl, rfl, rfl, rfl, rfl, trivial⟩ ⟨(b - a - 1) / 2 + 1, d, (((b - a - 1) / 2 : Nat) : Int), rfl, by omega, by omega, by rw [show ((b : Int) - (a : Int)) = ((b - a : Nat) : Int) from by omega], hR, K, rfl⟩ ?_
  rintro m E hL1 ⟨k, d1, x, rfl, hk, hx, rfl, hR, K, he⟩
  refine tr_seq ?_
  refine rG <| rM rfl rfl <| rs_v (v_ge rfl rfl) rfl ?_
  refine rN ?_
  refine tr_ifn rfl (fun hif => ?_) (fun hif => ?_)
  · -- no
    simp only [dT, dF] at hif
    refine tr_exit <| q_thn_exit ?_
    refine q_lp_exit ?_
    refine q_blk_hit ?_
    refine q_thn ?_
    refine rG <| rM rfl rfl <| rs_v (v_sub rfl rfl (by omega) (by omega)) rfl ?_
    refine rA rfl rfl <| rN <| tr_block ?_
    refine tr_loop (fun m E h' => ∃ k d1 x, k = m ∧ k ≤ b - a ∧ x = (k : Int) - 1 ∧ E = [(0, .iface T rv), (6, .int .i64 (a : Int)), (7, .int .i64 0), (10, .int .i64 x)] ∧ R d1 h' ∧ Keep [blk] h h' ∧ heapPop lt a k d1 = heapSort lt d a b) (b - a) [(0, _), (6, _), (7, _), (10, _)] ⟨rfl, rfl, rfl, rfl, trivial⟩ ⟨b - a, d1, _, rfl, Nat.le_refl _, rfl, rfl, hR, K, by rw [heapSort, ← he, show k = 0 from by omega]; rfl⟩ ?_
    rintro m E hL2 ⟨k2, d2, x2, rfl, hk2, hx2, rfl, hR, K, he2⟩
    refine tr_seq ?_
    refine rG <| rM rfl rfl <| rs_v (v_ge rfl rfl) rfl ?_
    refine rN ?_
    refine tr_ifn rfl (fun hif => ?_) (fun hif => ?_)
    · -- no
      simp only [dT, dF] at hif
      refine tr_exit <| q_thn_exit ?_
      refine q_lp_exit ?_
      refine q_blk_hit ?_
      refine q_end (res_none rfl) ?_
      refine ⟨rfl, ?_, K⟩
      rw [← he2, show k2 = 0 from by omega]; exact hR
    -- yes
    simp only [dT, dF] at hif
    obtain ⟨k3, rfl⟩ : ∃ k3, k2 = k3 + 1 := ⟨k2 - 1, by omega⟩
    obtain rfl : x2 = (k3 : Int) := by omega
    refine tr_skip ?_
    refine q_thn ?_
    refine tr_seq ?_
    refine tr_block <| rG <| rM rfl rfl <| rM rfl rfl <| rM rfl rfl <| rM rfl rfl <| rs_v (v_add rfl rfl (by omega) (by omega)) rfl ?_
    refine rs_w (w_mcall (vs := [_, _]) (M.swap' hR (i := a) (j := a + k3) (by omega) (by omega) (by first | rfl | omega) (by first | rfl | omega)) rfl ⟨rfl, rfl, trivial⟩) rfl ?_
    rintro _ h3 ⟨rfl, hR, K3⟩
    have K := K.trans K3
    refine rN ?_
    refine tr_reg ?_
    refine rM rfl rfl <| rM rfl rfl <| rM rfl rfl <| rM rfl rfl <| rs_w (w_call (vs := [_, _, _, _]) ok_sort_siftDown rfl ⟨rfl, rfl, rfl, rfl, trivial⟩ (c_siftDown M hR (lo := 0) (hi := k3) (first := a) (by omega) (by omega))) rfl ?_
    rintro _ h4 ⟨rfl, hR, K4⟩
    have K := K.trans K4
    refine rs_nil ?_
    refine q_blk_n ?_
    refine q_thn ?_
    refine tr_reg ?_
    refine rM rfl rfl <| rs_v (v_sub rfl rfl (by omega) (by omega)) rfl ?_
    refine rA rfl rfl ?_
    refine rs_nil ?_
    refine q_lp k3 [(0, _), (6, _), (7, _), (10, _)] (by omega) ⟨rfl, rfl, rfl, rfl, trivial⟩ ⟨k3, _, _, rfl, by omega, rfl, rfl, hR, K, ?_⟩
    rw [← he2]; rfl
  -- yes
  simp only [dT, dF] at hif
  obtain ⟨k3, rfl⟩ : ∃ k3, k = k3 + 1 := ⟨k - 1, by omega⟩
  obtain rfl : x = (k3 : Int) := by omega
  refine tr_skip ?_
  refine q_thn ?_
  refine tr_seq ?_
  refine tr_block ?_
  refine tr_reg ?_
  refine rM rfl rfl <| rM rfl rfl <| rM rfl rfl <| rM rfl rfl <| rs_w (w_call (vs := [_, _, _, _]) ok_sort_siftDown rfl ⟨rfl, rfl, rfl, rfl, trivial⟩ (c_siftDown M hR (lo := k3) (hi := b - a) (first := a) (by omega) (by omega))) rfl ?_
  rintro _ h5 ⟨rfl, hR, K5⟩
  have K := K.trans K5
  refine rs_nil ?_
  refine q_blk_n ?_
  refine q_thn ?_
  refine tr_reg ?_
  refine rM rfl rfl <| rs_v (v_sub rfl rfl (by omega) (by omega)) rfl ?_
  refine rA rfl rfl ?_
  refine rs_nil ?_
  refine q_lp k3 [(0, _), (6, _), (7, _), (8, _), (9, _)] (by omega) ⟨rfl, rfl, rfl, rfl, rfl, trivial⟩ ⟨k3, _, _, rfl, by omega, rfl, rfl, hR, K, ?_⟩
  rw [← he]; rfl
theorem c_partition {α : Type} [Inhabited α] {χ : Chi} {T : TypeId} {rv : Value} {n : Nat} {lt : α → α → Bool} {blk : Nat} {F : Nat → Prop} {R : Array α → Heap → Prop} (M : SortM χ T rv n lt blk F R) {d : Array α} {h : Heap} {a b pv : Nat} (hR : R d h) (hap : a ≤ pv) (hpb : pv < b) (hb : b ≤ n) :
    Cl Tryz.prog χ 142 #[.iface T rv, .int .i64 (a : Int), .int .i64 (b : Int), .int .i64 (pv : Int)] h (fun r h' => r = .tuple #[.int .i64 (((partition lt d a b pv).1 : Nat) : Int), .bool (partition lt d a b pv).2.1] ∧ R (partition lt d a b pv).2.2 h' ∧ Keep [blk] h h') := by
  have hn := M.small
  obtain ⟨j0, hj0⟩ : ∃ j0, j0 = b - 1 := ⟨_, rfl⟩
  refine cl_intro Tryz.func142 rfl rfl rfl ?_
  have K : Keep [blk] h h := Keep.refl _ _
  refine rG <| rA rfl rfl <| rA rfl rfl <| rN <| rG <| rM rfl rfl <| rM rfl rfl <| rM rfl rfl <| rs_w (w_mcall (vs := [_, _]) (M.swap' hR (i := a) (j := pv) (by omega) (by omega) (by first | rfl | omega) (by first | rfl | omega)) rfl ⟨rfl, rfl, trivial⟩) rfl ?_
  rintro _ h1 ⟨rfl, hR, K1⟩
  have K := K.trans K1
  refine rN <| rG <| rM rfl rfl <| rs_v (v_add rfl rfl (by omega) (by omega)) rfl ?_
  refine rM rfl rfl <| rs_v (v_sub rfl rfl (by omega) (by omega)) rfl ?_
  refine rA rfl rfl <| rA rfl rfl <| rN ?_
  refine tr_seq ?_
  refine tr_block ?_
  refine tr_loop (fun m E h' => ∃ i, a + 1 ≤ i ∧ i ≤ b ∧ m = b - i ∧ E = [(0, .iface T rv), (1, .int .i64 (a : Int)), (10, .int .i64 (i : Int)), (11, .int .i64 (j0 : Int))] ∧ R (swp d a pv) h' ∧ Keep [blk] h h' ∧ scanUp (fun x => lt x (swp d a pv)[a]!) (swp d a pv) j0 i = scanUp (fun x => lt x (swp d a pv)[a]!) (swp d a pv) j0 (a + 1)) (b - (a + 1)) [(0, _), (1, _), (10, _), (11, _)] ⟨rfl, rfl, rfl, rfl, trivial⟩ ⟨a + 1, Nat.le_refl _, by omega, rfl, by rw [show ((b : Int) - 1) = (j0 : Int) from by omega]; rfl, hR, K, rfl⟩ ?_
  rintro m E hL2 ⟨i, hi, hib, rfl, rfl, hR, K, hei⟩
  refine tr_seq ?_
  refine tr_cut (fun E h' => R (swp d a pv) h' ∧ Keep [blk] h h' ∧ E = [(0, .iface T rv), (1, .int .i64 (a : Int)), (10, .int .i64 (i : Int)), (11, .int .i64 (j0 : Int)), (28, .bool (upC (fun x => lt x (swp d a pv)[a]!) (swp d a pv) j0 i))]) ?_ ?_
  ·
    rcases Bool.eq_false_or_eq_true (decide (i ≤ j0)) with g0 | g0
    · have g2 : i ≤ j0 := by simpa using g0
      have g1 : decide ((i : Int) ≤ (j0 : Int)) = true := decide_eq_true (by omega)
      refine tr_reg ?_
      refine rM rfl rfl <| rM rfl rfl <| rs_v (v_le rfl rfl) rfl ?_
      refine rM rfl rfl <| rs_gv rfl (lkb g1) (v_move rfl) rfl <| rs_gv rfl (lkb g1) (v_move rfl) rfl <| rs_gv rfl (lkb g1) (v_move rfl) rfl ?_
      refine rs_gw rfl (lkb g1) (w_mcall (vs := [_, _]) (M.less' hR (i := i) (j := a) (by omega) (by omega) (by first | rfl | omega) (by first | rfl | omega)) rfl ⟨rfl, rfl, trivial⟩) rfl ?_
      rintro _ h3 ⟨rfl, hR, K3⟩
      have K := K.trans K3
      refine rs_v (v_pick_t (lkb g1) rfl) rfl ?_
      refine rs_nil ?_
      exact q_cut [(0, _), (1, _), (10, _), (11, _), (28, _)] ⟨rfl, rfl, rfl, rfl, rfl, trivial⟩ ⟨hR, K, by rw [show upC (fun x => lt x (swp d a pv)[a]!) (swp d a pv) j0 i = (lt (swp d a pv)[i]! (swp d a pv)[a]!) from by simp only [upC, g0, Bool.true_and, Bool.false_and]]⟩
    · have g2 : ¬ i ≤ j0 := by simpa using g0
      have g1 : decide ((i : Int) ≤ (j0 : Int)) = false := decide_eq_false (by omega)
      refine tr_reg ?_
      refine rM rfl rfl <| rM rfl rfl <| rs_v (v_le rfl rfl) rfl ?_
      refine rM rfl rfl <| rs_gs rfl (lkb g1) rfl rfl <| rs_gs rfl (lkb g1) rfl rfl <| rs_gs rfl (lkb g1) rfl rfl <| rs_gs rfl (lkb g1) rfl rfl <| rs_v (v_pick_f (lkb g1) rfl) rfl ?_
      refine rs_nil ?_
      exact q_cut [(0, _), (1, _), (10, _), (11, _), (28, _)] ⟨rfl, rfl, rfl, rfl, rfl, trivial⟩ ⟨hR, K, by rw [show upC (fun x => lt x (swp d a pv)[a]!) (swp d a pv) j0 i = (false) from by simp only [upC, g0, Bool.true_and, Bool.false_and]]⟩
  rintro E h99 ⟨hR, K, rfl⟩
  refine tr_ifn rfl (fun hif => ?_) (fun hif => ?_)
  · -- no
    have hiC := hif
    rw [up_stop hif] at hei
    refine tr_exit <| q_thn_exit ?_
    refine q_lp_exit ?_
    refine q_blk_hit ?_
    refine q_thn ?_
    refine tr_seq ?_
    refine tr_block ?_
    refine tr_loop (fun m E h' => ∃ j, j ≤ j0 ∧ j = m ∧ E = [(0, .iface T rv), (1, .int .i64 (a : Int)), (10, .int .i64 (i : Int)), (11, .int .i64 (j : Int))] ∧ R (swp d a pv) h' ∧ Keep [blk] h h' ∧ scanDown (fun x => !lt x (swp d a pv)[a]!) (swp d a pv) i j = scanDown (fun x => !lt x (swp d a pv)[a]!) (swp d a pv) i j0) j0 [(0, _), (1, _), (10, _), (11, _)] ⟨rfl, rfl, rfl, rfl, trivial⟩ ⟨j0, Nat.le_refl _, rfl, rfl, hR, K, rfl⟩ ?_
    rintro m E hL5 ⟨j, hj, rfl, rfl, hR, K, hej⟩
    refine tr_seq ?_
    refine tr_cut (fun E h' => R (swp d a pv) h' ∧ Keep [blk] h h' ∧ E = [(0, .iface T rv), (1, .int .i64 (a : Int)), (10, .int .i64 (i : Int)), (11, .int .i64 (j : Int)), (40, .bool (dnC (fun x => !lt x (swp d a pv)[a]!) (swp d a pv) i j))]) ?_ ?_
    ·
      rcases Bool.eq_false_or_eq_true (decide (i ≤ j)) with g0 | g0
      · have g2 : i ≤ j := by simpa using g0
        have g1 : decide ((i : Int) ≤ (j : Int)) = true := decide_eq_true (by omega)
        refine tr_reg ?_
        refine rM rfl rfl <| rM rfl rfl <| rs_v (v_le rfl rfl) rfl ?_
        refine rM rfl rfl <| rs_gv rfl (lkb g1) (v_move rfl) rfl <| rs_gv rfl (lkb g1) (v_move rfl) rfl <| rs_gv rfl (lkb g1) (v_move rfl) rfl ?_
        refine rs_gw rfl (lkb g1) (w_mcall (vs := [_, _]) (M.less' hR (i := j) (j := a) (by omega) (by omega) (by first | rfl | omega) (by first | rfl | omega)) rfl ⟨rfl, rfl, trivial⟩) rfl ?_
        rintro _ h6 ⟨rfl, hR, K6⟩
        have K := K.trans K6
        refine rs_gv rfl (lkb g1) (v_not rfl) rfl ?_
        refine rs_v (v_pick_t (lkb g1) rfl) rfl ?_
        refine rs_nil ?_
        exact q_cut [(0, _), (1, _), (10, _), (11, _), (40, _)] ⟨rfl, rfl, rfl, rfl, rfl, trivial⟩ ⟨hR, K, by rw [show dnC (fun x => !lt x (swp d a pv)[a]!) (swp d a pv) i j = (!lt (swp d a pv)[j]! (swp d a pv)[a]!) from by simp only [dnC, g0, Bool.true_and, Bool.false_and]]⟩
      · have g2 : ¬ i ≤ j := by simpa using g0
        have g1 : decide ((i : Int) ≤ (j : Int)) = false := decide_eq_false (by omega)
        refine tr_reg ?_
        refine rM rfl rfl <| rM rfl rfl <| rs_v (v_le rfl rfl) rfl ?_
        refine rM rfl rfl <| rs_gs rfl (lkb g1) rfl rfl <| rs_gs rfl (lkb g1) rfl rfl <| rs_gs rfl (lkb g1) rfl rfl <| rs_gs rfl (lkb g1) rfl rfl <| rs_gs rfl (lkb g1) rfl rfl <| rs_v (v_pick_f (lkb g1) rfl) rfl ?_
        refine rs_nil ?_
        exact q_cut [(0, _), (1, _), (10, _), (11, _), (40, _)] ⟨rfl, rfl, rfl, rfl, rfl, trivial⟩ ⟨hR, K, by rw [show dnC (fun x => !lt x (swp d a pv)[a]!) (swp d a pv) i j = (false) from by simp only [dnC, g0, Bool.true_and, Bool.false_and]]⟩
    rintro E h99 ⟨hR, K, rfl⟩
    refine tr_ifn rfl (fun hif => ?_) (fun hif => ?_)
    · -- no
      rw [dn_stop hif] at hej
      refine tr_exit <| q_thn_exit ?_
      refine q_lp_exit ?_
      refine q_blk_hit ?_
      refine q_thn ?_
      refine tr_seq ?_
      refine rG <| rM rfl rfl <| rM rfl rfl <| rs_v (v_gt rfl rfl) rfl ?_
      refine rN ?_
      refine tr_if rfl (fun hif => ?_) (fun hif => ?_)
      · -- yes
        simp only [dT, dF] at hif
        refine rG <| rM rfl rfl <| rM rfl rfl <| rM rfl rfl <| rs_w (w_mcall (vs := [_, _]) (M.swap' hR (i := j) (j := a) (by omega) (by omega) (by first | rfl | omega) (by first | rfl | omega)) rfl ⟨rfl, rfl, trivial⟩) rfl ?_
        rintro _ h8 ⟨rfl, hR, K8⟩
        have K := K.trans K8
        refine rN <| rG <| rM rfl rfl <| rA rfl rfl <| rA rfl rfl <| rN <| tr_ret <| q_thn_ret <| q_ret (res_tmp2 rfl rfl rfl) ?_
        have e := part_done (i := i) (j := j) (b := b) (lt := lt) (d := d) (a := a) (pv := pv) (by rw [← hj0]; exact hei.symm) (by rw [← hj0]; exact hej.symm) (by omega)
        rw [e]
        exact ⟨rfl, hR, K⟩
      -- no
      simp only [dT, dF] at hif
      refine tr_skip ?_
      refine q_thn ?_
      refine rG <| rM rfl rfl <| rM rfl rfl <| rM rfl rfl <| rs_w (w_mcall (vs := [_, _]) (M.swap' hR (i := i) (j := j) (by omega) (by omega) (by first | rfl | omega) (by first | rfl | omega)) rfl ⟨rfl, rfl, trivial⟩) rfl ?_
      rintro _ h9 ⟨rfl, hR, K9⟩
      have K := K.trans K9
      refine rN <| rG <| rM rfl rfl <| rs_v (v_add rfl rfl (by omega) (by omega)) rfl ?_
      refine rA rfl rfl <| rN <| rG <| rM rfl rfl <| rs_v (v_sub rfl rfl (by omega) (by omega)) rfl ?_
      refine rA rfl rfl <| rN ?_
      refine tr_seq ?_
      refine tr_block ?_
      refine tr_loop (fun m E h' => ∃ i2 j2 d2, a + 1 ≤ i2 ∧ i2 ≤ b ∧ j2 ≤ j0 ∧ m = j2 + 1 - i2 ∧ E = [(0, .iface T rv), (1, .int .i64 (a : Int)), (10, .int .i64 (i2 : Int)), (11, .int .i64 (j2 : Int))] ∧ R d2 h' ∧ Keep [blk] h h' ∧ partLoop lt a i2 j2 d2 = partLoop lt a (i + 1) (j - 1) (swp (swp d a pv) i j)) (j - 1 + 1 - (i + 1)) [(0, _), (1, _), (10, _), (11, _)] ⟨rfl, rfl, rfl, rfl, trivial⟩ ⟨i + 1, j - 1, _, by omega, by omega, by omega, rfl, by rw [show ((j - 1 : Nat) : Int) = (j : Int) - 1 from by omega]; rfl, hR, K, rfl⟩ ?_
      rintro m E hL10 ⟨i2, j2, d2, hi2, hi2b, hj2, rfl, rfl, hR, K, he⟩
      refine tr_block ?_
      refine tr_seq ?_
      refine tr_block ?_
      refine tr_loop (fun m E h' => ∃ i3, i2 ≤ i3 ∧ i3 ≤ b ∧ m = b - i3 ∧ E = [(0, .iface T rv), (1, .int .i64 (a : Int)), (10, .int .i64 (i3 : Int)), (11, .int .i64 (j2 : Int))] ∧ R d2 h' ∧ Keep [blk] h h' ∧ scanUp (fun x => lt x d2[a]!) d2 j2 i3 = scanUp (fun x => lt x d2[a]!) d2 j2 i2) (b - i2) [(0, _), (1, _), (10, _), (11, _)] ⟨rfl, rfl, rfl, rfl, trivial⟩ ⟨i2, Nat.le_refl _, by omega, rfl, rfl, hR, K, rfl⟩ ?_
      rintro m E hL11 ⟨i3, hi3, hi3b, rfl, rfl, hR, K, hei3⟩
      refine tr_seq ?_
      refine tr_cut (fun E h' => R d2 h' ∧ Keep [blk] h h' ∧ E = [(0, .iface T rv), (1, .int .i64 (a : Int)), (10, .int .i64 (i3 : Int)), (11, .int .i64 (j2 : Int)), (67, .bool (upC (fun x => lt x d2[a]!) d2 j2 i3))]) ?_ ?_
      ·
        rcases Bool.eq_false_or_eq_true (decide (i3 ≤ j2)) with g0 | g0
        · have g2 : i3 ≤ j2 := by simpa using g0
          have g1 : decide ((i3 : Int) ≤ (j2 : Int)) = true := decide_eq_true (by omega)
          refine tr_reg ?_
          refine rM rfl rfl <| rM rfl rfl <| rs_v (v_le rfl rfl) rfl ?_
          refine rM rfl rfl <| rs_gv rfl (lkb g1) (v_move rfl) rfl <| rs_gv rfl (lkb g1) (v_move rfl) rfl <| rs_gv rfl (lkb g1) (v_move rfl) rfl ?_
          refine rs_gw rfl (lkb g1) (w_mcall (vs := [_, _]) (M.less' hR (i := i3) (j := a) (by omega) (by omega) (by first | rfl | omega) (by first | rfl | omega)) rfl ⟨rfl, rfl, trivial⟩) rfl ?_
          rintro _ h12 ⟨rfl, hR, K12⟩
          have K := K.trans K12
          refine rs_v (v_pick_t (lkb g1) rfl) rfl ?_
          refine rs_nil ?_
          exact q_cut [(0, _), (1, _), (10, _), (11, _), (67, _)] ⟨rfl, rfl, rfl, rfl, rfl, trivial⟩ ⟨hR, K, by rw [show upC (fun x => lt x d2[a]!) d2 j2 i3 = (lt d2[i3]! d2[a]!) from by simp only [upC, g0, Bool.true_and, Bool.false_and]]⟩
        · have g2 : ¬ i3 ≤ j2 := by simpa using g0
          have g1 : decide ((i3 : Int) ≤ (j2 : Int)) = false := decide_eq_false (by omega)
          refine tr_reg ?_
          refine rM rfl rfl <| rM rfl rfl <| rs_v (v_le rfl rfl) rfl ?_
          refine rM rfl rfl <| rs_gs rfl (lkb g1) rfl rfl <| rs_gs rfl (lkb g1) rfl rfl <| rs_gs rfl (lkb g1) rfl rfl <| rs_gs rfl (lkb g1) rfl rfl <| rs_v (v_pick_f (lkb g1) rfl) rfl ?_
          refine rs_nil ?_
          exact q_cut [(0, _), (1, _), (10, _), (11, _), (67, _)] ⟨rfl, rfl, rfl, rfl, rfl, trivial⟩ ⟨hR, K, by rw [show upC (fun x => lt x d2[a]!) d2 j2 i3 = (false) from by simp only [upC, g0, Bool.true_and, Bool.false_and]]⟩
      rintro E h99 ⟨hR, K, rfl⟩
      refine tr_ifn rfl (fun hif => ?_) (fun hif => ?_)
      · -- no
        rw [up_stop hif] at hei3
        refine tr_exit <| q_thn_exit ?_
        refine q_lp_exit ?_
        refine q_blk_hit ?_
        refine q_thn ?_
        refine tr_seq ?_
        refine tr_block ?_
        refine tr_loop (fun m E h' => ∃ j3, j3 ≤ j2 ∧ j3 = m ∧ E = [(0, .iface T rv), (1, .int .i64 (a : Int)), (10, .int .i64 (i3 : Int)), (11, .int .i64 (j3 : Int))] ∧ R d2 h' ∧ Keep [blk] h h' ∧ scanDown (fun x => !lt x d2[a]!) d2 i3 j3 = scanDown (fun x => !lt x d2[a]!) d2 i3 j2) j2 [(0, _), (1, _), (10, _), (11, _)] ⟨rfl, rfl, rfl, rfl, trivial⟩ ⟨j2, Nat.le_refl _, rfl, rfl, hR, K, rfl⟩ ?_
        rintro m E hL14 ⟨j3, hj3, rfl, rfl, hR, K, hej3⟩
        refine tr_seq ?_
        refine tr_cut (fun E h' => R d2 h' ∧ Keep [blk] h h' ∧ E = [(0, .iface T rv), (1, .int .i64 (a : Int)), (10, .int .i64 (i3 : Int)), (11, .int .i64 (j3 : Int)), (79, .bool (dnC (fun x => !lt x d2[a]!) d2 i3 j3))]) ?_ ?_
        ·
          rcases Bool.eq_false_or_eq_true (decide (i3 ≤ j3)) with g0 | g0
          · have g2 : i3 ≤ j3 := by simpa using g0
            have g1 : decide ((i3 : Int) ≤ (j3 : Int)) = true := decide_eq_true (by omega)
            refine tr_reg ?_
            refine rM rfl rfl <| rM rfl rfl <| rs_v (v_le rfl rfl) rfl ?_
            refine rM rfl rfl <| rs_gv rfl (lkb g1) (v_move rfl) rfl <| rs_gv rfl (lkb g1) (v_move rfl) rfl <| rs_gv rfl (lkb g1) (v_move rfl) rfl ?_
            refine rs_gw rfl (lkb g1) (w_mcall (vs := [_, _]) (M.less' hR (i := j3) (j := a) (by omega) (by omega) (by first | rfl | omega) (by first | rfl | omega)) rfl ⟨rfl, rfl, trivial⟩) rfl ?_
            rintro _ h15 ⟨rfl, hR, K15⟩
            have K := K.trans K15
            refine rs_gv rfl (lkb g1) (v_not rfl) rfl ?_
            refine rs_v (v_pick_t (lkb g1) rfl) rfl ?_
            refine rs_nil ?_
            exact q_cut [(0, _), (1, _), (10, _), (11, _), (79, _)] ⟨rfl, rfl, rfl, rfl, rfl, trivial⟩ ⟨hR, K, by rw [show dnC (fun x => !lt x d2[a]!) d2 i3 j3 = (!lt d2[j3]! d2[a]!) from by simp only [dnC, g0, Bool.true_and, Bool.false_and]]⟩
          · have g2 : ¬ i3 ≤ j3 := by simpa using g0
            have g1 : decide ((i3 : Int) ≤ (j3 : Int)) = false := decide_eq_false (by omega)
            refine tr_reg ?_
            refine rM rfl rfl <| rM rfl rfl <| rs_v (v_le rfl rfl) rfl ?_
            refine rM rfl rfl <| rs_gs rfl (lkb g1) rfl rfl <| rs_gs rfl (lkb g1) rfl rfl <| rs_gs rfl (lkb g1) rfl rfl <| rs_gs rfl (lkb g1) rfl rfl <| rs_gs rfl (lkb g1) rfl rfl <| rs_v (v_pick_f (lkb g1) rfl) rfl ?_
            refine rs_nil ?_
            exact q_cut [(0, _), (1, _), (10, _), (11, _), (79, _)] ⟨rfl, rfl, rfl, rfl, rfl, trivial⟩ ⟨hR, K, by rw [show dnC (fun x => !lt x d2[a]!) d2 i3 j3 = (false) from by simp only [dnC, g0, Bool.true_and, Bool.false_and]]⟩
        rintro E h99 ⟨hR, K, rfl⟩
        refine tr_ifn rfl (fun hif => ?_) (fun hif => ?_)
        · -- no
          rw [dn_stop hif] at hej3
          refine tr_exit <| q_thn_exit ?_
          refine q_lp_exit ?_
          refine q_blk_hit ?_
          refine q_thn ?_
          refine tr_seq ?_
          refine rG <| rM rfl rfl <| rM rfl rfl <| rs_v (v_gt rfl rfl) rfl ?_
          refine rN ?_
          refine tr_if rfl (fun hif => ?_) (fun hif => ?_)
          · -- yes
            simp only [dT, dF] at hif
            refine tr_exit <| q_thn_exit ?_
            refine q_blk_miss rfl ?_
            refine q_lp_exit ?_
            refine q_blk_hit ?_
            refine q_thn ?_
            refine rG <| rM rfl rfl <| rM rfl rfl <| rM rfl rfl <| rs_w (w_mcall (vs := [_, _]) (M.swap' hR (i := j3) (j := a) (by omega) (by omega) (by first | rfl | omega) (by first | rfl | omega)) rfl ⟨rfl, rfl, trivial⟩) rfl ?_
            rintro _ h17 ⟨rfl, hR, K17⟩
            have K := K.trans K17
            refine rN <| rG <| rM rfl rfl <| rA rfl rfl <| rA rfl rfl <| rN <| tr_ret <| q_ret (res_tmp2 rfl rfl rfl) ?_
            have e := part_go (i := i) (j := j) (b := b) (lt := lt) (d := d) (a := a) (pv := pv) (by rw [← hj0]; exact hei.symm) (by rw [← hj0]; exact hej.symm) (by omega)
            rw [e, ← he, pl_end hei3.symm hej3.symm (by omega)]
            exact ⟨rfl, hR, K⟩
          -- no
          simp only [dT, dF] at hif
          refine tr_skip ?_
          refine q_thn ?_
          refine rG <| rM rfl rfl <| rM rfl rfl <| rM rfl rfl <| rs_w (w_mcall (vs := [_, _]) (M.swap' hR (i := i3) (j := j3) (by omega) (by omega) (by first | rfl | omega) (by first | rfl | omega)) rfl ⟨rfl, rfl, trivial⟩) rfl ?_
          rintro _ h18 ⟨rfl, hR, K18⟩
          have K := K.trans K18
          refine rN <| rG <| rM rfl rfl <| rs_v (v_add rfl rfl (by omega) (by omega)) rfl ?_
          refine rA rfl rfl <| rN ?_
          refine tr_reg ?_
          refine rM rfl rfl <| rs_v (v_sub rfl rfl (by omega) (by omega)) rfl ?_
          refine rA rfl rfl ?_
          refine rs_nil ?_
          refine q_blk_n ?_
          refine q_lp (j3 - 1 + 1 - (i3 + 1)) [(0, _), (1, _), (10, _), (11, _)] (by omega) ⟨rfl, rfl, rfl, rfl, trivial⟩ ⟨i3 + 1, j3 - 1, _, by omega, by omega, by omega, rfl, by rw [show ((j3 - 1 : Nat) : Int) = (j3 : Int) - 1 from by omega]; rfl, hR, K, ?_⟩
          rw [← he, pl_go hei3.symm hej3.symm (by omega) (by omega) (by omega) (by omega)]
        -- yes
        have hle := dnC_le hif
        refine tr_skip ?_
        refine q_thn ?_
        refine tr_block ?_
        refine tr_reg ?_
        refine rM rfl rfl <| rs_v (v_sub rfl rfl (by omega) (by omega)) rfl ?_
        refine rA rfl rfl ?_
        refine rs_nil ?_
        refine q_blk_n ?_
        refine q_lp (j3 - 1) [(0, _), (1, _), (10, _), (11, _)] (by omega) ⟨rfl, rfl, rfl, rfl, trivial⟩ ⟨j3 - 1, by omega, rfl, by rw [show ((j3 - 1 : Nat) : Int) = (j3 : Int) - 1 from by omega], hR, K, ?_⟩
        rw [← hej3, dn_go (p := (fun x => !lt x d2[a]!)) hif (by omega)]
      -- yes
      have hle := upC_le hif
      refine tr_skip ?_
      refine q_thn ?_
      refine tr_block ?_
      refine tr_reg ?_
      refine rM rfl rfl <| rs_v (v_add rfl rfl (by omega) (by omega)) rfl ?_
      refine rA rfl rfl ?_
      refine rs_nil ?_
      refine q_blk_n ?_
      refine q_lp (b - (i3 + 1)) [(0, _), (1, _), (10, _), (11, _)] (by omega) ⟨rfl, rfl, rfl, rfl, trivial⟩ ⟨i3 + 1, by omega, by omega, rfl, rfl, hR, K, ?_⟩
      rw [← hei3, up_go (p := (fun x => lt x d2[a]!)) hif]
    -- yes
    have hle := dnC_le hif
    refine tr_skip ?_
    refine q_thn ?_
    refine tr_block ?_
    refine tr_reg ?_
    refine rM rfl rfl <| rs_v (v_sub rfl rfl (by omega) (by omega)) rfl ?_
    refine rA rfl rfl ?_
    refine rs_nil ?_
    refine q_blk_n ?_
    refine q_lp (j - 1) [(0, _), (1, _), (10, _), (11, _)] (by omega) ⟨rfl, rfl, rfl, rfl, trivial⟩ ⟨j - 1, by omega, rfl, by rw [show ((j - 1 : Nat) : Int) = (j : Int) - 1 from by omega], hR, K, ?_⟩
    rw [← hej, dn_go (p := (fun x => !lt x (swp d a pv)[a]!)) hif (by omega)]
  -- yes
  have hle := upC_le hif
  refine tr_skip ?_
  refine q_thn ?_
  refine tr_block ?_
  refine tr_reg ?_
  refine rM rfl rfl <| rs_v (v_add rfl rfl (by omega) (by omega)) rfl ?_
  refine rA rfl rfl ?_
  refine rs_nil ?_
  refine q_blk_n ?_
  refine q_lp (b - (i + 1)) [(0, _), (1, _), (10, _), (11, _)] (by omega) ⟨rfl, rfl, rfl, rfl, trivial⟩ ⟨i + 1, by omega, by omega, rfl, rfl, hR, K, ?_⟩
  rw [← hei, up_go (p := (fun x => lt x (swp d a pv)[a]!)) hif]
theorem c_partitionEqual {α : Type} [Inhabited α] {χ : Chi} {T : TypeId} {rv : Value} {n : Nat} {lt : α → α → Bool} {blk : Nat} {F : Nat → Prop} {R : Array α → Heap → Prop} (M : SortM χ T rv n lt blk F R) {d : Array α} {h : Heap} {a b pv : Nat} (hR : R d h) (hap : a ≤ pv) (hpb : pv < b) (hb : b ≤ n) :
    Cl Tryz.prog χ 141 #[.iface T rv, .int .i64 (a : Int), .int .i64 (b : Int), .int .i64 (pv : Int)] h (fun r h' => r = .int .i64 (((partitionEqual lt d a b pv).1 : Nat) : Int) ∧ a < (partitionEqual lt d a b pv).1 ∧ (partitionEqual lt d a b pv).1 ≤ b ∧ R (partitionEqual lt d a b pv).2 h' ∧ Keep [blk] h h') := by
  have hn := M.small
  obtain ⟨j0, hj0⟩ : ∃ j0, j0 = b - 1 := ⟨_, rfl⟩
  refine cl_intro Tryz.func141 rfl rfl rfl ?_
  have K : Keep [blk] h h := Keep.refl _ _
  refine rG <| rA rfl rfl <| rN <| rG <| rM rfl rfl <| rM rfl rfl <| rM rfl rfl <| rs_w (w_mcall (vs := [_, _]) (M.swap' hR (i := a) (j := pv) (by omega) (by omega) (by first | rfl | omega) (by first | rfl | omega)) rfl ⟨rfl, rfl, trivial⟩) rfl ?_
  rintro _ h1 ⟨rfl, hR, K1⟩
  have K := K.trans K1
  refine rN <| rG <| rM rfl rfl <| rs_v (v_add rfl rfl (by omega) (by omega)) rfl ?_
  refine rM rfl rfl <| rs_v (v_sub rfl rfl (by omega) (by omega)) rfl ?_
  refine rA rfl rfl <| rA rfl rfl <| rN ?_
  refine tr_seq ?_
  refine tr_block ?_
  refine tr_loop (fun m E h' => ∃ i2 j2 d2, a + 1 ≤ i2 ∧ i2 ≤ b ∧ j2 ≤ j0 ∧ m = j2 + 1 - i2 ∧ E = [(0, .iface T rv), (1, .int .i64 (a : Int)), (9, .int .i64 (i2 : Int)), (10, .int .i64 (j2 : Int))] ∧ R d2 h' ∧ Keep [blk] h h' ∧ partEqLoop lt a i2 j2 d2 = partitionEqual lt d a b pv) (j0 + 1 - (a + 1)) [(0, _), (1, _), (9, _), (10, _)] ⟨rfl, rfl, rfl, rfl, trivial⟩ ⟨a + 1, j0, _, by omega, by omega, by omega, rfl, by rw [show ((b : Int) - 1) = (j0 : Int) from by omega]; rfl, hR, K, by rw [partitionEqual, ← hj0]⟩ ?_
  rintro m E hL2 ⟨i2, j2, d2, hi2, hi2b, hj2, rfl, rfl, hR, K, he⟩
  refine tr_block ?_
  refine tr_seq ?_
  refine tr_block ?_
  refine tr_loop (fun m E h' => ∃ i3, i2 ≤ i3 ∧ i3 ≤ b ∧ m = b - i3 ∧ E = [(0, .iface T rv), (1, .int .i64 (a : Int)), (9, .int .i64 (i3 : Int)), (10, .int .i64 (j2 : Int))] ∧ R d2 h' ∧ Keep [blk] h h' ∧ scanUp (fun x => !lt d2[a]! x) d2 j2 i3 = scanUp (fun x => !lt d2[a]! x) d2 j2 i2) (b - i2) [(0, _), (1, _), (9, _), (10, _)] ⟨rfl, rfl, rfl, rfl, trivial⟩ ⟨i2, Nat.le_refl _, by omega, rfl, rfl, hR, K, rfl⟩ ?_
  rintro m E hL3 ⟨i3, hi3, hi3b, rfl, rfl, hR, K, hei3⟩
  refine tr_seq ?_
  refine tr_cut (fun E h' => R d2 h' ∧ Keep [blk] h h' ∧ E = [(0, .iface T rv), (1, .int .i64 (a : Int)), (9, .int .i64 (i3 : Int)), (10, .int .i64 (j2 : Int)), (28, .bool (upC (fun x => !lt d2[a]! x) d2 j2 i3))]) ?_ ?_
  ·
    rcases Bool.eq_false_or_eq_true (decide (i3 ≤ j2)) with g0 | g0
    · have g2 : i3 ≤ j2 := by simpa using g0
      have g1 : decide ((i3 : Int) ≤ (j2 : Int)) = true := decide_eq_true (by omega)
      refine tr_reg ?_
      refine rM rfl rfl <| rM rfl rfl <| rs_v (v_le rfl rfl) rfl ?_
      refine rM rfl rfl <| rs_gv rfl (lkb g1) (v_move rfl) rfl <| rs_gv rfl (lkb g1) (v_move rfl) rfl <| rs_gv rfl (lkb g1) (v_move rfl) rfl ?_
      refine rs_gw rfl (lkb g1) (w_mcall (vs := [_, _]) (M.less' hR (i := a) (j := i3) (by omega) (by omega) (by first | rfl | omega) (by first | rfl | omega)) rfl ⟨rfl, rfl, trivial⟩) rfl ?_
      rintro _ h4 ⟨rfl, hR, K4⟩
      have K := K.trans K4
      refine rs_gv rfl (lkb g1) (v_not rfl) rfl ?_
      refine rs_v (v_pick_t (lkb g1) rfl) rfl ?_
      refine rs_nil ?_
      exact q_cut [(0, _), (1, _), (9, _), (10, _), (28, _)] ⟨rfl, rfl, rfl, rfl, rfl, trivial⟩ ⟨hR, K, by rw [show upC (fun x => !lt d2[a]! x) d2 j2 i3 = (!lt d2[a]! d2[i3]!) from by simp only [upC, g0, Bool.true_and, Bool.false_and]]⟩
    · have g2 : ¬ i3 ≤ j2 := by simpa using g0
      have g1 : decide ((i3 : Int) ≤ (j2 : Int)) = false := decide_eq_false (by omega)
      refine tr_reg ?_
      refine rM rfl rfl <| rM rfl rfl <| rs_v (v_le rfl rfl) rfl ?_
      refine rM rfl rfl <| rs_gs rfl (lkb g1) rfl rfl <| rs_gs rfl (lkb g1) rfl rfl <| rs_gs rfl (lkb g1) rfl rfl <| rs_gs rfl (lkb g1) rfl rfl <| rs_gs rfl (lkb g1) rfl rfl <| rs_v (v_pick_f (lkb g1) rfl) rfl ?_
      refine rs_nil ?_
      exact q_cut [(0, _), (1, _), (9, _), (10, _), (28, _)] ⟨rfl, rfl, rfl, rfl, rfl, trivial⟩ ⟨hR, K, by rw [show upC (fun x => !lt d2[a]! x) d2 j2 i3 = (false) from by simp only [upC, g0, Bool.true_and, Bool.false_and]]⟩
  rintro E h99 ⟨hR, K, rfl⟩
  refine tr_ifn rfl (fun hif => ?_) (fun hif => ?_)
  · -- no
    rw [up_stop hif] at hei3
    refine tr_exit <| q_thn_exit ?_
    refine q_lp_exit ?_
    refine q_blk_hit ?_
    refine q_thn ?_
    refine tr_seq ?_
    refine tr_block ?_
    refine tr_loop (fun m E h' => ∃ j3, j3 ≤ j2 ∧ j3 = m ∧ E = [(0, .iface T rv), (1, .int .i64 (a : Int)), (9, .int .i64 (i3 : Int)), (10, .int .i64 (j3 : Int))] ∧ R d2 h' ∧ Keep [blk] h h' ∧ scanDown (fun x => lt d2[a]! x) d2 i3 j3 = scanDown (fun x => lt d2[a]! x) d2 i3 j2) j2 [(0, _), (1, _), (9, _), (10, _)] ⟨rfl, rfl, rfl, rfl, trivial⟩ ⟨j2, Nat.le_refl _, rfl, rfl, hR, K, rfl⟩ ?_
    rintro m E hL6 ⟨j3, hj3, rfl, rfl, hR, K, hej3⟩
    refine tr_seq ?_
    refine tr_cut (fun E h' => R d2 h' ∧ Keep [blk] h h' ∧ E = [(0, .iface T rv), (1, .int .i64 (a : Int)), (9, .int .i64 (i3 : Int)), (10, .int .i64 (j3 : Int)), (39, .bool (dnC (fun x => lt d2[a]! x) d2 i3 j3))]) ?_ ?_
    ·
      rcases Bool.eq_false_or_eq_true (decide (i3 ≤ j3)) with g0 | g0
      · have g2 : i3 ≤ j3 := by simpa using g0
        have g1 : decide ((i3 : Int) ≤ (j3 : Int)) = true := decide_eq_true (by omega)
        refine tr_reg ?_
        refine rM rfl rfl <| rM rfl rfl <| rs_v (v_le rfl rfl) rfl ?_
        refine rM rfl rfl <| rs_gv rfl (lkb g1) (v_move rfl) rfl <| rs_gv rfl (lkb g1) (v_move rfl) rfl <| rs_gv rfl (lkb g1) (v_move rfl) rfl ?_
        refine rs_gw rfl (lkb g1) (w_mcall (vs := [_, _]) (M.less' hR (i := a) (j := j3) (by omega) (by omega) (by first | rfl | omega) (by first | rfl | omega)) rfl ⟨rfl, rfl, trivial⟩) rfl ?_
        rintro _ h7 ⟨rfl, hR, K7⟩
        have K := K.trans K7
        refine rs_v (v_pick_t (lkb g1) rfl) rfl ?_
        refine rs_nil ?_
        exact q_cut [(0, _), (1, _), (9, _), (10, _), (39, _)] ⟨rfl, rfl, rfl, rfl, rfl, trivial⟩ ⟨hR, K, by rw [show dnC (fun x => lt d2[a]! x) d2 i3 j3 = (lt d2[a]! d2[j3]!) from by simp only [dnC, g0, Bool.true_and, Bool.false_and]]⟩
      · have g2 : ¬ i3 ≤ j3 := by simpa using g0
        have g1 : decide ((i3 : Int) ≤ (j3 : Int)) = false := decide_eq_false (by omega)
        refine tr_reg ?_
        refine rM rfl rfl <| rM rfl rfl <| rs_v (v_le rfl rfl) rfl ?_
        refine rM rfl rfl <| rs_gs rfl (lkb g1) rfl rfl <| rs_gs rfl (lkb g1) rfl rfl <| rs_gs rfl (lkb g1) rfl rfl <| rs_gs rfl (lkb g1) rfl rfl <| rs_v (v_pick_f (lkb g1) rfl) rfl ?_
        refine rs_nil ?_
        exact q_cut [(0, _), (1, _), (9, _), (10, _), (39, _)] ⟨rfl, rfl, rfl, rfl, rfl, trivial⟩ ⟨hR, K, by rw [show dnC (fun x => lt d2[a]! x) d2 i3 j3 = (false) from by simp only [dnC, g0, Bool.true_and, Bool.false_and]]⟩
    rintro E h99 ⟨hR, K, rfl⟩
    refine tr_ifn rfl (fun hif => ?_) (fun hif => ?_)
    · -- no
      rw [dn_stop hif] at hej3
      refine tr_exit <| q_thn_exit ?_
      refine q_lp_exit ?_
      refine q_blk_hit ?_
      refine q_thn ?_
      refine tr_seq ?_
      refine rG <| rM rfl rfl <| rM rfl rfl <| rs_v (v_gt rfl rfl) rfl ?_
      refine rN ?_
      refine tr_if rfl (fun hif => ?_) (fun hif => ?_)
      · -- yes
        simp only [dT, dF] at hif
        refine tr_exit <| q_thn_exit ?_
        refine q_blk_miss rfl ?_
        refine q_lp_exit ?_
        refine q_blk_hit ?_
        refine q_thn ?_
        refine rG <| rM rfl rfl <| rA rfl rfl <| rN <| tr_ret <| q_ret (res_tmp rfl rfl) ?_
        rw [← he, pe_end hei3.symm hej3.symm (by omega)]
        exact ⟨rfl, by show a < i3; omega, hi3b, hR, K⟩
      -- no
      simp only [dT, dF] at hif
      refine tr_skip ?_
      refine q_thn ?_
      refine rG <| rM rfl rfl <| rM rfl rfl <| rM rfl rfl <| rs_w (w_mcall (vs := [_, _]) (M.swap' hR (i := i3) (j := j3) (by omega) (by omega) (by first | rfl | omega) (by first | rfl | omega)) rfl ⟨rfl, rfl, trivial⟩) rfl ?_
      rintro _ h9 ⟨rfl, hR, K9⟩
      have K := K.trans K9
      refine rN <| rG <| rM rfl rfl <| rs_v (v_add rfl rfl (by omega) (by omega)) rfl ?_
      refine rA rfl rfl <| rN ?_
      refine tr_reg ?_
      refine rM rfl rfl <| rs_v (v_sub rfl rfl (by omega) (by omega)) rfl ?_
      refine rA rfl rfl ?_
      refine rs_nil ?_
      refine q_blk_n ?_
      refine q_lp (j3 - 1 + 1 - (i3 + 1)) [(0, _), (1, _), (9, _), (10, _)] (by omega) ⟨rfl, rfl, rfl, rfl, trivial⟩ ⟨i3 + 1, j3 - 1, _, by omega, by omega, by omega, rfl, by rw [show ((j3 - 1 : Nat) : Int) = (j3 : Int) - 1 from by omega]; rfl, hR, K, ?_⟩
      rw [← he, pe_go hei3.symm hej3.symm (by omega) (by omega) (by omega) (by omega)]
    -- yes
    have hle := dnC_le hif
    refine tr_skip ?_
    refine q_thn ?_
    refine tr_block ?_
    refine tr_reg ?_
    refine rM rfl rfl <| rs_v (v_sub rfl rfl (by omega) (by omega)) rfl ?_
    refine rA rfl rfl ?_
    refine rs_nil ?_
    refine q_blk_n ?_
    refine q_lp (j3 - 1) [(0, _), (1, _), (9, _), (10, _)] (by omega) ⟨rfl, rfl, rfl, rfl, trivial⟩ ⟨j3 - 1, by omega, rfl, by rw [show ((j3 - 1 : Nat) : Int) = (j3 : Int) - 1 from by omega], hR, K, ?_⟩
    rw [← hej3, dn_go (p := (fun x => lt d2[a]! x)) hif (by omega)]
  -- yes
  have hle := upC_le hif
  refine tr_skip ?_
  refine q_thn ?_
  refine tr_block ?_
  refine tr_reg ?_
  refine rM rfl rfl <| rs_v (v_add rfl rfl (by omega) (by omega)) rfl ?_
  refine rA rfl rfl ?_
  refine rs_nil ?_
  refine q_blk_n ?_
  refine q_lp (b - (i3 + 1)) [(0, _), (1, _), (9, _), (10, _)] (by omega) ⟨rfl, rfl, rfl, rfl, trivial⟩ ⟨i3 + 1, by omega, by omega, rfl, rfl, hR, K, ?_⟩
  rw [← hei3, up_go (p := (fun x => !lt d2[a]! x)) hif]
end Go.Proofs.YtmckkklhonfmcaaGreat
namespace Go.Proofs.YtmckkklhonfmcaaGreat
open Go.Tess Go.RowKit
open Go.Sort (swp order2 median medianAdjacent insInner insOuter insertionSort siftDown heapBuild heapPop heapSort scanUp scanDown partLoop partition partEqLoop partitionEqual scanSorted shiftDown shiftUp partialIns partialInsertionSort choosePivot reverseLoop reverseRange xorNext bitsLen breakStep breakPatterns pdq Hint)
set_option maxRecDepth 100000
set_option maxHeartbeats 1000000
section
variable {α : Type} [Inhabited α] {lt : α → α → Bool} {d d' : Array α} {a b c i i2 j s m : Nat}
def ssC (lt : α → α → Bool) (d : Array α) (b i : Nat) : Bool := decide (i < b) && !lt d[i]! d[i - 1]!
theorem ssC_lt (h : ssC lt d b i = true) : i < b := by simp [ssC] at h; exact h.1
theorem ss_go (h : ssC lt d b i = true) : scanSorted lt d b i = scanSorted lt d b (i + 1) := by unfold ssC at h; rw [scanSorted, if_pos h]
theorem ss_stop (h : ssC lt d b i = false) : scanSorted lt d b i = i := by unfold ssC at h; rw [scanSorted, if_neg (by rw [h]; decide)]
theorem sdn_stop (h : (!lt d[j]! d[j - 1]!) = true) (hj : 1 ≤ j) : shiftDown lt j d = d := by
  cases j with
  | zero => omega
  | succ j => rw [shiftDown, if_pos (show (!lt d[j + 1]! d[j]!) = true from h)]
theorem sdn_go (h : (!lt d[j]! d[j - 1]!) = false) (hj : 1 ≤ j) : shiftDown lt j d = shiftDown lt (j - 1) (swp d j (j - 1)) := by
  cases j with
  | zero => omega
  | succ j => rw [shiftDown, if_neg (by rw [show (!lt d[j + 1]! d[j]!) = false from h]; decide)]; rfl
theorem sup_end (h : ¬ j < b) : shiftUp lt b j d = d := by rw [shiftUp, if_neg h]
theorem sup_stop (h : (!lt d[j]! d[j - 1]!) = true) (hj : j < b) : shiftUp lt b j d = d := by rw [shiftUp, if_pos hj, if_pos h]
theorem sup_go (h : (!lt d[j]! d[j - 1]!) = false) (hj : j < b) : shiftUp lt b j d = shiftUp lt b (j + 1) (swp d j (j - 1)) := by
  conv => lhs; rw [shiftUp]
  rw [if_pos hj, if_neg (by rw [h]; decide)]
theorem pi_b (h : scanSorted lt d b i = i2) (e : i2 = b) : partialIns lt a b (s + 1) i d = (d, true) := by rw [partialIns]; simp only [h, if_pos e]
theorem pi_s (h : scanSorted lt d b i = i2) (e : ¬ i2 = b) (hs : b - a < 50) : partialIns lt a b (s + 1) i d = (d, false) := by rw [partialIns]; simp only [h, if_neg e, if_pos hs]
theorem pi_go (h : scanSorted lt d b i = i2) (e : ¬ i2 = b) (hs : ¬ b - a < 50) (h1 : (if i2 - a ≥ 2 then shiftDown lt (i2 - 1) (swp d i2 (i2 - 1)) else swp d i2 (i2 - 1)) = d') :
    partialIns lt a b (s + 1) i d = partialIns lt a b s i2 (if b - i2 ≥ 2 then shiftUp lt b (i2 + 1) d' else d') := by rw [partialIns]; simp only [h, if_neg e, if_neg hs, h1]
theorem median_lt (ha : a < m) (hb : b < m) (hc : c < m) : (median lt d a b c s).1 < m ∧ (median lt d a b c s).2 ≤ s + 3 := by
  have l1 := order2_lt (lt := lt) (d := d) (s := s) ha hb
  have l2 := order2_lt (lt := lt) (d := d) (s := (order2 lt d a b s).2.2) l1.2.1 hc
  have l3 := order2_lt (lt := lt) (d := d) (s := (order2 lt d (order2 lt d a b s).2.1 c (order2 lt d a b s).2.2).2.2) l1.1 l2.1
  exact ⟨l3.2.1, by unfold median; dsimp only; omega⟩
theorem madj_lt (ha : 1 ≤ a) (hb : a + 1 < m) : (medianAdjacent lt d a s).1 < m ∧ (medianAdjacent lt d a s).2 ≤ s + 3 := median_lt (by omega) (by omega) hb
def hintN (x : Hint) : Nat := match x with | .unknown => 0 | .increasing => 1 | .decreasing => 2
theorem cp_eq (h8 : b - a ≥ 8) {i1 j1 k1 s1 : Nat}
    (h : (if b - a ≥ 50 then ((medianAdjacent lt d (a + (b - a) / 4 * 1) 0).1, (medianAdjacent lt d (a + (b - a) / 4 * 2) (medianAdjacent lt d (a + (b - a) / 4 * 1) 0).2).1, (medianAdjacent lt d (a + (b - a) / 4 * 3) (medianAdjacent lt d (a + (b - a) / 4 * 2) (medianAdjacent lt d (a + (b - a) / 4 * 1) 0).2).2).1, (medianAdjacent lt d (a + (b - a) / 4 * 3) (medianAdjacent lt d (a + (b - a) / 4 * 2) (medianAdjacent lt d (a + (b - a) / 4 * 1) 0).2).2).2) else (a + (b - a) / 4 * 1, a + (b - a) / 4 * 2, a + (b - a) / 4 * 3, 0)) = (i1, j1, k1, s1)) :
    choosePivot lt d a b = ((median lt d i1 j1 k1 s1).1, if (median lt d i1 j1 k1 s1).2 = 0 then .increasing else if (median lt d i1 j1 k1 s1).2 = 12 then .decreasing else .unknown) := by
  unfold choosePivot
  simp only [if_pos h8]
  split at h
  · next h50 =>
    simp only [Prod.mk.injEq] at h
    obtain ⟨rfl, rfl, rfl, rfl⟩ := h
    simp only [if_pos h50]
  · next h50 =>
    simp only [Prod.mk.injEq] at h
    obtain ⟨rfl, rfl, rfl, rfl⟩ := h
    simp only [if_neg h50]
end
theorem c_partialInsertionSort {α : Type} [Inhabited α] {χ : Chi} {T : TypeId} {rv : Value} {n : Nat} {lt : α → α → Bool} {blk : Nat} {F : Nat → Prop} {R : Array α → Heap → Prop} (M : SortM χ T rv n lt blk F R) {d : Array α} {h : Heap} {a b : Nat} (hR : R d h) (hab : a < b) (hb : b ≤ n) :
    Cl Tryz.prog χ 140 #[.iface T rv, .int .i64 (a : Int), .int .i64 (b : Int)] h (fun r h' => r = .bool (partialInsertionSort lt d a b).2 ∧ R (partialInsertionSort lt d a b).1 h' ∧ Keep [blk] h h') := by
  have hn := M.small
  refine cl_intro Tryz.func140 rfl rfl rfl ?_
  have K : Keep [blk] h h := Keep.refl _ _
  refine rG <| rA rfl rfl <| rN <| rG <| rM rfl rfl <| rs_v (v_add rfl rfl (by omega) (by omega)) rfl ?_
  refine rA rfl rfl <| rN ?_
  refine tr_seq ?_
  refine rG <| rA rfl rfl <| rN <| tr_block ?_
  refine tr_loop (fun m E h' => ∃ s i d1 x, s = m ∧ s ≤ 5 ∧ x = 5 - (s : Int) ∧ a + 1 ≤ i ∧ i ≤ b ∧ E = [(0, .iface T rv), (1, .int .i64 (a : Int)), (2, .int .i64 (b : Int)), (7, .int .i64 (i : Int)), (8, .int .i64 x)] ∧ R d1 h' ∧ Keep [blk] h h' ∧ partialIns lt a b s i d1 = partialInsertionSort lt d a b) 5 [(0, _), (1, _), (2, _), (7, _), (8, _)] ⟨rfl, rfl, rfl, rfl, rfl, trivial⟩ ⟨5, a + 1, d, 0, rfl, by omega, rfl, by omega, by omega, rfl, hR, K, rfl⟩ ?_
  rintro m E hL1 ⟨s, i, d1, x, rfl, hs5, hx, hia, hib, rfl, hR, K, he⟩
  refine tr_seq ?_
  refine rG <| rM rfl rfl <| rs_v (v_lt rfl rfl) rfl ?_
  refine rN ?_
  refine tr_ifn rfl (fun hif => ?_) (fun hif => ?_)
  · -- no
    simp only [dT, dF] at hif
    refine tr_exit <| q_thn_exit ?_
    refine q_lp_exit ?_
    refine q_blk_hit ?_
    refine q_thn ?_
    refine rG <| rA rfl rfl <| rN <| tr_ret <| q_ret (res_tmp rfl rfl) ?_
    have hs0 : s = 0 := by omega
    subst hs0
    rw [← he]
    exact ⟨rfl, hR, K⟩
  -- yes
  simp only [dT, dF] at hif
  obtain ⟨s3, rfl⟩ : ∃ s3, s = s3 + 1 := ⟨s - 1, by omega⟩
  refine tr_skip ?_
  refine q_thn ?_
  refine tr_seq ?_
  refine tr_block ?_
  refine tr_seq ?_
  refine tr_block ?_
  refine tr_loop (fun m E h' => ∃ i2, i ≤ i2 ∧ i2 ≤ b ∧ m = b - i2 ∧ E = [(0, .iface T rv), (1, .int .i64 (a : Int)), (2, .int .i64 (b : Int)), (7, .int .i64 (i2 : Int)), (8, .int .i64 x)] ∧ R d1 h' ∧ Keep [blk] h h' ∧ scanSorted lt d1 b i2 = scanSorted lt d1 b i) (b - i) [(0, _), (1, _), (2, _), (7, _), (8, _)] ⟨rfl, rfl, rfl, rfl, rfl, trivial⟩ ⟨i, Nat.le_refl _, hib, rfl, rfl, hR, K, rfl⟩ ?_
  rintro m E hL2 ⟨i2, hi2, hi2b, rfl, rfl, hR, K, hei⟩
  refine tr_seq ?_
  refine tr_cut (fun E h' => R d1 h' ∧ Keep [blk] h h' ∧ E = [(0, .iface T rv), (1, .int .i64 (a : Int)), (2, .int .i64 (b : Int)), (7, .int .i64 (i2 : Int)), (8, .int .i64 x), (27, .bool (ssC lt d1 b i2))]) ?_ ?_
  ·
    rcases Bool.eq_false_or_eq_true (decide (i2 < b)) with g0 | g0
    · have g2 : i2 < b := by simpa using g0
      have g1 : decide ((i2 : Int) < (b : Int)) = true := decide_eq_true (by omega)
      refine tr_reg ?_
      refine rM rfl rfl <| rM rfl rfl <| rs_v (v_lt rfl rfl) rfl ?_
      refine rM rfl rfl <| rs_gv rfl (lkb g1) (v_move rfl) rfl <| rs_gv rfl (lkb g1) (v_move rfl) rfl <| rs_gv rfl (lkb g1) (v_move rfl) rfl <| rs_gv rfl (lkb g1) (v_sub rfl rfl (by omega) (by omega)) rfl ?_
      refine rs_gw rfl (lkb g1) (w_mcall (vs := [_, _]) (M.less' hR (i := i2) (j := i2 - 1) (by omega) (by omega) (by first | rfl | omega) (by first | rfl | omega)) rfl ⟨rfl, rfl, trivial⟩) rfl ?_
      rintro _ h3 ⟨rfl, hR, K3⟩
      have K := K.trans K3
      refine rs_gv rfl (lkb g1) (v_not rfl) rfl ?_
      refine rs_v (v_pick_t (lkb g1) rfl) rfl ?_
      refine rs_nil ?_
      exact q_cut [(0, _), (1, _), (2, _), (7, _), (8, _), (27, _)] ⟨rfl, rfl, rfl, rfl, rfl, rfl, trivial⟩ ⟨hR, K, by rw [show ssC lt d1 b i2 = (!lt d1[i2]! d1[i2 - 1]!) from by simp only [ssC, g0, Bool.true_and, Bool.false_and]]⟩
    · have g2 : ¬ i2 < b := by simpa using g0
      have g1 : decide ((i2 : Int) < (b : Int)) = false := decide_eq_false (by omega)
      refine tr_reg ?_
      refine rM rfl rfl <| rM rfl rfl <| rs_v (v_lt rfl rfl) rfl ?_
      refine rM rfl rfl <| rs_gs rfl (lkb g1) rfl rfl <| rs_gs rfl (lkb g1) rfl rfl <| rs_gs rfl (lkb g1) rfl rfl <| rs_gs rfl (lkb g1) rfl rfl <| rs_gs rfl (lkb g1) rfl rfl <| rs_gs rfl (lkb g1) rfl rfl <| rs_v (v_pick_f (lkb g1) rfl) rfl ?_
      refine rs_nil ?_
      exact q_cut [(0, _), (1, _), (2, _), (7, _), (8, _), (27, _)] ⟨rfl, rfl, rfl, rfl, rfl, rfl, trivial⟩ ⟨hR, K, by rw [show ssC lt d1 b i2 = (false) from by simp only [ssC, g0, Bool.true_and, Bool.false_and]]⟩
  rintro E h99 ⟨hR, K, rfl⟩
  refine tr_ifn rfl (fun hif => ?_) (fun hif => ?_)
  · -- no
    rw [ss_stop hif] at hei
    refine tr_exit <| q_thn_exit ?_
    refine q_lp_exit ?_
    refine q_blk_hit ?_
    refine q_thn ?_
    refine tr_seq ?_
    refine rG <| rM rfl rfl <| rM rfl rfl <| rs_v (v_eq rfl rfl) rfl ?_
    refine rN ?_
    refine tr_if rfl (fun hif => ?_) (fun hif => ?_)
    · -- yes
      simp only [dT, dF] at hif
      refine rG <| rA rfl rfl <| rN <| tr_ret <| q_thn_ret <| q_blk_ret <| q_thn_ret ?_
      refine q_lp_ret ?_
      refine q_blk_ret <| q_thn_ret <| q_ret (res_tmp rfl rfl) ?_
      rw [← he, pi_b hei.symm (by omega)]
      exact ⟨rfl, hR, K⟩
    -- no
    simp only [dT, dF] at hif
    refine tr_skip ?_
    refine q_thn ?_
    refine tr_seq ?_
    refine rG <| rM rfl rfl <| rM rfl rfl <| rs_v (v_sub rfl rfl (by omega) (by omega)) rfl ?_
    refine rs_v (v_lt rfl rfl) rfl ?_
    refine rN ?_
    refine tr_if rfl (fun hif => ?_) (fun hif => ?_)
    · -- yes
      simp only [dT, dF] at hif
      refine rG <| rA rfl rfl <| rN <| tr_ret <| q_thn_ret <| q_blk_ret <| q_thn_ret ?_
      refine q_lp_ret ?_
      refine q_blk_ret <| q_thn_ret <| q_ret (res_tmp rfl rfl) ?_
      rw [← he, pi_s hei.symm (by omega) (by omega)]
      exact ⟨rfl, hR, K⟩
    -- no
    simp only [dT, dF] at hif
    refine tr_skip ?_
    refine q_thn ?_
    refine rG <| rM rfl rfl <| rM rfl rfl <| rM rfl rfl <| rs_v (v_sub rfl rfl (by omega) (by omega)) rfl ?_
    refine rs_w (w_mcall (vs := [_, _]) (M.swap' hR (i := i2) (j := i2 - 1) (by omega) (by omega) (by first | rfl | omega) (by first | rfl | omega)) rfl ⟨rfl, rfl, trivial⟩) rfl ?_
    rintro _ h5 ⟨rfl, hR, K5⟩
    have K := K.trans K5
    refine rN ?_
    refine tr_cut (fun E h' => R (if i2 - a ≥ 2 then shiftDown lt (i2 - 1) (swp d1 i2 (i2 - 1)) else (swp d1 i2 (i2 - 1))) h' ∧ Keep [blk] h h' ∧ E = [(0, .iface T rv), (1, .int .i64 (a : Int)), (2, .int .i64 (b : Int)), (7, .int .i64 (i2 : Int)), (8, .int .i64 x)]) ?_ ?_
    ·
      refine rG <| rM rfl rfl <| rM rfl rfl <| rs_v (v_sub rfl rfl (by omega) (by omega)) rfl ?_
      refine rs_v (v_ge rfl rfl) rfl ?_
      refine rN ?_
      refine tr_if rfl (fun hif => ?_) (fun hif => ?_)
      · -- yes
        simp only [dT, dF] at hif
        refine rG <| rM rfl rfl <| rs_v (v_sub rfl rfl (by omega) (by omega)) rfl ?_
        refine rA rfl rfl <| rN <| tr_block ?_
        refine tr_loop (fun m E h' => ∃ j d3, j = m ∧ j ≤ i2 - 1 ∧ E = [(0, .iface T rv), (1, .int .i64 (a : Int)), (2, .int .i64 (b : Int)), (7, .int .i64 (i2 : Int)), (8, .int .i64 x), (9, .int .i64 (j : Int))] ∧ R d3 h' ∧ Keep [blk] h h' ∧ shiftDown lt j d3 = shiftDown lt (i2 - 1) (swp d1 i2 (i2 - 1))) (i2 - 1) [(0, _), (1, _), (2, _), (7, _), (8, _), (9, _)] ⟨rfl, rfl, rfl, rfl, rfl, rfl, trivial⟩ ⟨i2 - 1, _, rfl, Nat.le_refl _, by rw [show ((i2 - 1 : Nat) : Int) = (i2 : Int) - 1 from by omega], hR, K, rfl⟩ ?_
        rintro m E hL6 ⟨j, d3, rfl, hj, rfl, hR, K, he3⟩
        refine tr_seq ?_
        refine rG <| rM rfl rfl <| rs_v (v_ge rfl rfl) rfl ?_
        refine rN ?_
        refine tr_ifn rfl (fun hif => ?_) (fun hif => ?_)
        · -- no
          simp only [dT, dF] at hif
          refine tr_exit <| q_thn_exit ?_
          refine q_lp_exit ?_
          refine q_blk_hit ?_
          exact q_cut [(0, _), (1, _), (2, _), (7, _), (8, _)] ⟨rfl, rfl, rfl, rfl, rfl, trivial⟩ ⟨by
                have hj1 : j = 0 := by omega
                subst hj1
                rw [if_pos (by omega), ← he3]; exact hR, K, rfl⟩
        -- yes
        simp only [dT, dF] at hif
        refine tr_skip ?_
        refine q_thn ?_
        refine tr_seq ?_
        refine tr_block ?_
        refine tr_seq ?_
        refine rG <| rM rfl rfl <| rM rfl rfl <| rM rfl rfl <| rs_v (v_sub rfl rfl (by omega) (by omega)) rfl ?_
        refine rs_w (w_mcall (vs := [_, _]) (M.less' hR (i := j) (j := j - 1) (by omega) (by omega) (by first | rfl | omega) (by first | rfl | omega)) rfl ⟨rfl, rfl, trivial⟩) rfl ?_
        rintro _ h7 ⟨rfl, hR, K7⟩
        have K := K.trans K7
        refine rs_v (v_not rfl) rfl ?_
        refine rN ?_
        refine tr_if rfl (fun hif => ?_) (fun hif => ?_)
        · -- yes
          skip
          refine tr_exit <| q_thn_exit ?_
          refine q_blk_miss rfl ?_
          refine q_thn_exit ?_
          refine q_lp_exit ?_
          refine q_blk_hit ?_
          exact q_cut [(0, _), (1, _), (2, _), (7, _), (8, _)] ⟨rfl, rfl, rfl, rfl, rfl, trivial⟩ ⟨by rw [if_pos (by omega), ← he3, sdn_stop hif (by omega)]; exact hR, K, rfl⟩
        -- no
        skip
        refine tr_skip ?_
        refine q_thn ?_
        refine tr_reg ?_
        refine rM rfl rfl <| rM rfl rfl <| rM rfl rfl <| rs_v (v_sub rfl rfl (by omega) (by omega)) rfl ?_
        refine rs_w (w_mcall (vs := [_, _]) (M.swap' hR (i := j) (j := j - 1) (by omega) (by omega) (by first | rfl | omega) (by first | rfl | omega)) rfl ⟨rfl, rfl, trivial⟩) rfl ?_
        rintro _ h8 ⟨rfl, hR, K8⟩
        have K := K.trans K8
        refine rs_nil ?_
        refine q_blk_n ?_
        refine q_thn ?_
        refine tr_reg ?_
        refine rM rfl rfl <| rs_v (v_sub rfl rfl (by omega) (by omega)) rfl ?_
        refine rA rfl rfl ?_
        refine rs_nil ?_
        refine q_lp (j - 1) [(0, _), (1, _), (2, _), (7, _), (8, _), (9, _)] (by omega) ⟨rfl, rfl, rfl, rfl, rfl, rfl, trivial⟩ ⟨j - 1, _, rfl, by omega, by rw [show ((j - 1 : Nat) : Int) = (j : Int) - 1 from by omega], hR, K, ?_⟩
        rw [← he3, sdn_go hif (by omega)]
      -- no
      simp only [dT, dF] at hif
      refine tr_skip ?_
      exact q_cut [(0, _), (1, _), (2, _), (7, _), (8, _)] ⟨rfl, rfl, rfl, rfl, rfl, trivial⟩ ⟨by rw [if_neg (by omega)]; exact hR, K, rfl⟩
    rintro E h98 ⟨hR, K, rfl⟩
    generalize hd4 : (if i2 - a ≥ 2 then shiftDown lt (i2 - 1) (swp d1 i2 (i2 - 1)) else (swp d1 i2 (i2 - 1))) = d4 at hR
    refine rG <| rM rfl rfl <| rM rfl rfl <| rs_v (v_sub rfl rfl (by omega) (by omega)) rfl ?_
    refine rs_v (v_ge rfl rfl) rfl ?_
    refine rN ?_
    refine tr_if rfl (fun hif => ?_) (fun hif => ?_)
    · -- yes
      simp only [dT, dF] at hif
      refine rG <| rM rfl rfl <| rs_v (v_add rfl rfl (by omega) (by omega)) rfl ?_
      refine rA rfl rfl <| rN <| tr_block ?_
      refine tr_loop (fun m E h' => ∃ j5 d5, i2 + 1 ≤ j5 ∧ j5 ≤ b ∧ m = b - j5 ∧ E = [(0, .iface T rv), (1, .int .i64 (a : Int)), (2, .int .i64 (b : Int)), (7, .int .i64 (i2 : Int)), (8, .int .i64 x), (10, .int .i64 (j5 : Int))] ∧ R d5 h' ∧ Keep [blk] h h' ∧ shiftUp lt b j5 d5 = shiftUp lt b (i2 + 1) d4) (b - (i2 + 1)) [(0, _), (1, _), (2, _), (7, _), (8, _), (10, _)] ⟨rfl, rfl, rfl, rfl, rfl, rfl, trivial⟩ ⟨i2 + 1, _, Nat.le_refl _, by omega, rfl, rfl, hR, K, rfl⟩ ?_
      rintro m E hL10 ⟨j5, d5, hj5, hj5b, rfl, rfl, hR, K, he5⟩
      refine tr_seq ?_
      refine rG <| rM rfl rfl <| rM rfl rfl <| rs_v (v_lt rfl rfl) rfl ?_
      refine rN ?_
      refine tr_ifn rfl (fun hif => ?_) (fun hif => ?_)
      · -- no
        simp only [dT, dF] at hif
        refine tr_exit <| q_thn_exit ?_
        refine q_lp_exit ?_
        refine q_blk_hit <| q_blk_n ?_
        refine q_thn ?_
        refine tr_reg ?_
        refine rM rfl rfl <| rs_v (v_add rfl rfl (by omega) (by omega)) rfl ?_
        refine rA rfl rfl ?_
        refine rs_nil ?_
        refine q_lp s3 [(0, _), (1, _), (2, _), (7, _), (8, _)] (by omega) ⟨rfl, rfl, rfl, rfl, rfl, trivial⟩ ⟨s3, i2, _, _, rfl, by omega, by omega, by omega, by omega, rfl, hR, K, ?_⟩
        rw [← he, pi_go (i2 := i2) hei.symm (by omega) (by omega) hd4, if_pos (show b - i2 ≥ 2 by omega), ← he5, sup_end (by omega)]
      -- yes
      simp only [dT, dF] at hif
      refine tr_skip ?_
      refine q_thn ?_
      refine tr_seq ?_
      refine tr_block ?_
      refine tr_seq ?_
      refine rG <| rM rfl rfl <| rM rfl rfl <| rM rfl rfl <| rs_v (v_sub rfl rfl (by omega) (by omega)) rfl ?_
      refine rs_w (w_mcall (vs := [_, _]) (M.less' hR (i := j5) (j := j5 - 1) (by omega) (by omega) (by first | rfl | omega) (by first | rfl | omega)) rfl ⟨rfl, rfl, trivial⟩) rfl ?_
      rintro _ h11 ⟨rfl, hR, K11⟩
      have K := K.trans K11
      refine rs_v (v_not rfl) rfl ?_
      refine rN ?_
      refine tr_if rfl (fun hif => ?_) (fun hif => ?_)
      · -- yes
        skip
        refine tr_exit <| q_thn_exit ?_
        refine q_blk_miss rfl ?_
        refine q_thn_exit ?_
        refine q_lp_exit ?_
        refine q_blk_hit <| q_blk_n ?_
        refine q_thn ?_
        refine tr_reg ?_
        refine rM rfl rfl <| rs_v (v_add rfl rfl (by omega) (by omega)) rfl ?_
        refine rA rfl rfl ?_
        refine rs_nil ?_
        refine q_lp s3 [(0, _), (1, _), (2, _), (7, _), (8, _)] (by omega) ⟨rfl, rfl, rfl, rfl, rfl, trivial⟩ ⟨s3, i2, _, _, rfl, by omega, by omega, by omega, by omega, rfl, hR, K, ?_⟩
        rw [← he, pi_go (i2 := i2) hei.symm (by omega) (by omega) hd4, if_pos (show b - i2 ≥ 2 by omega), ← he5, sup_stop hif (by omega)]
      -- no
      skip
      refine tr_skip ?_
      refine q_thn ?_
      refine tr_reg ?_
      refine rM rfl rfl <| rM rfl rfl <| rM rfl rfl <| rs_v (v_sub rfl rfl (by omega) (by omega)) rfl ?_
      refine rs_w (w_mcall (vs := [_, _]) (M.swap' hR (i := j5) (j := j5 - 1) (by omega) (by omega) (by first | rfl | omega) (by first | rfl | omega)) rfl ⟨rfl, rfl, trivial⟩) rfl ?_
      rintro _ h12 ⟨rfl, hR, K12⟩
      have K := K.trans K12
      refine rs_nil ?_
      refine q_blk_n ?_
      refine q_thn ?_
      refine tr_reg ?_
      refine rM rfl rfl <| rs_v (v_add rfl rfl (by omega) (by omega)) rfl ?_
      refine rA rfl rfl ?_
      refine rs_nil ?_
      refine q_lp (b - (j5 + 1)) [(0, _), (1, _), (2, _), (7, _), (8, _), (10, _)] (by omega) ⟨rfl, rfl, rfl, rfl, rfl, rfl, trivial⟩ ⟨j5 + 1, _, by omega, by omega, rfl, rfl, hR, K, ?_⟩
      rw [← he5, sup_go hif (by omega)]
    -- no
    simp only [dT, dF] at hif
    refine tr_skip <| q_blk_n ?_
    refine q_thn ?_
    refine tr_reg ?_
    refine rM rfl rfl <| rs_v (v_add rfl rfl (by omega) (by omega)) rfl ?_
    refine rA rfl rfl ?_
    refine rs_nil ?_
    refine q_lp s3 [(0, _), (1, _), (2, _), (7, _), (8, _)] (by omega) ⟨rfl, rfl, rfl, rfl, rfl, trivial⟩ ⟨s3, i2, _, _, rfl, by omega, by omega, by omega, by omega, rfl, hR, K, ?_⟩
    rw [← he, pi_go (i2 := i2) hei.symm (by omega) (by omega) hd4, if_neg (show ¬ b - i2 ≥ 2 by omega)]
  -- yes
  have hlt := ssC_lt hif
  refine tr_skip ?_
  refine q_thn ?_
  refine tr_block ?_
  refine tr_reg ?_
  refine rM rfl rfl <| rs_v (v_add rfl rfl (by omega) (by omega)) rfl ?_
  refine rA rfl rfl ?_
  refine rs_nil ?_
  refine q_blk_n ?_
  refine q_lp (b - (i2 + 1)) [(0, _), (1, _), (2, _), (7, _), (8, _)] (by omega) ⟨rfl, rfl, rfl, rfl, rfl, trivial⟩ ⟨i2 + 1, by omega, by omega, rfl, rfl, hR, K, ?_⟩
  rw [← hei, ss_go hif]
theorem c_choosePivot {α : Type} [Inhabited α] {χ : Chi} {T : TypeId} {rv : Value} {n : Nat} {lt : α → α → Bool} {blk : Nat} {F : Nat → Prop} {R : Array α → Heap → Prop} (M : SortM χ T rv n lt blk F R) {d : Array α} {h : Heap} {a b : Nat} (hR : R d h) (hab : a + 12 < b) (hb : b ≤ n) :
    Cl Tryz.prog χ 138 #[.iface T rv, .int .i64 (a : Int), .int .i64 (b : Int)] h (fun r h' => r = .tuple #[.int .i64 (((choosePivot lt d a b).1 : Nat) : Int), .int .i64 ((hintN (choosePivot lt d a b).2 : Nat) : Int)] ∧ R d h' ∧ Keep [blk] h h' ∧ (choosePivot lt d a b).1 < n) := by
  have hn := M.small
  have hcF : ¬ F h.size := fun hf => Nat.lt_irrefl _ (M.low hR _ hf)
  have hbc : h.size ≠ blk := fun e => hcF (by rw [e]; exact M.fb)
  have gl : decide ((b : Int) - (a : Int) ≥ 8) = true := decide_eq_true (by omega)
  have m1 := madj_lt (lt := lt) (d := d) (a := (a + (b - a) / 4 * 1)) (m := n) (s := 0) (by omega) (by omega)
  have m2 := madj_lt (lt := lt) (d := d) (a := (a + (b - a) / 4 * 2)) (m := n) (s := (medianAdjacent lt d (a + (b - a) / 4 * 1) 0).2) (by omega) (by omega)
  have m3 := madj_lt (lt := lt) (d := d) (a := (a + (b - a) / 4 * 3)) (m := n) (s := (medianAdjacent lt d (a + (b - a) / 4 * 2) (medianAdjacent lt d (a + (b - a) / 4 * 1) 0).2).2) (by omega) (by omega)
  refine cl_intro Tryz.func138 rfl rfl rfl ?_
  have K : Keep [blk] h h := Keep.refl _ _
  refine rG <| rA rfl rfl <| rA rfl rfl <| rN <| rG <| rM rfl rfl <| rM rfl rfl <| rs_v (v_sub rfl rfl (by omega) (by omega)) rfl ?_
  refine rA rfl rfl <| rN <| rG <| rs_w (w_new zero_int) rfl ?_
  rintro _ h1 ⟨rfl, B1, K1, Z1⟩
  have S1 := K.1; have K := K.new0 K1
  refine rN <| rG <| rM rfl rfl <| rM rfl rfl <| rs_v (v_quoN (a := b - a) (b := 4) rfl rfl (by omega) (by decide) (by omega)) rfl ?_
  refine rs_v (v_mul rfl rfl (by omega) (by omega)) rfl ?_
  refine rs_v (v_add rfl rfl (by omega) (by omega)) rfl ?_
  refine rA rfl rfl <| rN <| rG <| rM rfl rfl <| rM rfl rfl <| rs_v (v_quoN (a := b - a) (b := 4) rfl rfl (by omega) (by decide) (by omega)) rfl ?_
  refine rs_v (v_mul rfl rfl (by omega) (by omega)) rfl ?_
  refine rs_v (v_add rfl rfl (by omega) (by omega)) rfl ?_
  refine rA rfl rfl <| rN <| rG <| rM rfl rfl <| rM rfl rfl <| rs_v (v_quoN (a := b - a) (b := 4) rfl rfl (by omega) (by decide) (by omega)) rfl ?_
  refine rs_v (v_mul rfl rfl (by omega) (by omega)) rfl ?_
  refine rs_v (v_add rfl rfl (by omega) (by omega)) rfl ?_
  refine rA rfl rfl <| rN ?_
  refine tr_seq ?_
  refine rG <| rM rfl rfl <| rs_v (v_ge rfl rfl) rfl ?_
  refine rN <| tr_if_t (lkb gl) ?_
  refine tr_cut (fun E h' => ∃ i1 j1 k1 s1 : Nat, E = [(0, .iface T rv), (9, .pointer (some ⟨h.size, 0, none⟩)), (10, .int .i64 (i1 : Int)), (11, .int .i64 (j1 : Int)), (12, .int .i64 (k1 : Int))] ∧ (if b - a ≥ 50 then ((medianAdjacent lt d (a + (b - a) / 4 * 1) 0).1, (medianAdjacent lt d (a + (b - a) / 4 * 2) (medianAdjacent lt d (a + (b - a) / 4 * 1) 0).2).1, (medianAdjacent lt d (a + (b - a) / 4 * 3) (medianAdjacent lt d (a + (b - a) / 4 * 2) (medianAdjacent lt d (a + (b - a) / 4 * 1) 0).2).2).1, (medianAdjacent lt d (a + (b - a) / 4 * 3) (medianAdjacent lt d (a + (b - a) / 4 * 2) (medianAdjacent lt d (a + (b - a) / 4 * 1) 0).2).2).2) else ((a + (b - a) / 4 * 1), (a + (b - a) / 4 * 2), (a + (b - a) / 4 * 3), 0)) = (i1, j1, k1, s1) ∧ i1 < n ∧ j1 < n ∧ k1 < n ∧ s1 ≤ 9 ∧ Blk h' h.size [.int .i64 (s1 : Int)] 3 ∧ R d h' ∧ Keep [blk] h h') ?_ ?_
  ·
    refine rG <| rM rfl rfl <| rs_v (v_ge rfl rfl) rfl ?_
    refine rN ?_
    refine tr_if rfl (fun hif => ?_) (fun hif => ?_)
    · -- yes
      simp only [dT, dF] at hif
      refine rG <| rM rfl rfl <| rM rfl rfl <| rs_w (w_call (vs := [_, _, _]) ok_sort_medianAdjacent rfl ⟨rfl, rfl, rfl, trivial⟩ (c_medianAdjacent M (a := (a + (b - a) / 4 * 1)) (s := 0) (M.keep hR K1 (by simp)) (by omega) (by omega) B1 hcF (by omega))) rfl ?_
      rintro _ h2 ⟨rfl, hR, Bs, K2⟩
      have K := K.newX K2 (by simp)
      refine rA rfl rfl <| rN <| rG <| rM rfl rfl <| rM rfl rfl <| rs_w (w_call (vs := [_, _, _]) ok_sort_medianAdjacent rfl ⟨rfl, rfl, rfl, trivial⟩ (c_medianAdjacent M (a := (a + (b - a) / 4 * 2)) (s := (medianAdjacent lt d (a + (b - a) / 4 * 1) 0).2) hR (by omega) (by omega) Bs hcF (by omega))) rfl ?_
      rintro _ h3 ⟨rfl, hR, Bs, K3⟩
      have K := K.newX K3 (by simp)
      refine rA rfl rfl <| rN ?_
      refine tr_reg ?_
      refine rM rfl rfl <| rM rfl rfl <| rs_w (w_call (vs := [_, _, _]) ok_sort_medianAdjacent rfl ⟨rfl, rfl, rfl, trivial⟩ (c_medianAdjacent M (a := (a + (b - a) / 4 * 3)) (s := (medianAdjacent lt d (a + (b - a) / 4 * 2) (medianAdjacent lt d (a + (b - a) / 4 * 1) 0).2).2) hR (by omega) (by omega) Bs hcF (by omega))) rfl ?_
      rintro _ h4 ⟨rfl, hR, Bs, K4⟩
      have K := K.newX K4 (by simp)
      refine rA rfl rfl ?_
      refine rs_nil ?_
      exact q_cut [(0, _), (9, _), (10, _), (11, _), (12, _)] ⟨rfl, rfl, rfl, rfl, rfl, trivial⟩ ⟨_, _, _, _, rfl, by rw [if_pos (by omega)], m1.1, m2.1, m3.1, by omega, Bs, hR, K⟩
    -- no
    simp only [dT, dF] at hif
    refine tr_skip ?_
    exact q_cut [(0, _), (9, _), (10, _), (11, _), (12, _)] ⟨rfl, rfl, rfl, rfl, rfl, trivial⟩ ⟨(a + (b - a) / 4 * 1), (a + (b - a) / 4 * 2), (a + (b - a) / 4 * 3), 0, rfl, by rw [if_neg (by omega)], by omega, by omega, by omega, by omega, B1, M.keep hR K1 (by simp), K⟩
  rintro E h98 ⟨i1, j1, k1, s1, rfl, htr, hi1, hj1, hk1, hs1, Bs, hR, K⟩
  refine tr_reg ?_
  refine rM rfl rfl <| rM rfl rfl <| rM rfl rfl <| rM rfl rfl <| rs_w (w_call (vs := [_, _, _, _, _]) ok_sort_median rfl ⟨rfl, rfl, rfl, rfl, rfl, trivial⟩ (c_median M hR hi1 hj1 hk1 Bs hcF (by omega))) rfl ?_
  rintro _ h6 ⟨rfl, hR, Bs, K6⟩
  have K := K.newX K6 (by simp)
  refine rA rfl rfl <| rN <| rG <| rs_v (v_load one_int rfl (by exact Bs.cell _ rfl)) rfl ?_
  refine rN <| tr_block <| rG <| rs_v (v_eq rfl rfl) rfl ?_
  refine rA rfl rfl <| rN ?_
  refine tr_if rfl (fun hif => ?_) (fun hif => ?_)
  · -- yes
    simp only [dT, dF] at hif
    refine rG <| rM rfl rfl <| rA rfl rfl <| rA rfl rfl <| rN <| tr_ret <| q_blk_ret <| q_ret (res_tmp2 rfl rfl rfl) ?_
    have hml := median_lt (lt := lt) (d := d) (s := s1) hi1 hj1 hk1
    rw [cp_eq (by omega) htr]
    refine ⟨?_, hR, K, hml.1⟩
    rw [if_pos (by omega)]; rfl
  -- no
  simp only [dT, dF] at hif
  refine rG <| rs_v (v_eq rfl rfl) rfl ?_
  refine rA rfl rfl <| rN ?_
  refine tr_if rfl (fun hif => ?_) (fun hif => ?_)
  · -- yes
    simp only [dT, dF] at hif
    refine rG <| rM rfl rfl <| rA rfl rfl <| rA rfl rfl <| rN <| tr_ret <| q_blk_ret <| q_ret (res_tmp2 rfl rfl rfl) ?_
    have hml := median_lt (lt := lt) (d := d) (s := s1) hi1 hj1 hk1
    rw [cp_eq (by omega) htr]
    refine ⟨?_, hR, K, hml.1⟩
    rw [if_neg (by omega), if_pos (by omega)]; rfl
  -- no
  simp only [dT, dF] at hif
  refine rG <| rM rfl rfl <| rA rfl rfl <| rA rfl rfl <| rN <| tr_ret <| q_blk_ret <| q_ret (res_tmp2 rfl rfl rfl) ?_
  have hml := median_lt (lt := lt) (d := d) (s := s1) hi1 hj1 hk1
  rw [cp_eq (by omega) htr]
  refine ⟨?_, hR, K, hml.1⟩
  rw [if_neg (by omega), if_neg (by omega)]; rfl
end Go.Proofs.YtmckkklhonfmcaaGreat
namespace Go.Tess
open Go.RowKit
section
variable {P : Program} {χ : Chi} {ρ : Operand → Option Value} {h : Heap} {dst : Option Tmp} {ty : TypeId} {pos : String} {after : Array Edge} {guard : Option (Nat × Bool)} {x y : Operand} {t t2 : TypeId}
theorem v_shlN {k2 : IntKind} {xi yi : Int} {a k m : Nat} (hx : ρ x = some (.int .u64 xi)) (hy : ρ y = some (.int k2 yi)) (e1 : xi = (a : Int)) (e2 : yi = (k : Int)) (hk : k ≤ 64) (hm : 2 ^ k = m) :
    OpV P χ ⟨dst, .binOp .shl t x y t2, ty, pos, after, guard⟩ ρ h (.int .u64 ((a * m % 18446744073709551616 : Nat) : Int)) :=
  v_bin hx hy fun w => by
    subst e1; subst e2
    have h0 : ¬ (k : Int) < 0 := by omega
    have e3 : ((2 : Int) ^ k) = (m : Int) := by rw [← hm]; push_cast; rfl
    simp [eqGuard, binOp, Op.shift, IntKind.bits, Nat.min_eq_left hk, e3, IntKind.wrap_u64]
theorem v_shrN {k2 : IntKind} {xi yi : Int} {a k m : Nat} (hx : ρ x = some (.int .u64 xi)) (hy : ρ y = some (.int k2 yi)) (e1 : xi = (a : Int)) (e2 : yi = (k : Int)) (hk : k ≤ 64) (hm : 2 ^ k = m) :
    OpV P χ ⟨dst, .binOp .shr t x y t2, ty, pos, after, guard⟩ ρ h (.int .u64 ((a / m : Nat) : Int)) :=
  v_bin hx hy fun w => by
    subst e1; subst e2
    have e3 : ((2 : Int) ^ k) = (m : Int) := by rw [← hm]; push_cast; rfl
    simp [eqGuard, binOp, Op.shift, IntKind.bits, Nat.min_eq_left hk, e3]
    first | done | rw [Int.fdiv_eq_ediv_of_nonneg _ (Int.natCast_nonneg _)]
theorem v_xorN {a b : Nat} (hx : ρ x = some (.int .u64 (a : Int))) (hy : ρ y = some (.int .u64 (b : Int))) (ha : a < 18446744073709551616) (hb : b < 18446744073709551616) :
    OpV P χ ⟨dst, .binOp .xor t x y t2, ty, pos, after, guard⟩ ρ h (.int .u64 ((a ^^^ b : Nat) : Int)) :=
  v_bin hx hy fun w => by
    rw [← bits_xor_u64_nat a b ha hb]
    simp [eqGuard, binOp, Op.intBits, bits]
theorem v_andN {a b : Nat} (hx : ρ x = some (.int .u64 (a : Int))) (hy : ρ y = some (.int .u64 (b : Int))) (ha : a < 18446744073709551616) (hb : b < 18446744073709551616) :
    OpV P χ ⟨dst, .binOp .and t x y t2, ty, pos, after, guard⟩ ρ h (.int .u64 ((a &&& b : Nat) : Int)) :=
  v_bin hx hy fun w => by
    rw [← bits_and_u64_nat a b ha hb]
    simp [eqGuard, binOp, Op.intBits, bits]
theorem v_andE {a b r : Nat} (hx : ρ x = some (.int .u64 (a : Int))) (hy : ρ y = some (.int .u64 (b : Int))) (ha : a < 18446744073709551616) (hb : b < 18446744073709551616) (hr : a &&& b = r) :
    OpV P χ ⟨dst, .binOp .and t x y t2, ty, pos, after, guard⟩ ρ h (.int .u64 (r : Int)) := hr ▸ v_andN hx hy ha hb
theorem v_subU {a b : Nat} (hx : ρ x = some (.int .u64 (a : Int))) (hy : ρ y = some (.int .u64 (b : Int))) (hb : b ≤ a) (ha : a < 18446744073709551616) :
    OpV P χ ⟨dst, .binOp .sub t x y t2, ty, pos, after, guard⟩ ρ h (.int .u64 ((a - b : Nat) : Int)) :=
  v_bin hx hy fun w => by
    have e : ((a : Int) - (b : Int)) % 18446744073709551616 = ((a - b : Nat) : Int) := by omega
    simp [eqGuard, binOp, Op.intArith, IntKind.wrap_u64, e]
theorem v_conv_u8 {d : TypeDesc} {k : IntKind} {i : Int} (h1 : P.underlying t = some d) (h2 : P.underlying t2 = some (.int .u8)) (hx : ρ x = some (.int k i)) (h0 : 0 ≤ i) (hi : i ≤ 255) :
    OpV P χ ⟨dst, .convert t t2 x, ty, pos, after, guard⟩ ρ h (.int .u8 i) := by
  intro r d hr
  have e1 := hr x (by simp [Op.operands]) _ hx
  simp [execOp, e1, convert, run_underlying h1, run_underlying h2, Conv.intToInt, IntWalk.u8_in _ ⟨h0, hi⟩]
end
end Go.Tess
namespace Go.Proofs.YtmckkklhonfmcaaGreat
open Go.Tess Go.RowKit
open Go.Sort (swp order2 median medianAdjacent insInner insOuter insertionSort siftDown heapBuild heapPop heapSort scanUp scanDown partLoop partition partEqLoop partitionEqual scanSorted shiftDown shiftUp partialIns partialInsertionSort choosePivot reverseLoop reverseRange xorNext xorNextN bitsLen breakStep breakPatterns pdq Hint)
set_option maxRecDepth 100000
set_option maxHeartbeats 1000000
theorem bitsLen_eq (x : Nat) (h : x < 2 ^ 64) : Lib.bitLen x = bitsLen x := by
  induction x using Nat.strongRecOn with
  | _ x ih =>
    by_cases h0 : x = 0
    · subst h0; rfl
    · rw [Lib.bitLen_half x h0 h, ih (x / 2) (by omega) (by omega)]
      unfold bitsLen
      rw [if_neg h0, Nat.log2_def x]
      by_cases h2 : 2 ≤ x
      · rw [if_pos h2, if_neg (by omega)]; omega
      · obtain rfl : x = 1 := by omega
        simp
def lenTab : ByteArray := ByteArray.mk (List.toArray (List.append (List.append [0, 1, 2, 2, 3, 3, 3, 3, 4, 4, 4, 4, 4, 4, 4, 4, 5, 5, 5, 5, 5, 5, 5, 5, 5, 5, 5, 5, 5, 5, 5, 5, 6, 6, 6, 6, 6, 6, 6, 6, 6, 6, 6, 6, 6, 6, 6, 6, 6, 6, 6, 6, 6, 6, 6, 6, 6, 6, 6, 6, 6, 6, 6, 6] [7, 7, 7, 7, 7, 7, 7, 7, 7, 7, 7, 7, 7, 7, 7, 7, 7, 7, 7, 7, 7, 7, 7, 7, 7, 7, 7, 7, 7, 7, 7, 7, 7, 7, 7, 7, 7, 7, 7, 7, 7, 7, 7, 7, 7, 7, 7, 7, 7, 7, 7, 7, 7, 7, 7, 7, 7, 7, 7, 7, 7, 7, 7, 7]) (List.append [8, 8, 8, 8, 8, 8, 8, 8, 8, 8, 8, 8, 8, 8, 8, 8, 8, 8, 8, 8, 8, 8, 8, 8, 8, 8, 8, 8, 8, 8, 8, 8, 8, 8, 8, 8, 8, 8, 8, 8, 8, 8, 8, 8, 8, 8, 8, 8, 8, 8, 8, 8, 8, 8, 8, 8, 8, 8, 8, 8, 8, 8, 8, 8] [8, 8, 8, 8, 8, 8, 8, 8, 8, 8, 8, 8, 8, 8, 8, 8, 8, 8, 8, 8, 8, 8, 8, 8, 8, 8, 8, 8, 8, 8, 8, 8, 8, 8, 8, 8, 8, 8, 8, 8, 8, 8, 8, 8, 8, 8, 8, 8, 8, 8, 8, 8, 8, 8, 8, 8, 8, 8, 8, 8, 8, 8, 8, 8])))
theorem lenTab_at : ∀ n : Fin 256, (lenTab.data.toList[n.val]?).map UInt8.toNat = some (Lib.bitLen n.val) := by decide +kernel
theorem lenTab_get {n : Nat} (h : n < 256) : ∃ c : UInt8, lenTab.data.toList[n]? = some c ∧ c.toNat = bitsLen n := by
  have e := lenTab_at ⟨n, h⟩
  rw [bitsLen_eq n (by omega)] at e
  cases hc : lenTab.data.toList[n]? with
  | none => rw [show lenTab.data.toList[(⟨n, h⟩ : Fin 256).val]? = none from hc] at e; simp at e
  | some c => rw [show lenTab.data.toList[(⟨n, h⟩ : Fin 256).val]? = some c from hc] at e; exact ⟨c, rfl, by simpa using e⟩
theorem bl16 {x : Nat} (h : 65536 ≤ x) (h2 : x < 1000001) : bitsLen x = 16 + bitsLen (x / 65536) := by
  rw [← bitsLen_eq x (by omega), ← bitsLen_eq (x / 65536) (by omega)]; exact Lib.bitLen_shift16 x h (by omega)
theorem bl8 {x : Nat} (h : 256 ≤ x) (h2 : x < 1000001) : bitsLen x = 8 + bitsLen (x / 256) := by
  rw [← bitsLen_eq x (by omega), ← bitsLen_eq (x / 256) (by omega)]; exact Lib.bitLen_shift8 x h (by omega)
theorem bl_le {x : Nat} (h : x < 1000001) : bitsLen x ≤ 20 := (Go.Sort.bitsLen_le_iff x 20).2 (by omega)
section
variable {α : Type} [Inhabited α]
def bpR (a len md : Nat) : Nat → Nat → UInt64 × Array α → UInt64 × Array α
  | 0, _, st => st
  | k + 1, idx, st => bpR a len md k (idx + 1) (breakStep a len md st idx)
theorem bp_eq {d : Array α} {a b : Nat} (h : b - a ≥ 8) : breakPatterns d a b = (bpR a (b - a) (1 <<< bitsLen (b - a)) 3 (a + (b - a) / 4 * 2 - 1) (UInt64.ofNat (b - a), d)).2 := by
  unfold breakPatterns; rw [if_pos h]; rfl
end
theorem c_xnext {χ : Chi} {h : Heap} {c0 X : Nat} (B0 : Blk h c0 [.int .u64 ((X : Nat) : Int)] 260) (hX : X < 18446744073709551616) :
    Cl Tryz.prog χ 150 #[.pointer (some ⟨c0, 0, none⟩)] h (fun r h' => r = .int .u64 ((xorNextN X : Nat) : Int) ∧ Blk h' c0 [.int .u64 ((xorNextN X : Nat) : Int)] 260 ∧ Keep [c0] h h') := by
  obtain ⟨A, hA⟩ : ∃ A : Nat, A = X ^^^ (X * 8192 % 18446744073709551616) := ⟨_, rfl⟩
  obtain ⟨B, hB⟩ : ∃ B : Nat, B = A ^^^ (A / 128) := ⟨_, rfl⟩
  obtain ⟨C, hC⟩ : ∃ C : Nat, C = B ^^^ (B * 131072 % 18446744073709551616) := ⟨_, rfl⟩
  have lA : A < 18446744073709551616 := by rw [hA]; exact Nat.xor_lt_two_pow (n := 64) (by omega) (by omega)
  have lB : B < 18446744073709551616 := by rw [hB]; exact Nat.xor_lt_two_pow (n := 64) (by omega) (by omega)
  have hv : xorNextN X = C := by unfold xorNextN; simp only []; rw [← hA, ← hB, ← hC]
  rw [hv]
  refine cl_intro Tryz.func150 rfl rfl rfl ?_
  have K : Keep [c0] h h := Keep.refl _ _
  refine rG <| rA rfl rfl <| rN ?_
  refine tr_seq ?_
  refine tr_draw [(true, 8), (false, 2)] _ (by kernel_rfl) (by kernel_rfl) (by kernel_rfl) ?_
  refine rx_any Same same_pre ?_
  refine rq_v (v_move rfl) <| rq_v (v_nilCheck_ptr rfl) <| rq_v (v_load one_sort_xorshift rfl (by exact B0.cell _ rfl)) ?_
  refine rq_v (v_move rfl) <| rq_v (v_nilCheck_ptr rfl) <| rq_v (v_load one_sort_xorshift rfl (by exact B0.cell _ rfl)) ?_
  refine rq_v (v_shlN (k := 13) (m := 8192) rfl rfl rfl rfl (by decide) (by decide)) ?_
  refine rq_v (v_xorN rfl rfl hX (by omega)) ?_
  refine rm_end ?_; intro ha1 Ka1; simp only [endM, hypF, ofE, argE, List.nil_append]
  have Ka1 : h = ha1 := Eq.symm Ka1
  subst Ka1
  refine rx_seq ?_
  refine rC rfl rfl <| rs_w0 (w_put siz_sort_xorshift rfl rfl rfl rfl B0 rfl) ?_
  rintro _ h2 ⟨B0, K2⟩
  rw [← hA] at B0
  have K := K.trans K2
  refine rs_nil ?_
  refine q_con ?_
  refine rx_nil ?_
  refine q_thn ?_
  refine tr_seq ?_
  refine tr_draw [(true, 8), (false, 2)] _ (by kernel_rfl) (by kernel_rfl) (by kernel_rfl) ?_
  refine rx_any Same same_pre ?_
  refine rq_v (v_move rfl) <| rq_v (v_nilCheck_ptr rfl) <| rq_v (v_load one_sort_xorshift rfl (by exact B0.cell _ rfl)) ?_
  refine rq_v (v_move rfl) <| rq_v (v_nilCheck_ptr rfl) <| rq_v (v_load one_sort_xorshift rfl (by exact B0.cell _ rfl)) ?_
  refine rq_v (v_shrN (k := 7) (m := 128) rfl rfl rfl rfl (by decide) (by decide)) ?_
  refine rq_v (v_xorN rfl rfl lA (by omega)) ?_
  refine rm_end ?_; intro ha3 Ka3; simp only [endM, hypF, ofE, argE, List.nil_append]
  have Ka3 : h2 = ha3 := Eq.symm Ka3
  subst Ka3
  refine rx_seq ?_
  refine rC rfl rfl <| rs_w0 (w_put siz_sort_xorshift rfl rfl rfl rfl B0 rfl) ?_
  rintro _ h4 ⟨B0, K4⟩
  rw [← hB] at B0
  have K := K.trans K4
  refine rs_nil ?_
  refine q_con ?_
  refine rx_nil ?_
  refine q_thn ?_
  refine tr_seq ?_
  refine tr_draw [(true, 8), (false, 2)] _ (by kernel_rfl) (by kernel_rfl) (by kernel_rfl) ?_
  refine rx_any Same same_pre ?_
  refine rq_v (v_move rfl) <| rq_v (v_nilCheck_ptr rfl) <| rq_v (v_load one_sort_xorshift rfl (by exact B0.cell _ rfl)) ?_
  refine rq_v (v_move rfl) <| rq_v (v_nilCheck_ptr rfl) <| rq_v (v_load one_sort_xorshift rfl (by exact B0.cell _ rfl)) ?_
  refine rq_v (v_shlN (k := 17) (m := 131072) rfl rfl rfl rfl (by decide) (by decide)) ?_
  refine rq_v (v_xorN rfl rfl lB (by omega)) ?_
  refine rm_end ?_; intro ha5 Ka5; simp only [endM, hypF, ofE, argE, List.nil_append]
  have Ka5 : h4 = ha5 := Eq.symm Ka5
  subst Ka5
  refine rx_seq ?_
  refine rC rfl rfl <| rs_w0 (w_put siz_sort_xorshift rfl rfl rfl rfl B0 rfl) ?_
  rintro _ h6 ⟨B0, K6⟩
  rw [← hC] at B0
  have K := K.trans K6
  refine rs_nil ?_
  refine q_con ?_
  refine rx_nil ?_
  refine q_thn ?_
  refine rG <| rM rfl rfl <| rC rfl rfl <| rs_v (v_load one_sort_xorshift rfl (by exact B0.cell _ rfl)) rfl ?_
  refine rA rfl rfl <| rN <| tr_ret <| q_ret (res_tmp rfl rfl) ?_
  exact ⟨rfl, B0, K⟩
theorem c_len64 {χ : Chi} {h : Heap} {x : Nat} (hx : x < 1000001) :
    Cl Tryz.prog χ 134 #[.int .u64 ((x : Nat) : Int)] h (fun r h' => r = .int .i64 ((bitsLen x : Nat) : Int) ∧ h' = h) := by
  have gf : decide ((4294967296 : Int) ≤ (x : Int)) = false := decide_eq_false (by omega)
  refine cl_intro Tryz.func134 rfl rfl rfl ?_
  have K : Keep [] h h := Keep.refl _ _
  refine rG <| rA rfl rfl <| rN ?_
  refine tr_seq ?_
  refine rG <| rM rfl rfl <| rs_v (v_ge rfl rfl) rfl ?_
  refine rN <| tr_if_f (lkb gf) ?_
  refine tr_skip ?_
  refine q_thn ?_
  refine tr_seq ?_
  refine rG <| rM rfl rfl <| rs_v (v_ge rfl rfl) rfl ?_
  refine rN ?_
  refine tr_if rfl (fun hif => ?_) (fun hif => ?_)
  · -- yes
    simp only [dT, dF] at hif
    have gf2 : decide ((256 : Int) ≤ ((x / 65536 : Nat) : Int)) = false := decide_eq_false (by omega)
    obtain ⟨c, hc, hce⟩ := lenTab_get (n := x / 65536) (by omega)
    have hbx := bl16 (x := x) (by omega) hx
    have hc2 := c.toNat_lt
    refine rG <| rM rfl rfl <| rs_v (v_shrN (k := 16) (m := 65536) rfl rfl rfl rfl (by decide) (by decide)) rfl ?_
    refine rA rfl rfl <| rN ?_
    refine tr_reg ?_
    refine rM rfl rfl <| rs_v (v_add rfl rfl (by omega) (by omega)) rfl ?_
    refine rA rfl rfl <| rN ?_
    refine tr_seq ?_
    refine rG <| rM rfl rfl <| rs_v (v_ge rfl rfl) rfl ?_
    refine rN <| tr_if_f (lkb gf2) ?_
    refine tr_skip ?_
    refine q_thn ?_
    refine rG <| rM rfl rfl <| rM rfl rfl <| rs_v (v_conv_u8 u_uint64 u_uint8 rfl (by omega) (by omega)) rfl ?_
    refine rs_v (v_strIndex u_string rfl rfl (hc)) rfl ?_
    refine rs_v (v_conv_i64 u_uint8 u_int rfl (by omega) (by omega)) rfl ?_
    refine rs_v (v_add rfl rfl (by omega) (by omega)) rfl ?_
    refine rA rfl rfl <| rN <| tr_ret <| q_ret (res_tmp rfl rfl) ?_
    exact ⟨by rw [show (bitsLen x : Int) = 16 + (c.toNat : Int) from by omega]; rfl, rfl⟩
  -- no
  simp only [dT, dF] at hif
  refine tr_skip ?_
  refine q_thn ?_
  refine tr_seq ?_
  refine rG <| rM rfl rfl <| rs_v (v_ge rfl rfl) rfl ?_
  refine rN ?_
  refine tr_if rfl (fun hif => ?_) (fun hif => ?_)
  · -- yes
    simp only [dT, dF] at hif
    obtain ⟨c, hc, hce⟩ := lenTab_get (n := x / 256) (by omega)
    have hbx := bl8 (x := x) (by omega) hx
    have hc2 := c.toNat_lt
    refine rG <| rM rfl rfl <| rs_v (v_shrN (k := 8) (m := 256) rfl rfl rfl rfl (by decide) (by decide)) rfl ?_
    refine rA rfl rfl <| rN ?_
    refine tr_reg ?_
    refine rM rfl rfl <| rs_v (v_add rfl rfl (by omega) (by omega)) rfl ?_
    refine rA rfl rfl <| rN <| rG <| rM rfl rfl <| rM rfl rfl <| rs_v (v_conv_u8 u_uint64 u_uint8 rfl (by omega) (by omega)) rfl ?_
    refine rs_v (v_strIndex u_string rfl rfl (hc)) rfl ?_
    refine rs_v (v_conv_i64 u_uint8 u_int rfl (by omega) (by omega)) rfl ?_
    refine rs_v (v_add rfl rfl (by omega) (by omega)) rfl ?_
    refine rA rfl rfl <| rN <| tr_ret <| q_ret (res_tmp rfl rfl) ?_
    exact ⟨by rw [show (bitsLen x : Int) = 8 + (c.toNat : Int) from by omega]; rfl, rfl⟩
  -- no
  simp only [dT, dF] at hif
  obtain ⟨c, hc, hce⟩ := lenTab_get (n := x) (by omega)
  have hc2 := c.toNat_lt
  refine tr_skip ?_
  refine q_thn ?_
  refine rG <| rM rfl rfl <| rM rfl rfl <| rs_v (v_conv_u8 u_uint64 u_uint8 rfl (by omega) (by omega)) rfl ?_
  refine rs_v (v_strIndex u_string rfl rfl (hc)) rfl ?_
  refine rs_v (v_conv_i64 u_uint8 u_int rfl (by omega) (by omega)) rfl ?_
  refine rs_v (v_add rfl rfl (by omega) (by omega)) rfl ?_
  refine rA rfl rfl <| rN <| tr_ret <| q_ret (res_tmp rfl rfl) ?_
  exact ⟨by rw [show (bitsLen x : Int) = 0 + (c.toNat : Int) from by omega], rfl⟩
theorem c_len {χ : Chi} {h : Heap} {x : Nat} (hx : x < 1000001) :
    Cl Tryz.prog χ 122 #[.int .u64 ((x : Nat) : Int)] h (fun r h' => r = .int .i64 ((bitsLen x : Nat) : Int) ∧ h' = h) := by
  refine cl_intro Tryz.func122 rfl rfl rfl ?_
  have K : Keep [] h h := Keep.refl _ _
  refine rG <| rA rfl rfl <| rN ?_
  refine tr_seq ?_
  refine tr_if_f rfl ?_
  refine tr_skip ?_
  refine q_thn ?_
  refine rG <| rM rfl rfl <| rs_w (w_call (vs := [_]) ok_math_bits_Len64 rfl ⟨rfl, trivial⟩ (c_len64 hx)) rfl ?_
  rintro _ h1 ⟨rfl, hsame⟩; have hsame := hsame.symm; subst hsame
  refine rA rfl rfl <| rN <| tr_ret <| q_ret (res_tmp rfl rfl) ?_
  exact ⟨rfl, rfl⟩
theorem c_np2 {χ : Chi} {h : Heap} {x : Nat} (hx : x < 1000001) :
    Cl Tryz.prog χ 149 #[.int .i64 (x : Int)] h (fun r h' => r = .int .u64 ((1 <<< bitsLen x : Nat) : Int) ∧ h' = h) := by
  have hb := bl_le hx
  refine cl_intro Tryz.func149 rfl rfl rfl ?_
  have K : Keep [] h h := Keep.refl _ _
  refine rG <| rA rfl rfl <| rN <| rG <| rM rfl rfl <| rs_v (v_conv_u64 u_int u_uint rfl (by omega) (by omega)) rfl ?_
  refine rs_w (w_call (vs := [_]) ok_math_bits_Len rfl ⟨rfl, trivial⟩ (c_len hx)) rfl ?_
  rintro _ h1 ⟨rfl, hsame⟩; have hsame := hsame.symm; subst hsame
  refine rs_v (v_conv_u64 u_int u_uint rfl (by omega) (by omega)) rfl ?_
  refine rA rfl rfl <| rN <| rG <| rM rfl rfl <| rs_v (v_shlN (a := 1) (k := bitsLen x) rfl rfl rfl rfl (by omega) rfl) rfl ?_
  refine rA rfl rfl <| rN <| tr_ret <| q_ret (res_tmp rfl rfl) ?_
  refine ⟨?_, rfl⟩
  have hp : 2 ^ bitsLen x ≤ 2 ^ 20 := Nat.pow_le_pow_right (by decide) hb
  rw [Nat.one_shiftLeft, Nat.one_mul, Nat.mod_eq_of_lt (by omega)]
theorem c_breakPatterns {α : Type} [Inhabited α] {χ : Chi} {T : TypeId} {rv : Value} {n : Nat} {lt : α → α → Bool} {blk : Nat} {F : Nat → Prop} {R : Array α → Heap → Prop} (M : SortM χ T rv n lt blk F R) {d : Array α} {h : Heap} {a b : Nat} (hR : R d h) (hab : a + 12 < b) (hb : b ≤ n) :
    Cl Tryz.prog χ 137 #[.iface T rv, .int .i64 (a : Int), .int .i64 (b : Int)] h (fun r h' => r = .tuple #[] ∧ R (breakPatterns d a b) h' ∧ Keep [blk] h h') := by
  have hn := M.small
  have hcF : ¬ F h.size := fun hf => Nat.lt_irrefl _ (M.low hR _ hf)
  have hbc : h.size ≠ blk := fun e => hcF (by rw [e]; exact M.fb)
  have gl : decide ((8 : Int) ≤ (b : Int) - (a : Int)) = true := decide_eq_true (by omega)
  have hun : (UInt64.ofNat (b - a)).toNat = b - a := by simp; omega
  obtain ⟨md, hmd⟩ : ∃ md, md = 1 <<< bitsLen (b - a) := ⟨_, rfl⟩
  have hmd2 : md ≤ 2 * (b - a) := by rw [hmd, Nat.one_shiftLeft]; exact Go.Sort.two_pow_bitsLen_le (by omega)
  have hmd1 : 1 ≤ md := by rw [hmd, Nat.one_shiftLeft]; exact Nat.two_pow_pos _
  rw [bp_eq (by omega), ← hmd]
  refine cl_intro Tryz.func137 rfl rfl rfl ?_
  have K : Keep [blk] h h := Keep.refl _ _
  refine rG <| rM rfl rfl <| rM rfl rfl <| rs_v (v_sub rfl rfl (by omega) (by omega)) rfl ?_
  refine rA rfl rfl <| rN <| rG <| rM rfl rfl <| rs_v (v_ge rfl rfl) rfl ?_
  refine rN <| tr_if_t (lkb gl) ?_
  refine rG <| rM rfl rfl <| rs_v (v_conv_u64 u_int u_sort_xorshift rfl (by omega) (by omega)) rfl ?_
  refine rs_w (w_new zero_sort_xorshift) rfl ?_
  rintro _ h1 ⟨rfl, B1, K1, Z1⟩
  have S1 := K.1; have K := K.new0 K1
  refine rs_w0 (w_put siz_sort_xorshift rfl rfl rfl rfl B1 rfl) ?_
  rintro _ h2 ⟨B1, K2⟩
  have K := K.newX K2 (by simp)
  have hR := M.keep (M.keep hR K1 (by simp)) K2 (by simpa using hcF)
  refine rN <| rG <| rM rfl rfl <| rs_w (w_call (vs := [_]) ok_sort_nextPowerOfTwo rfl ⟨rfl, trivial⟩ (by rw [show ((b : Int) - (a : Int)) = ((b - a : Nat) : Int) from by omega]; exact c_np2 (by omega))) rfl ?_
  rintro _ h3 ⟨rfl, rfl⟩
  refine rA rfl rfl <| rN <| rG <| rM rfl rfl <| rM rfl rfl <| rs_v (v_quoN (a := b - a) (b := 4) rfl rfl (by omega) (by decide) (by omega)) rfl ?_
  refine rs_v (v_mul rfl rfl (by omega) (by omega)) rfl ?_
  refine rs_v (v_add rfl rfl (by omega) (by omega)) rfl ?_
  refine rs_v (v_sub rfl rfl (by omega) (by omega)) rfl ?_
  refine rA rfl rfl <| rN <| tr_block ?_
  refine tr_loop (fun m E h' => ∃ k st idx, k = m ∧ k ≤ 3 ∧ idx + k = a + (b - a) / 4 * 2 + 2 ∧ E = [(0, .iface T rv), (1, .int .i64 (a : Int)), (6, .int .i64 ((b - a : Nat) : Int)), (7, .pointer (some ⟨h.size, 0, none⟩)), (8, .int .u64 ((md : Nat) : Int)), (9, .int .i64 (idx : Int))] ∧ R st.2 h' ∧ Blk h' h.size [.int .u64 (((st.1).toNat : Nat) : Int)] 260 ∧ Keep [blk] h h' ∧ (bpR a (b - a) md k idx st).2 = (bpR a (b - a) md 3 (a + (b - a) / 4 * 2 - 1) (UInt64.ofNat (b - a), d)).2) 3 [(0, _), (1, _), (6, _), (7, _), (8, _), (9, _)] ⟨rfl, rfl, rfl, rfl, rfl, rfl, trivial⟩ ⟨3, (UInt64.ofNat (b - a), d), a + (b - a) / 4 * 2 - 1, rfl, Nat.le_refl _, by omega, by rw [show ((b : Int) - (a : Int)) = ((b - a : Nat) : Int) from by omega, ← hmd, show ((a : Int) + (((b - a) / 4 : Nat) : Int) * 2 - 1) = ((a + (b - a) / 4 * 2 - 1 : Nat) : Int) from by omega], hR, by rw [show (((UInt64.ofNat (b - a)).toNat : Nat) : Int) = (b : Int) - (a : Int) from by rw [hun]; omega]; exact B1, K, rfl⟩ ?_
  rintro m E hL4 ⟨k, st, idx, rfl, hk3, hidx, rfl, hR, B1, K, he⟩
  refine tr_seq ?_
  refine rG <| rM rfl rfl <| rM rfl rfl <| rM rfl rfl <| rs_v (v_quoN (a := b - a) (b := 4) rfl rfl (by omega) (by decide) (by omega)) rfl ?_
  refine rs_v (v_mul rfl rfl (by omega) (by omega)) rfl ?_
  refine rs_v (v_add rfl rfl (by omega) (by omega)) rfl ?_
  refine rs_v (v_add rfl rfl (by omega) (by omega)) rfl ?_
  refine rs_v (v_le rfl rfl) rfl ?_
  refine rN ?_
  refine tr_ifn rfl (fun hif => ?_) (fun hif => ?_)
  · -- no
    simp only [dT, dF] at hif
    refine tr_exit <| q_thn_exit ?_
    refine q_lp_exit ?_
    refine q_blk_hit ?_
    refine q_end (res_none rfl) ?_
    refine ⟨rfl, ?_, K⟩
    rw [← he, show k = 0 from by omega]; exact hR
  -- yes
  simp only [dT, dF] at hif
  obtain ⟨k3, rfl⟩ : ∃ k3, k = k3 + 1 := ⟨k - 1, by omega⟩
  obtain ⟨xo, hxo⟩ : ∃ xo, (xorNext st.1).toNat &&& (md - 1) = xo := ⟨_, rfl⟩
  have hxl : xo ≤ md - 1 := by rw [← hxo]; exact Nat.and_le_right
  refine tr_skip ?_
  refine q_thn ?_
  refine tr_seq ?_
  refine tr_block <| rG <| rs_w (w_call (vs := [_]) ok_sort_xorshift_Next rfl ⟨rfl, trivial⟩ (c_xnext B1 (st.1.toNat_lt))) rfl ?_
  rintro r h5 ⟨hr, B1, K5⟩
  rw [← Go.Sort.xorNext_toNat] at hr B1
  subst hr
  have K := K.newX K5 (by simp)
  have hR := M.keep hR K5 (by simpa using hcF)
  refine rM rfl rfl <| rs_v (v_subU (b := 1) rfl rfl hmd1 (by omega)) rfl ?_
  refine rs_v (v_andE rfl rfl (UInt64.toNat_lt _) (by omega) hxo) rfl ?_
  refine rs_v (v_conv_i64 u_uint u_int rfl (by omega) (by omega)) rfl ?_
  refine rA rfl rfl <| rN ?_
  refine tr_cut (fun E h' => ∃ ot : Nat, ot = (if xo ≥ b - a then xo - (b - a) else xo) ∧ ot < b - a ∧ R st.2 h' ∧ Blk h' h.size [.int .u64 (((xorNext st.1).toNat : Nat) : Int)] 260 ∧ Keep [blk] h h' ∧ E = [(0, .iface T rv), (1, .int .i64 (a : Int)), (6, .int .i64 ((b - a : Nat) : Int)), (7, .pointer (some ⟨h.size, 0, none⟩)), (8, .int .u64 ((md : Nat) : Int)), (9, .int .i64 (idx : Int)), (10, .int .i64 (ot : Int))]) ?_ ?_
  ·
    refine rG <| rM rfl rfl <| rM rfl rfl <| rs_v (v_ge rfl rfl) rfl ?_
    refine rN ?_
    refine tr_if rfl (fun hif => ?_) (fun hif => ?_)
    · -- yes
      simp only [dT, dF] at hif
      refine tr_reg ?_
      refine rM rfl rfl <| rM rfl rfl <| rs_v (v_sub rfl rfl (by omega) (by omega)) rfl ?_
      refine rA rfl rfl ?_
      refine rs_nil ?_
      exact q_cut [(0, _), (1, _), (6, _), (7, _), (8, _), (9, _), (10, _)] ⟨rfl, rfl, rfl, rfl, rfl, rfl, rfl, trivial⟩ ⟨xo - (b - a), by rw [if_pos (by omega)], by omega, hR, B1, K, by rw [show ((xo : Nat) : Int) - ((b - a : Nat) : Int) = ((xo - (b - a) : Nat) : Int) from by omega]⟩
    -- no
    simp only [dT, dF] at hif
    refine tr_skip ?_
    exact q_cut [(0, _), (1, _), (6, _), (7, _), (8, _), (9, _), (10, _)] ⟨rfl, rfl, rfl, rfl, rfl, rfl, rfl, trivial⟩ ⟨xo, by rw [if_neg (by omega)], by omega, hR, B1, K, rfl⟩
  rintro E h97 ⟨ot, hot, hotl, hR, B1, K, rfl⟩
  refine tr_reg ?_
  refine rM rfl rfl <| rM rfl rfl <| rM rfl rfl <| rM rfl rfl <| rs_v (v_add rfl rfl (by omega) (by omega)) rfl ?_
  refine rs_w (w_mcall (vs := [_, _]) (M.swap' hR (i := idx) (j := a + ot) (by omega) (by omega) (by first | rfl | omega) (by first | rfl | omega)) rfl ⟨rfl, rfl, trivial⟩) rfl ?_
  rintro _ h7 ⟨rfl, hR, K7⟩
  have K := K.trans K7
  have B1 := K7.blk (by simpa using hbc) B1
  refine rs_nil ?_
  refine q_blk_n ?_
  refine q_thn ?_
  refine tr_reg ?_
  refine rM rfl rfl <| rs_v (v_add rfl rfl (by omega) (by omega)) rfl ?_
  refine rA rfl rfl ?_
  refine rs_nil ?_
  have hbs : breakStep a (b - a) md st idx = (xorNext st.1, swp st.2 idx (a + ot)) := by unfold breakStep; simp only [hxo, ← hot]
  refine q_lp k3 [(0, _), (1, _), (6, _), (7, _), (8, _), (9, _)] (by omega) ⟨rfl, rfl, rfl, rfl, rfl, rfl, trivial⟩ ⟨k3, (xorNext st.1, swp st.2 idx (a + ot)), idx + 1, rfl, by omega, by omega, rfl, hR, B1, K, ?_⟩
  rw [← he, ← hbs]; rfl
end Go.Proofs.YtmckkklhonfmcaaGreat
namespace Go.Proofs.YtmckkklhonfmcaaGreat
open Go.Tess Go.RowKit
open Go.Sort (swp order2 median medianAdjacent insInner insOuter insertionSort siftDown heapBuild heapPop heapSort scanUp scanDown partLoop partition partEqLoop partitionEqual scanSorted shiftDown shiftUp partialIns partialInsertionSort choosePivot reverseLoop reverseRange xorNext xorNextN bitsLen breakStep breakPatterns pdq Hint)
set_option maxRecDepth 100000
set_option maxHeartbeats 1000000
section
variable {α : Type} [Inhabited α] {lt : α → α → Bool} {d d1 d2 d3 : Array α} {a b l l1 p pv : Nat} {wb wp : Bool} {hn hn2 : Hint} {pi : Array α × Bool}
theorem pdq_ins (h : b - a ≤ 12) : pdq lt d a b l wb wp = insertionSort lt d a b := by rw [pdq, if_pos h]
theorem pdq_heap (h : ¬ b - a ≤ 12) (h0 : l = 0) : pdq lt d a b l wb wp = heapSort lt d a b := by rw [pdq, if_neg h, if_pos h0]
section
variable (h12 : ¬ b - a ≤ 12) (h0 : ¬ l = 0) (h1 : (if (!wb) = true then breakPatterns d a b else d) = d1) (hl : (if (!wb) = true then l - 1 else l) = l1) (hc : choosePivot lt d1 a b = (p, hn))
  (hd2 : (if hn = .decreasing then reverseRange d1 a b else d1) = d2) (hpv : (if hn = .decreasing then (b - 1) - (p - a) else p) = pv) (hh : (if hn = .decreasing then Hint.increasing else hn) = hn2)
include h12 h0 h1 hl hc hd2 hpv hh
theorem pdq_pi (hpi : (if (wb && wp && decide (hn2 = .increasing)) = true then partialInsertionSort lt d2 a b else (d2, false)) = (d3, true)) : pdq lt d a b l wb wp = d3 := by
  rw [pdq]; simp only [if_neg h12, if_neg h0, h1, hl, hc, hd2, hpv, hh, hpi]; rfl
theorem pdq_eq (hpi : (if (wb && wp && decide (hn2 = .increasing)) = true then partialInsertionSort lt d2 a b else (d2, false)) = (d3, false)) (hq : (decide (a > 0) && !lt d3[a - 1]! d3[pv]!) = true)
    (hm : a < (partitionEqual lt d3 a b pv).1 ∧ (partitionEqual lt d3 a b pv).1 ≤ b) : pdq lt d a b l wb wp = pdq lt (partitionEqual lt d3 a b pv).2 (partitionEqual lt d3 a b pv).1 b l1 wb wp := by
  conv => lhs; rw [pdq]
  simp only [if_neg h12, if_neg h0, h1, hl, hc, hd2, hpv, hh, hpi]
  rw [if_neg (by decide), if_pos hq, dif_pos hm]
theorem pdq_lo (hpi : (if (wb && wp && decide (hn2 = .increasing)) = true then partialInsertionSort lt d2 a b else (d2, false)) = (d3, false)) (hq : (decide (a > 0) && !lt d3[a - 1]! d3[pv]!) = false)
    (hm : a ≤ (partition lt d3 a b pv).1 ∧ (partition lt d3 a b pv).1 < b) (hs : (partition lt d3 a b pv).1 - a < b - (partition lt d3 a b pv).1) :
    pdq lt d a b l wb wp = pdq lt (pdq lt (partition lt d3 a b pv).2.2 a (partition lt d3 a b pv).1 l1 true true) ((partition lt d3 a b pv).1 + 1) b l1 (decide ((partition lt d3 a b pv).1 - a ≥ (b - a) / 8)) (partition lt d3 a b pv).2.1 := by
  conv => lhs; rw [pdq]
  simp only [if_neg h12, if_neg h0, h1, hl, hc, hd2, hpv, hh, hpi]
  rw [if_neg (by decide), if_neg (by rw [hq]; decide), dif_pos hm, if_pos hs]
theorem pdq_hi (hpi : (if (wb && wp && decide (hn2 = .increasing)) = true then partialInsertionSort lt d2 a b else (d2, false)) = (d3, false)) (hq : (decide (a > 0) && !lt d3[a - 1]! d3[pv]!) = false)
    (hm : a ≤ (partition lt d3 a b pv).1 ∧ (partition lt d3 a b pv).1 < b) (hs : ¬ (partition lt d3 a b pv).1 - a < b - (partition lt d3 a b pv).1) :
    pdq lt d a b l wb wp = pdq lt (pdq lt (partition lt d3 a b pv).2.2 ((partition lt d3 a b pv).1 + 1) b l1 true true) a (partition lt d3 a b pv).1 l1 (decide (b - (partition lt d3 a b pv).1 ≥ (b - a) / 8)) (partition lt d3 a b pv).2.1 := by
  conv => lhs; rw [pdq]
  simp only [if_neg h12, if_neg h0, h1, hl, hc, hd2, hpv, hh, hpi]
  rw [if_neg (by decide), if_neg (by rw [hq]; decide), dif_pos hm, if_neg hs]
end
theorem hint_dec {x : Hint} : (hintN x : Int) = 2 ↔ x = .decreasing := by cases x <;> simp [hintN]
theorem hint_inc {x : Hint} : decide ((hintN x : Int) = 1) = decide (x = Hint.increasing) := by cases x <;> rfl
end
theorem c_pdqsort0 {α : Type} [Inhabited α] {χ : Chi} {T : TypeId} {rv : Value} {n : Nat} {lt : α → α → Bool} {blk : Nat} {F : Nat → Prop} {R : Array α → Heap → Prop} (M : SortM χ T rv n lt blk F R) (hS : Go.Sort.SWO lt) {d : Array α} {h : Heap} {a b l : Nat} (hR : R d h) (hab : a ≤ b) (hb : b ≤ n) (hl : l ≤ 1000)
    (ih : ∀ (d2 : Array α) (h2 : Heap) (a2 b2 l2 : Nat), R d2 h2 → b2 - a2 < b - a → a2 ≤ b2 → b2 ≤ n → l2 ≤ 1000 → Cl Tryz.prog χ 123 #[.iface T rv, .int .i64 (a2 : Int), .int .i64 (b2 : Int), .int .i64 (l2 : Int)] h2 (fun r h' => r = .tuple #[] ∧ R (pdq lt d2 a2 b2 l2 true true) h' ∧ Keep [blk] h2 h')) :
    Cl Tryz.prog χ 123 #[.iface T rv, .int .i64 (a : Int), .int .i64 (b : Int), .int .i64 (l : Int)] h (fun r h' => r = .tuple #[] ∧ R (pdq lt d a b l true true) h' ∧ Keep [blk] h h') := by
  have hn := M.small
  refine cl_intro Tryz.func123 rfl rfl rfl ?_
  have K : Keep [blk] h h := Keep.refl _ _
  refine rG <| rA rfl rfl <| rN <| rG <| rA rfl rfl <| rN <| tr_block ?_
  refine tr_loop (fun m E h' => ∃ (a1 b1 l1 : Nat) (wb wp : Bool) (d0 : Array α), a1 ≤ b1 ∧ b1 ≤ n ∧ b1 - a1 ≤ b - a ∧ l1 ≤ 1000 ∧ m = b1 - a1 ∧ E = [(0, .iface T rv), (1, .int .i64 (a1 : Int)), (2, .int .i64 (b1 : Int)), (3, .int .i64 (l1 : Int)), (8, .bool wb), (9, .bool wp)] ∧ R d0 h' ∧ Keep [blk] h h' ∧ pdq lt d0 a1 b1 l1 wb wp = pdq lt d a b l true true) (b - a) [(0, _), (1, _), (2, _), (3, _), (8, _), (9, _)] ⟨rfl, rfl, rfl, rfl, rfl, rfl, trivial⟩ ⟨a, b, l, true, true, d, hab, hb, Nat.le_refl _, hl, rfl, rfl, hR, K, rfl⟩ ?_
  rintro m E hL1 ⟨a1, b1, l1, wb, wp, d0, hab1, hb1, hba1, hl1, rfl, rfl, hR, K, he⟩
  refine tr_block <| rG <| rM rfl rfl <| rM rfl rfl <| rs_v (v_sub rfl rfl (by omega) (by omega)) rfl ?_
  refine rA rfl rfl <| rN ?_
  refine tr_seq ?_
  refine rG <| rM rfl rfl <| rs_v (v_le rfl rfl) rfl ?_
  refine rN ?_
  refine tr_if rfl (fun hif => ?_) (fun hif => ?_)
  · -- yes
    simp only [dT, dF] at hif
    refine rG <| rM rfl rfl <| rM rfl rfl <| rM rfl rfl <| rs_w (w_call (vs := [_, _, _]) ok_sort_insertionSort rfl ⟨rfl, rfl, rfl, trivial⟩ (c_insertionSort M hR hab1 hb1)) rfl ?_
    rintro _ h2 ⟨rfl, hR, K2⟩
    have K := K.trans K2
    refine rN <| tr_ret <| q_thn_ret <| q_blk_ret ?_
    refine q_lp_ret ?_
    refine q_blk_ret <| q_ret (res_none rfl) ?_
    exact ⟨rfl, by rw [← he, pdq_ins (by omega)]; exact hR, K⟩
  -- no
  simp only [dT, dF] at hif
  have h12 : ¬ b1 - a1 ≤ 12 := by omega
  refine tr_skip ?_
  refine q_thn ?_
  refine tr_seq ?_
  refine rG <| rM rfl rfl <| rs_v (v_eq rfl rfl) rfl ?_
  refine rN ?_
  refine tr_if rfl (fun hif => ?_) (fun hif => ?_)
  · -- yes
    simp only [dT, dF] at hif
    refine rG <| rM rfl rfl <| rM rfl rfl <| rM rfl rfl <| rs_w (w_call (vs := [_, _, _]) ok_sort_heapSort rfl ⟨rfl, rfl, rfl, trivial⟩ (c_heapSort M hR (by omega) hb1)) rfl ?_
    rintro _ h3 ⟨rfl, hR, K3⟩
    have K := K.trans K3
    refine rN <| tr_ret <| q_thn_ret <| q_blk_ret ?_
    refine q_lp_ret ?_
    refine q_blk_ret <| q_ret (res_none rfl) ?_
    exact ⟨rfl, by rw [← he, pdq_heap h12 (by omega)]; exact hR, K⟩
  -- no
  simp only [dT, dF] at hif
  have hl0 : ¬ l1 = 0 := by omega
  refine tr_skip ?_
  refine q_thn ?_
  refine tr_cut (fun E h' => ∃ d1 l2, (if (!wb) = true then breakPatterns d0 a1 b1 else d0) = d1 ∧ (if (!wb) = true then l1 - 1 else l1) = l2 ∧ l2 ≤ 1000 ∧ E = [(0, .iface T rv), (1, .int .i64 (a1 : Int)), (2, .int .i64 (b1 : Int)), (3, .int .i64 (l2 : Int)), (8, .bool wb), (9, .bool wp), (10, .int .i64 ((b1 - a1 : Nat) : Int))] ∧ R d1 h' ∧ Keep [blk] h h') ?_ ?_
  ·
    refine rG <| rM rfl rfl <| rs_v (v_not rfl) rfl ?_
    refine rN ?_
    refine tr_if rfl (fun hif => ?_) (fun hif => ?_)
    · -- yes
      skip
      refine rG <| rM rfl rfl <| rM rfl rfl <| rM rfl rfl <| rs_w (w_call (vs := [_, _, _]) ok_sort_breakPatterns rfl ⟨rfl, rfl, rfl, trivial⟩ (c_breakPatterns M hR (by omega) hb1)) rfl ?_
      rintro _ h4 ⟨rfl, hR, K4⟩
      have K := K.trans K4
      refine rN ?_
      refine tr_reg ?_
      refine rM rfl rfl <| rs_v (v_sub rfl rfl (by omega) (by omega)) rfl ?_
      refine rA rfl rfl ?_
      refine rs_nil ?_
      exact q_cut [(0, _), (1, _), (2, _), (3, _), (8, _), (9, _), (10, _)] ⟨rfl, rfl, rfl, rfl, rfl, rfl, rfl, trivial⟩ ⟨breakPatterns d0 a1 b1, l1 - 1, by rw [if_pos hif], by rw [if_pos hif], by omega, by rw [show ((l1 : Int) - 1) = ((l1 - 1 : Nat) : Int) from by omega, show ((b1 : Int) - (a1 : Int)) = ((b1 - a1 : Nat) : Int) from by omega], hR, K⟩
    -- no
    skip
    refine tr_skip ?_
    exact q_cut [(0, _), (1, _), (2, _), (3, _), (8, _), (9, _), (10, _)] ⟨rfl, rfl, rfl, rfl, rfl, rfl, rfl, trivial⟩ ⟨d0, l1, by rw [if_neg (by rw [hif]; decide)], by rw [if_neg (by rw [hif]; decide)], hl1, by rw [show ((b1 : Int) - (a1 : Int)) = ((b1 - a1 : Nat) : Int) from by omega], hR, K⟩
  rintro E h99 ⟨d1, l2, hd1, hl2, hl2b, rfl, hR, K⟩
  refine rG <| rM rfl rfl <| rM rfl rfl <| rM rfl rfl <| rs_w (w_call (vs := [_, _, _]) ok_sort_choosePivot rfl ⟨rfl, rfl, rfl, trivial⟩ (c_choosePivot M hR (by omega) hb1)) rfl ?_
  rintro _ h6 ⟨rfl, hR, K6, hcn⟩
  have K := K.trans K6
  have hcr := Go.Sort.choosePivot_holds lt d1 a1 b1 (by omega)
  generalize hcp : choosePivot lt d1 a1 b1 = c at hcn hcr ⊢
  obtain ⟨p, hk⟩ := c
  have hcr1 : a1 ≤ p := hcr.1
  have hcr2 : p < b1 := hcr.2
  refine rM rfl rfl <| rs_v (v_extract rfl rfl) rfl ?_
  refine rs_v (v_extract rfl rfl) rfl ?_
  refine rA rfl rfl <| rA rfl rfl <| rN ?_
  refine tr_cut (fun E h' => ∃ d2 pv hn2, (if hk = .decreasing then reverseRange d1 a1 b1 else d1) = d2 ∧ (if hk = .decreasing then (b1 - 1) - (p - a1) else p) = pv ∧ (if hk = .decreasing then Hint.increasing else hk) = hn2 ∧ (a1 ≤ pv ∧ pv < b1) ∧ E = [(0, .iface T rv), (1, .int .i64 (a1 : Int)), (2, .int .i64 (b1 : Int)), (3, .int .i64 (l2 : Int)), (8, .bool wb), (9, .bool wp), (10, .int .i64 ((b1 - a1 : Nat) : Int)), (11, .int .i64 (pv : Int)), (12, .int .i64 ((hintN hn2 : Nat) : Int))] ∧ R d2 h' ∧ Keep [blk] h h') ?_ ?_
  ·
    refine rG <| rM rfl rfl <| rs_v (v_eq rfl rfl) rfl ?_
    refine rN ?_
    refine tr_if rfl (fun hif => ?_) (fun hif => ?_)
    · -- yes
      simp only [dT, dF] at hif
      have hdc : hk = .decreasing := hint_dec.1 hif
      refine rG <| rM rfl rfl <| rM rfl rfl <| rM rfl rfl <| rs_w (w_call (vs := [_, _, _]) ok_sort_reverseRange rfl ⟨rfl, rfl, rfl, trivial⟩ (c_reverseRange M hR (by omega) hb1)) rfl ?_
      rintro _ h7 ⟨rfl, hR, K7⟩
      have K := K.trans K7
      refine rN <| rG <| rM rfl rfl <| rs_v (v_sub rfl rfl (by omega) (by omega)) rfl ?_
      refine rM rfl rfl <| rM rfl rfl <| rs_v (v_sub rfl rfl (by omega) (by omega)) rfl ?_
      refine rs_v (v_sub rfl rfl (by omega) (by omega)) rfl ?_
      refine rA rfl rfl <| rN ?_
      refine tr_reg ?_
      refine rA rfl rfl ?_
      refine rs_nil ?_
      exact q_cut [(0, _), (1, _), (2, _), (3, _), (8, _), (9, _), (10, _), (11, _), (12, _)] ⟨rfl, rfl, rfl, rfl, rfl, rfl, rfl, rfl, rfl, trivial⟩ ⟨_, (b1 - 1) - (p - a1), _, if_pos hdc, if_pos hdc, if_pos hdc, ⟨by omega, by omega⟩, by rw [show ((b1 : Int) - 1 - ((p : Int) - (a1 : Int))) = ((b1 - 1 - (p - a1) : Nat) : Int) from by omega]; rfl, hR, K⟩
    -- no
    simp only [dT, dF] at hif
    have hdc : ¬ hk = .decreasing := fun e => hif (hint_dec.2 e)
    refine tr_skip ?_
    exact q_cut [(0, _), (1, _), (2, _), (3, _), (8, _), (9, _), (10, _), (11, _), (12, _)] ⟨rfl, rfl, rfl, rfl, rfl, rfl, rfl, rfl, rfl, trivial⟩ ⟨_, p, hk, if_neg hdc, if_neg hdc, if_neg hdc, ⟨by omega, by omega⟩, rfl, hR, K⟩
  rintro E h98 ⟨d2, pv, hn2, hd2, hpv, hh, hpr, rfl, hR, K⟩
  refine tr_cut (fun E h' => ∃ d3, (if (wb && wp && decide (hn2 = .increasing)) = true then partialInsertionSort lt d2 a1 b1 else (d2, false)) = (d3, false) ∧ E = [(0, .iface T rv), (1, .int .i64 (a1 : Int)), (2, .int .i64 (b1 : Int)), (3, .int .i64 (l2 : Int)), (8, .bool wb), (9, .bool wp), (10, .int .i64 ((b1 - a1 : Nat) : Int)), (11, .int .i64 (pv : Int))] ∧ R d3 h' ∧ Keep [blk] h h') ?_ ?_
  ·
    refine tr_cut (fun E h' => R d2 h' ∧ Keep [blk] h h' ∧ E = [(0, .iface T rv), (1, .int .i64 (a1 : Int)), (2, .int .i64 (b1 : Int)), (3, .int .i64 (l2 : Int)), (8, .bool wb), (9, .bool wp), (10, .int .i64 ((b1 - a1 : Nat) : Int)), (11, .int .i64 (pv : Int)), (12, .int .i64 ((hintN hn2 : Nat) : Int)), (68, .bool (wb && wp && decide (hn2 = .increasing)))]) ?_ ?_
    ·
      rcases wb with _ | _ <;> rcases wp with _ | _
      · skip
        refine tr_reg ?_
        refine rM rfl rfl <| rM rfl rfl <| rs_gs rfl (rfl) rfl rfl <| rs_v (v_pick_f rfl rfl) rfl ?_
        refine rM rfl rfl <| rs_gs rfl (rfl) rfl rfl <| rs_gs rfl (rfl) rfl rfl <| rs_v (v_pick_f rfl rfl) rfl ?_
        refine rs_nil ?_
        exact q_cut [(0, _), (1, _), (2, _), (3, _), (8, _), (9, _), (10, _), (11, _), (12, _), (68, _)] ⟨rfl, rfl, rfl, rfl, rfl, rfl, rfl, rfl, rfl, rfl, trivial⟩ ⟨hR, K, rfl⟩
      · skip
        refine tr_reg ?_
        refine rM rfl rfl <| rM rfl rfl <| rs_gs rfl (rfl) rfl rfl <| rs_v (v_pick_f rfl rfl) rfl ?_
        refine rM rfl rfl <| rs_gs rfl (rfl) rfl rfl <| rs_gs rfl (rfl) rfl rfl <| rs_v (v_pick_f rfl rfl) rfl ?_
        refine rs_nil ?_
        exact q_cut [(0, _), (1, _), (2, _), (3, _), (8, _), (9, _), (10, _), (11, _), (12, _), (68, _)] ⟨rfl, rfl, rfl, rfl, rfl, rfl, rfl, rfl, rfl, rfl, trivial⟩ ⟨hR, K, rfl⟩
      · skip
        refine tr_reg ?_
        refine rM rfl rfl <| rM rfl rfl <| rs_gv rfl (rfl) (v_move rfl) rfl ?_
        refine rs_v (v_pick_t rfl rfl) rfl ?_
        refine rM rfl rfl <| rs_gs rfl (rfl) rfl rfl <| rs_gs rfl (rfl) rfl rfl <| rs_v (v_pick_f rfl rfl) rfl ?_
        refine rs_nil ?_
        exact q_cut [(0, _), (1, _), (2, _), (3, _), (8, _), (9, _), (10, _), (11, _), (12, _), (68, _)] ⟨rfl, rfl, rfl, rfl, rfl, rfl, rfl, rfl, rfl, rfl, trivial⟩ ⟨hR, K, rfl⟩
      · skip
        refine tr_reg ?_
        refine rM rfl rfl <| rM rfl rfl <| rs_gv rfl (rfl) (v_move rfl) rfl ?_
        refine rs_v (v_pick_t rfl rfl) rfl ?_
        refine rM rfl rfl <| rs_gv rfl (rfl) (v_move rfl) rfl ?_
        refine rs_gv rfl (rfl) (v_eq rfl rfl) rfl ?_
        refine rs_v (v_pick_t rfl rfl) rfl ?_
        refine rs_nil ?_
        exact q_cut [(0, _), (1, _), (2, _), (3, _), (8, _), (9, _), (10, _), (11, _), (12, _), (68, _)] ⟨rfl, rfl, rfl, rfl, rfl, rfl, rfl, rfl, rfl, rfl, trivial⟩ ⟨hR, K, by simp [hint_inc]⟩
    rintro E h96 ⟨hR, K, rfl⟩
    refine tr_if rfl (fun hif => ?_) (fun hif => ?_)
    · -- yes
      have hgp := hif
      refine rG <| rM rfl rfl <| rM rfl rfl <| rM rfl rfl <| rs_w (w_call (vs := [_, _, _]) ok_sort_partialInsertionSort rfl ⟨rfl, rfl, rfl, trivial⟩ (c_partialInsertionSort M hR (by omega) hb1)) rfl ?_
      rintro _ h10 ⟨rfl, hR, K10⟩
      have K := K.trans K10
      refine rN ?_
      refine tr_if rfl (fun hif => ?_) (fun hif => ?_)
      · -- yes
        skip
        refine tr_ret ?_
        refine q_cut_ret ?_
        refine q_blk_ret ?_
        refine q_lp_ret ?_
        refine q_blk_ret <| q_ret (res_none rfl) ?_
        rw [← he, pdq_pi h12 hl0 hd1 hl2 hcp hd2 hpv hh (d3 := (partialInsertionSort lt d2 a1 b1).1) (by rw [if_pos hgp]; exact Prod.ext rfl hif)]
        exact ⟨rfl, hR, K⟩
      -- no
      skip
      refine tr_skip ?_
      exact q_cut [(0, _), (1, _), (2, _), (3, _), (8, _), (9, _), (10, _), (11, _)] ⟨rfl, rfl, rfl, rfl, rfl, rfl, rfl, rfl, trivial⟩ ⟨(partialInsertionSort lt d2 a1 b1).1, by rw [if_pos hgp]; exact Prod.ext rfl hif, rfl, hR, K⟩
    -- no
    skip
    refine tr_skip ?_
    exact q_cut [(0, _), (1, _), (2, _), (3, _), (8, _), (9, _), (10, _), (11, _)] ⟨rfl, rfl, rfl, rfl, rfl, rfl, rfl, rfl, trivial⟩ ⟨d2, by rw [if_neg (by rw [hif]; decide)], rfl, hR, K⟩
  rintro E h97 ⟨d3, hpi, rfl, hR, K⟩
  have hR0 := hR
  refine tr_seq ?_
  refine tr_cut (fun E h' => R d3 h' ∧ Keep [blk] h h' ∧ E = [(0, .iface T rv), (1, .int .i64 (a1 : Int)), (2, .int .i64 (b1 : Int)), (3, .int .i64 (l2 : Int)), (8, .bool wb), (9, .bool wp), (10, .int .i64 ((b1 - a1 : Nat) : Int)), (11, .int .i64 (pv : Int)), (82, .bool (decide (a1 > 0) && !lt d3[a1 - 1]! d3[pv]!))]) ?_ ?_
  ·
    rcases Bool.eq_false_or_eq_true (decide (a1 > 0)) with g0 | g0
    · have g2 : a1 > 0 := by simpa using g0
      have g1 : decide ((0 : Int) < (a1 : Int)) = true := decide_eq_true (by omega)
      refine tr_reg ?_
      refine rM rfl rfl <| rs_v (v_gt rfl rfl) rfl ?_
      refine rM rfl rfl <| rs_gv rfl (lkb g1) (v_move rfl) rfl <| rs_gv rfl (lkb g1) (v_move rfl) rfl <| rs_gv rfl (lkb g1) (v_sub rfl rfl (by omega) (by omega)) rfl ?_
      refine rs_gv rfl (lkb g1) (v_move rfl) rfl ?_
      refine rs_gw rfl (lkb g1) (w_mcall (vs := [_, _]) (M.less' hR (i := a1 - 1) (j := pv) (by omega) (by omega) (by first | rfl | omega) (by first | rfl | omega)) rfl ⟨rfl, rfl, trivial⟩) rfl ?_
      rintro _ h12 ⟨rfl, hR, K12⟩
      have K := K.trans K12
      refine rs_gv rfl (lkb g1) (v_not rfl) rfl ?_
      refine rs_v (v_pick_t (lkb g1) rfl) rfl ?_
      refine rs_nil ?_
      exact q_cut [(0, _), (1, _), (2, _), (3, _), (8, _), (9, _), (10, _), (11, _), (82, _)] ⟨rfl, rfl, rfl, rfl, rfl, rfl, rfl, rfl, rfl, trivial⟩ ⟨hR, K, by rw [show (decide (a1 > 0) && !lt d3[a1 - 1]! d3[pv]!) = (!lt d3[a1 - 1]! d3[pv]!) from by simp only [g0, Bool.true_and, Bool.false_and]]⟩
    · have g2 : ¬ a1 > 0 := by simpa using g0
      have g1 : decide ((0 : Int) < (a1 : Int)) = false := decide_eq_false (by omega)
      refine tr_reg ?_
      refine rM rfl rfl <| rs_v (v_gt rfl rfl) rfl ?_
      refine rM rfl rfl <| rs_gs rfl (lkb g1) rfl rfl <| rs_gs rfl (lkb g1) rfl rfl <| rs_gs rfl (lkb g1) rfl rfl <| rs_gs rfl (lkb g1) rfl rfl <| rs_gs rfl (lkb g1) rfl rfl <| rs_gs rfl (lkb g1) rfl rfl <| rs_v (v_pick_f (lkb g1) rfl) rfl ?_
      refine rs_nil ?_
      exact q_cut [(0, _), (1, _), (2, _), (3, _), (8, _), (9, _), (10, _), (11, _), (82, _)] ⟨rfl, rfl, rfl, rfl, rfl, rfl, rfl, rfl, rfl, trivial⟩ ⟨hR, K, by rw [show (decide (a1 > 0) && !lt d3[a1 - 1]! d3[pv]!) = (false) from by simp only [g0, Bool.true_and, Bool.false_and]]⟩
  rintro E h95 ⟨hR, K, rfl⟩
  refine tr_if rfl (fun hif => ?_) (fun hif => ?_)
  · -- yes
    skip
    refine rG <| rM rfl rfl <| rM rfl rfl <| rM rfl rfl <| rM rfl rfl <| rs_w (w_call (vs := [_, _, _, _]) ok_sort_partitionEqual rfl ⟨rfl, rfl, rfl, rfl, trivial⟩ (c_partitionEqual M hR hpr.1 hpr.2 hb1)) rfl ?_
    rintro _ h14 ⟨rfl, hm1, hm2, hR, K14⟩
    have K := K.trans K14
    refine rA rfl rfl <| rN <| rG <| rM rfl rfl <| rA rfl rfl <| rN <| tr_exit <| q_thn_exit <| q_blk_hit ?_
    refine q_lp (b1 - (partitionEqual lt d3 a1 b1 pv).1) [(0, _), (1, _), (2, _), (3, _), (8, _), (9, _)] (by omega) ⟨rfl, rfl, rfl, rfl, rfl, rfl, trivial⟩ ⟨(partitionEqual lt d3 a1 b1 pv).1, b1, l2, wb, wp, _, hm2, hb1, by omega, hl2b, rfl, rfl, hR, K, ?_⟩
    rw [← he, pdq_eq h12 hl0 hd1 hl2 hcp hd2 hpv hh hpi hif ⟨hm1, hm2⟩]
  -- no
  have hif0 := hif
  refine tr_skip ?_
  refine q_thn ?_
  refine rG <| rM rfl rfl <| rM rfl rfl <| rM rfl rfl <| rM rfl rfl <| rs_w (w_call (vs := [_, _, _, _]) ok_sort_partition rfl ⟨rfl, rfl, rfl, rfl, trivial⟩ (c_partition M hR hpr.1 hpr.2 hb1)) rfl ?_
  rintro _ h15 ⟨rfl, hR, K15⟩
  have K := K.trans K15
  have hmm := Go.Sort.partition_holds lt hS d3 a1 b1 pv hpr.1 hpr.2 (by rw [M.size hR0]; exact hb1)
  have hmm1 := hmm.1
  have hmm2 := hmm.2.1
  refine rM rfl rfl <| rs_v (v_extract rfl rfl) rfl ?_
  refine rs_v (v_extract rfl rfl) rfl ?_
  refine rA rfl rfl <| rA rfl rfl <| rN <| rG <| rM rfl rfl <| rA rfl rfl <| rN <| rG <| rM rfl rfl <| rM rfl rfl <| rs_v (v_sub rfl rfl (by omega) (by omega)) rfl ?_
  refine rM rfl rfl <| rM rfl rfl <| rs_v (v_sub rfl rfl (by omega) (by omega)) rfl ?_
  refine rA rfl rfl <| rA rfl rfl <| rN <| rG <| rM rfl rfl <| rs_v (v_quoN (a := b1 - a1) (b := 8) rfl rfl rfl (by decide) (by omega)) rfl ?_
  refine rA rfl rfl <| rN <| rG <| rM rfl rfl <| rM rfl rfl <| rs_v (v_lt rfl rfl) rfl ?_
  refine rN ?_
  refine tr_if rfl (fun hif => ?_) (fun hif => ?_)
  · -- yes
    simp only [dT, dF] at hif
    refine rG <| rM rfl rfl <| rM rfl rfl <| rs_v (v_ge rfl rfl) rfl ?_
    refine rA rfl rfl <| rN <| rG <| rM rfl rfl <| rM rfl rfl <| rM rfl rfl <| rM rfl rfl <| rs_w (w_call (vs := [_, _, _, _]) ok_sort_pdqsort rfl ⟨rfl, rfl, rfl, rfl, trivial⟩ (ih _ _ a1 (partition lt d3 a1 b1 pv).1 l2 hR (by omega) (by omega) (by omega) hl2b)) rfl ?_
    rintro _ h16 ⟨rfl, hR, K16⟩
    have K := K.trans K16
    refine rN ?_
    refine tr_reg ?_
    refine rM rfl rfl <| rs_v (v_add rfl rfl (by omega) (by omega)) rfl ?_
    refine rA rfl rfl ?_
    refine rs_nil ?_
    refine q_blk_n ?_
    refine q_lp (b1 - ((partition lt d3 a1 b1 pv).1 + 1)) [(0, _), (1, _), (2, _), (3, _), (8, _), (9, _)] (by omega) ⟨rfl, rfl, rfl, rfl, rfl, rfl, trivial⟩ ⟨(partition lt d3 a1 b1 pv).1 + 1, b1, l2, decide ((partition lt d3 a1 b1 pv).1 - a1 ≥ (b1 - a1) / 8), (partition lt d3 a1 b1 pv).2.1, _, by omega, hb1, by omega, hl2b, rfl, by rw [show decide ((((b1 - a1) / 8 : Nat) : Int) ≤ ((partition lt d3 a1 b1 pv).1 : Int) - (a1 : Int)) = decide ((partition lt d3 a1 b1 pv).1 - a1 ≥ (b1 - a1) / 8) from decide_eq_decide.2 (by omega)]; rfl, hR, K, ?_⟩
    rw [← he, pdq_lo h12 hl0 hd1 hl2 hcp hd2 hpv hh hpi hif0 ⟨hmm1, hmm2⟩ (by omega)]
  -- no
  simp only [dT, dF] at hif
  refine rG <| rM rfl rfl <| rM rfl rfl <| rs_v (v_ge rfl rfl) rfl ?_
  refine rA rfl rfl <| rN <| rG <| rM rfl rfl <| rM rfl rfl <| rs_v (v_add rfl rfl (by omega) (by omega)) rfl ?_
  refine rM rfl rfl <| rM rfl rfl <| rs_w (w_call (vs := [_, _, _, _]) ok_sort_pdqsort rfl ⟨rfl, rfl, rfl, rfl, trivial⟩ (ih _ _ ((partition lt d3 a1 b1 pv).1 + 1) b1 l2 hR (by omega) (by omega) (by omega) hl2b)) rfl ?_
  rintro _ h17 ⟨rfl, hR, K17⟩
  have K := K.trans K17
  refine rN ?_
  refine tr_reg ?_
  refine rM rfl rfl <| rA rfl rfl ?_
  refine rs_nil ?_
  refine q_blk_n ?_
  refine q_lp ((partition lt d3 a1 b1 pv).1 - a1) [(0, _), (1, _), (2, _), (3, _), (8, _), (9, _)] (by omega) ⟨rfl, rfl, rfl, rfl, rfl, rfl, trivial⟩ ⟨a1, (partition lt d3 a1 b1 pv).1, l2, decide (b1 - (partition lt d3 a1 b1 pv).1 ≥ (b1 - a1) / 8), (partition lt d3 a1 b1 pv).2.1, _, by omega, by omega, by omega, hl2b, rfl, by rw [show decide ((((b1 - a1) / 8 : Nat) : Int) ≤ (b1 : Int) - ((partition lt d3 a1 b1 pv).1 : Int)) = decide (b1 - (partition lt d3 a1 b1 pv).1 ≥ (b1 - a1) / 8) from decide_eq_decide.2 (by omega)]; rfl, hR, K, ?_⟩
  rw [← he, pdq_hi h12 hl0 hd1 hl2 hcp hd2 hpv hh hpi hif0 ⟨hmm1, hmm2⟩ (by omega)]
theorem c_pdqsort {α : Type} [Inhabited α] {χ : Chi} {T : TypeId} {rv : Value} {n : Nat} {lt : α → α → Bool} {blk : Nat} {F : Nat → Prop} {R : Array α → Heap → Prop} (M : SortM χ T rv n lt blk F R) (hS : Go.Sort.SWO lt) : ∀ (N : Nat) (d : Array α) (h : Heap) (a b l : Nat), b - a = N → R d h → a ≤ b → b ≤ n → l ≤ 1000 →
    Cl Tryz.prog χ 123 #[.iface T rv, .int .i64 (a : Int), .int .i64 (b : Int), .int .i64 (l : Int)] h (fun r h' => r = .tuple #[] ∧ R (pdq lt d a b l true true) h' ∧ Keep [blk] h h') := by
  intro N
  induction N using Nat.strongRecOn with
  | _ N ih =>
    intro d h a b l hN hR hab hb hl
    exact c_pdqsort0 M hS hR hab hb hl (fun d2 h2 a2 b2 l2 hR2 hlt h3 h4 h5 => ih (b2 - a2) (by omega) d2 h2 a2 b2 l2 rfl hR2 h3 h4 h5)
theorem permIn_list {α : Type} [Inhabited α] {n : Nat} {d d' : Array α} (hs : d.size = n) (h : Go.Sort.PermIn 0 n d d') : d'.toList.Perm d.toList := by
  have h1 := h.2.2
  rw [← hs] at h1
  rwa [Array.extract_size, show d'.extract 0 d.size = d' from by rw [← h.1]; exact Array.extract_size] at h1
def sortA {α : Type} [Inhabited α] (lt : α → α → Bool) (d : Array α) : Array α := if d.size ≤ 1 then d else pdq lt d 0 d.size (bitsLen d.size) true true
theorem sortA_perm {α : Type} [Inhabited α] {lt : α → α → Bool} (hS : Go.Sort.SWO lt) (d : Array α) : (sortA lt d).toList.Perm d.toList := by
  unfold sortA
  split
  · exact List.Perm.refl _
  · exact permIn_list rfl (Go.Sort.pdq_sorts lt hS d 0 d.size (bitsLen d.size) true true (Nat.zero_le _) (Nat.le_refl _) (Or.inl rfl)).1
theorem sortA_sorted {α : Type} [Inhabited α] {lt : α → α → Bool} (hS : Go.Sort.SWO lt) (d : Array α) : Go.Sort.SortedIn lt 0 d.size (sortA lt d) := by
  unfold sortA
  split
  · exact fun i j h1 h2 h3 => by omega
  · exact (Go.Sort.pdq_sorts lt hS d 0 d.size (bitsLen d.size) true true (Nat.zero_le _) (Nat.le_refl _) (Or.inl rfl)).2
theorem c_Sort {α : Type} [Inhabited α] {χ : Chi} {T : TypeId} {rv : Value} {n : Nat} {lt : α → α → Bool} {blk : Nat} {F : Nat → Prop} {R : Array α → Heap → Prop} (M : SortM χ T rv n lt blk F R) (hS : Go.Sort.SWO lt) {d : Array α} {h : Heap} (hR : R d h) :
    Cl Tryz.prog χ 109 #[.iface T rv] h (fun r h' => r = .tuple #[] ∧ R (sortA lt d) h' ∧ Keep [blk] h h') := by
  have hn := M.small
  have hs := M.size hR
  have hbl := bl_le (x := n) (by omega)
  refine cl_intro Tryz.func109 rfl rfl rfl ?_
  have K : Keep [blk] h h := Keep.refl _ _
  refine rG <| rM rfl rfl <| rs_w (w_mcall (vs := []) (M.len hR) rfl trivial) rfl ?_
  rintro _ h1 ⟨rfl, hR, K1⟩
  have K := K.trans K1
  refine rA rfl rfl <| rN ?_
  refine tr_seq ?_
  refine rG <| rM rfl rfl <| rs_v (v_le rfl rfl) rfl ?_
  refine rN ?_
  refine tr_if rfl (fun hif => ?_) (fun hif => ?_)
  · -- yes
    simp only [dT, dF] at hif
    refine tr_ret <| q_thn_ret <| q_ret (res_none rfl) ?_
    refine ⟨rfl, ?_, K⟩
    rw [sortA, if_pos (by omega)]; exact hR
  -- no
  simp only [dT, dF] at hif
  refine tr_skip ?_
  refine q_thn ?_
  refine rG <| rM rfl rfl <| rs_v (v_conv_u64 u_int u_uint rfl (by omega) (by omega)) rfl ?_
  refine rs_w (w_call (vs := [_]) ok_math_bits_Len rfl ⟨rfl, trivial⟩ (c_len (x := n) (by omega))) rfl ?_
  rintro _ h2 ⟨rfl, rfl⟩
  refine rA rfl rfl <| rN ?_
  refine tr_reg ?_
  refine rM rfl rfl <| rM rfl rfl <| rM rfl rfl <| rs_w (w_call (vs := [_, _, _, _]) ok_sort_pdqsort rfl ⟨rfl, rfl, rfl, rfl, trivial⟩ (c_pdqsort M hS (n - 0) d _ 0 n (bitsLen n) rfl hR (Nat.zero_le _) (Nat.le_refl _) (by omega))) rfl ?_
  rintro _ h3 ⟨rfl, hR, K3⟩
  have K := K.trans K3
  refine rs_nil ?_
  refine q_end (res_none rfl) ?_
  refine ⟨rfl, ?_, K⟩
  rw [sortA, if_neg (by omega), hs]; exact hR
end Go.Proofs.YtmckkklhonfmcaaGreat
namespace Go.Proofs.YtmckkklhonfmcaaGreat
open Go.Tess Go.RowKit
open Go.Sort (swp)
set_option maxRecDepth 100000
set_option maxHeartbeats 1000000
structure KT where
  k : KeyD
  a1 : Option Addr
  n1 : Nat
  c1 : Nat
  a2 : Option Addr
  n2 : Nat
  c2 : Nat
instance : Inhabited KT := ⟨⟨⟨0, .empty, .empty⟩, none, 0, 0, none, 0, 0⟩⟩
def KT.cells (x : KT) : List Value := [.int .u64 x.k.tr, .slice x.a1 x.n1 x.c1, .slice x.a2 x.n2 x.c2]
def cKT (c : List Value) (x : KT) : Prop := c = x.cells
def ktLess (a b : KT) : Bool := decide (b.k.tr < a.k.tr)
theorem ktLess_swo : Go.Sort.SWO ktLess where
  irrefl := fun x => by simp [ktLess]
  trans := fun x y z => by simp only [ktLess, decide_eq_true_eq]; omega
  ntrans := fun x y z => by simp only [ktLess, decide_eq_false_iff_not]; omega
def KRow (bf g n c base : Nat) (rest : List Value) (T : TypeId) (d : Array KT) (h : Heap) : Prop :=
  d.size = n ∧ n ≤ 1000000 ∧ g ≠ bf ∧ Blk h bf (.slice (some ⟨g, 0, none⟩) n c :: rest) T ∧ ∃ xs, Own h base 194 3 (.slice (some ⟨g, 0, none⟩) n c) n xs ∧ RowsR 3 cKT xs d.toList
theorem arr_at {α : Type} [Inhabited α] {d : Array α} {i : Nat} (h : i < d.size) : d.toList[i]? = some d[i]! := by
  rw [getElem!_pos d i h, List.getElem?_eq_getElem (by simpa using h)]; simp
theorem swp_list {α : Type} [Inhabited α] {d : Array α} {i j : Nat} (hi : i < d.size) (hj : j < d.size) : (swp d i j).toList = (d.toList.set i d[j]!).set j d[i]! := by
  unfold swp; simp
theorem m_kbLen (v : Value) : Meth Tryz.prog 231 v "Len" 222 v := fun _ => by kernel_rfl
theorem m_kbLess (v : Value) : Meth Tryz.prog 231 v "Less" 223 v := fun _ => by kernel_rfl
theorem m_kbSwap (v : Value) : Meth Tryz.prog 231 v "Swap" 224 v := fun _ => by kernel_rfl
theorem c_kbLen {χ : Chi} {h : Heap} {bf n c : Nat} {a : Option Addr} {rest : List Value} {T : TypeId} (B1 : Blk h bf (.slice a n c :: rest) T) :
    Cl Tryz.prog χ 222 #[.pointer (some ⟨bf, 0, none⟩)] h (fun r h' => r = .int .i64 (n : Int) ∧ h' = h) := by
  refine cl_intro Tryz.func222 rfl rfl rfl ?_
  have K : Keep [] h h := Keep.refl _ _
  refine rG <| rA rfl rfl <| rN <| rG <| rM rfl rfl <| rC rfl rfl <| rs_v (v_load one_keyspan_keysBySeqNumKind rfl (by exact B1.cell _ rfl)) rfl ?_
  refine rs_v (v_len u_keyspan_keysBySeqNumKind rfl) rfl ?_
  refine rA rfl rfl <| rN <| tr_ret <| q_ret (res_tmp rfl rfl) ?_
  exact ⟨rfl, rfl⟩
theorem c_kbLess {χ : Chi} {h : Heap} {bf g n c base : Nat} {rest : List Value} {T : TypeId} {d : Array KT} {i j : Nat} (hR : KRow bf g n c base rest T d h) (hi : i < n) (hj : j < n) :
    Cl Tryz.prog χ 223 #[.pointer (some ⟨bf, 0, none⟩), .int .i64 (i : Int), .int .i64 (j : Int)] h (fun r h' => r = .bool (ktLess d[i]! d[j]!) ∧ h' = h) := by
  obtain ⟨hds, hn6, hgb, B1, xs, O, hrow⟩ := hR
  have hcg := O.cells (b := g) rfl
  obtain ⟨ci, hcil, hci, rfl⟩ := hrow.at hcg (arr_at (i := i) (by omega))
  obtain ⟨cj, hcjl, hcj, rfl⟩ := hrow.at hcg (arr_at (i := j) (by omega))
  refine cl_intro Tryz.func223 rfl rfl rfl ?_
  have K : Keep [] h h := Keep.refl _ _
  refine rG <| rA rfl rfl <| rN ?_
  refine tr_seq ?_
  refine tr_quiet (by kernel_rfl) (by kernel_rfl) ?_
  refine rq_v (v_move rfl) <| rq_v (v_nilCheck_ptr rfl) <| rq_v (v_load one_keyspan_keysBySeqNumKind rfl (by exact B1.cell _ rfl)) ?_
  refine rq_v (v_move rfl) <| rq_v (v_indexAddrE (i := i) u_keyspan_keysBySeqNumKind siz_keyspan_Key rfl rfl rfl (by omega)) ?_
  refine rq_v (v_fieldAddr fa_keyspan_Key_0 rfl) <| rq_v (v_load one_uint64 rfl (by exact hci 0 _ rfl)) ?_
  refine rq_v (v_move rfl) <| rq_v (v_nilCheck_ptr rfl) <| rq_v (v_load one_keyspan_keysBySeqNumKind rfl (by exact B1.cell _ rfl)) ?_
  refine rq_v (v_move rfl) <| rq_v (v_indexAddrE (i := j) u_keyspan_keysBySeqNumKind siz_keyspan_Key rfl rfl rfl (by omega)) ?_
  refine rq_v (v_fieldAddr fa_keyspan_Key_0 rfl) <| rq_v (v_load one_uint64 rfl (by exact hcj 0 _ rfl)) ?_
  refine rq_v (v_gt rfl rfl) ?_
  refine rq_v (v_assign rfl) ?_
  refine rm_end ?_; simp only [endM, hypF, ofE, argE]
  refine q_thn ?_
  refine tr_ret <| q_ret (res_tmp rfl rfl) ?_
  exact ⟨rfl, rfl⟩
theorem c_kbSwap {χ : Chi} {h : Heap} {bf g n c base : Nat} {rest : List Value} {T : TypeId} {d : Array KT} {i j : Nat} (hR : KRow bf g n c base rest T d h) (hi : i < n) (hj : j < n) :
    Cl Tryz.prog χ 224 #[.pointer (some ⟨bf, 0, none⟩), .int .i64 (i : Int), .int .i64 (j : Int)] h (fun r h' => r = .tuple #[] ∧ KRow bf g n c base rest T (swp d i j) h' ∧ Keep [g] h h') := by
  obtain ⟨hds, hn6, hgb, B1, xs, O, hrow⟩ := hR
  have hcg := O.cells (b := g) rfl
  obtain ⟨ci, hcil, hci, rfl⟩ := hrow.at hcg (arr_at (i := i) (by omega))
  obtain ⟨cj, hcjl, hcj, rfl⟩ := hrow.at hcg (arr_at (i := j) (by omega))
  refine cl_intro Tryz.func224 rfl rfl rfl ?_
  have K : Keep [g] h h := Keep.refl _ _
  refine tr_draw [(true, 22), (false, 2)] _ (by kernel_rfl) (by kernel_rfl) (by kernel_rfl) ?_
  refine rx_one 21 ?_
  refine re_v rfl (by kernel_rfl) (v_move rfl) ?_
  refine re_v rfl (by kernel_rfl) (v_nilCheck_ptr rfl) ?_
  refine re_v rfl (by kernel_rfl) (v_load one_keyspan_keysBySeqNumKind rfl (by exact B1.cell _ rfl)) ?_
  refine re_v rfl (by kernel_rfl) (v_move rfl) ?_
  refine re_a rfl (fun h' => v_move rfl) ?_
  refine re_a rfl (fun h' => v_nilCheck_ptr rfl) ?_
  refine re_v rfl (by kernel_rfl) (v_load one_keyspan_keysBySeqNumKind rfl (by exact B1.cell _ rfl)) ?_
  refine re_a rfl (fun h' => v_move rfl) ?_
  refine re_v rfl (by kernel_rfl) (v_move rfl) ?_
  refine re_v rfl (by kernel_rfl) (v_nilCheck_ptr rfl) ?_
  refine re_v rfl (by kernel_rfl) (v_load one_keyspan_keysBySeqNumKind rfl (by exact B1.cell _ rfl)) ?_
  refine re_v rfl (by kernel_rfl) (v_move rfl) ?_
  refine re_v rfl (by kernel_rfl) (v_indexAddrE (i := j) u_keyspan_keysBySeqNumKind siz_keyspan_Key rfl rfl rfl (by omega)) ?_
  refine re_v rfl (by kernel_rfl) (v_loadAgg (vs := [_, _, _]) many_keyspan_Key rfl (by exact hcj)) ?_
  refine re_a rfl (fun h' => v_move rfl) ?_
  refine re_a rfl (fun h' => v_nilCheck_ptr rfl) ?_
  refine re_v rfl (by kernel_rfl) (v_load one_keyspan_keysBySeqNumKind rfl (by exact B1.cell _ rfl)) ?_
  refine re_a rfl (fun h' => v_move rfl) ?_
  refine re_a rfl (fun h' => v_indexAddrE (i := i) u_keyspan_keysBySeqNumKind siz_keyspan_Key rfl rfl rfl (by omega)) ?_
  refine re_v rfl (by kernel_rfl) (v_loadAgg (vs := [_, _, _]) many_keyspan_Key rfl (by exact hci)) ?_
  refine re_v rfl (by kernel_rfl) (v_indexAddrE (i := i) u_keyspan_keysBySeqNumKind siz_keyspan_Key rfl rfl rfl (by omega)) ?_
  refine re_w0 _ rfl (w_putOwn siz_keyspan_Key rfl rfl rfl rfl O (Nat.zero_add _) (by omega)) ?_
  refine re_end ?_; intro hA2 _; simp only [endM, hypF, ofE, argE, List.nil_append]; rintro ⟨OA, KA⟩
  refine rx_seq ?_
  refine rs_v (v_indexAddrE (i := j) u_keyspan_keysBySeqNumKind siz_keyspan_Key rfl rfl rfl (by omega)) rfl ?_
  refine rs_w0 (w_putOwn siz_keyspan_Key rfl rfl rfl rfl OA (Nat.zero_add _) (by omega)) ?_
  rintro _ h1 ⟨OB, KB⟩
  refine rs_nil ?_
  refine q_con ?_
  refine rx_nil ?_
  refine q_end (res_none rfl) ?_
  have hil : i < d.toList.length := by simpa using (show i < d.size by omega)
  have hjl : j < d.toList.length := by simpa using (show j < d.size by omega)
  refine ⟨rfl, ⟨by unfold swp; simpa using hds, hn6, hgb, (KA.trans KB).blk (by simp; exact fun e => hgb e.symm) B1, _, OB, ?_⟩, KA.trans KB⟩
  rw [swp_list (by omega) (by omega)]
  exact RowsR.set (RowsR.set hrow rfl rfl hil) rfl rfl (by simpa using hjl)
theorem Own.stabF {h h' : Heap} {base : Nat} {e : TypeId} {size : Nat} {v : Value} {n : Nat} {xs : List Value} {F : Nat → Prop} (ho : Own h base e size v n xs) (k : Stab F h h') (hx : ∀ b, v.ownBlock = some b → F b) : Own h' base e size v n xs := by
  refine ⟨ho.1, ?_⟩
  rcases ho.2 with hn | ⟨g, cap, cur, rfl, hb, hgg, rest⟩
  · exact .inl hn
  · exact .inr ⟨g, cap, cur, rfl, hb, (k g (hx g rfl)).trans hgg, rest⟩
theorem kb_sortM (χ : Chi) (bf g n c base : Nat) (rest : List Value) (T : TypeId) (hn : n ≤ 1000000) :
    SortM χ 231 (.pointer (some ⟨bf, 0, none⟩)) n ktLess g (fun b => b = g ∨ b = bf) (KRow bf g n c base rest T) where
  small := hn
  size := fun h => h.1
  fb := .inl rfl
  low := fun ⟨_, _, _, B1, xs, O, _⟩ b hb => by
    rcases hb with rfl | rfl
    · exact (O.lt rfl).2
    · exact B1.lt
  stab := fun ⟨h1, h2, h3, B1, xs, O, hr⟩ hs hz => ⟨h1, h2, h3, (hs bf (.inr rfl)).trans B1, xs, Own.stabF O hs (fun b hb => by cases hb; exact .inl rfl), hr⟩
  len := fun {d h} hR => ⟨_, _, ok_keyspan_keysBySeqNumKind_Len, m_kbLen _, (c_kbLen (χ := χ) hR.2.2.2.1).mono fun r h' ⟨e, e2⟩ => by subst e2; exact ⟨e, hR, Keep.refl _ _⟩⟩
  less := fun {d h i j} hR hi hj => ⟨_, _, ok_keyspan_keysBySeqNumKind_Less, m_kbLess _, (c_kbLess (χ := χ) hR hi hj).mono fun r h' ⟨e, e2⟩ => by subst e2; exact ⟨e, hR, Keep.refl _ _⟩⟩
  swap := fun {d h i j} hR hi hj => ⟨_, _, ok_keyspan_keysBySeqNumKind_Swap, m_kbSwap _, c_kbSwap (χ := χ) hR hi hj⟩
theorem c_Sort1 {χ : Chi} {T : TypeId} {rv : Value} {n : Nat} {h : Heap} (hL : MCall Tryz.prog χ T rv "Len" [] h (fun r h' => r = .int .i64 (n : Int) ∧ h' = h)) (hn : n ≤ 1) :
    Cl Tryz.prog χ 109 #[.iface T rv] h (fun r h' => r = .tuple #[] ∧ h' = h) := by
  have g1 : decide ((n : Int) ≤ 1) = true := decide_eq_true (by omega)
  refine cl_intro Tryz.func109 rfl rfl rfl ?_
  have K : Keep [] h h := Keep.refl _ _
  refine rG <| rM rfl rfl <| rs_w (w_mcall (vs := []) hL rfl trivial) rfl ?_
  rintro _ h1 ⟨rfl, rfl⟩
  refine rA rfl rfl <| rN ?_
  refine tr_seq ?_
  refine rG <| rM rfl rfl <| rs_v (v_le rfl rfl) rfl ?_
  refine rN <| tr_if_t (lkb g1) ?_
  refine tr_ret <| q_thn_ret <| q_ret (res_none rfl) ?_
  exact ⟨rfl, rfl⟩
theorem sorted_list {d : Array KT} {n : Nat} (hs : d.size = n) (h : Go.Sort.SortedIn ktLess 0 n d) : d.toList.Pairwise (fun a b => b.k.tr ≤ a.k.tr) := by
  rw [List.pairwise_iff_getElem]
  intro i j hi hj hij
  have h1 := h i j (Nat.zero_le _) hij (by rw [← hs]; simpa using hj)
  have hi2 : i < d.size := by simpa using hi
  have hj2 : j < d.size := by simpa using hj
  rw [getElem!_pos d i hi2, getElem!_pos d j hj2] at h1
  simp only [ktLess, decide_eq_false_iff_not] at h1
  simp only [Array.getElem_toList]
  omega
def sortKT (l : List KT) : List KT := (sortA ktLess l.toArray).toList
theorem sortKT_perm (l : List KT) : (sortKT l).Perm l := sortA_perm ktLess_swo l.toArray
theorem sortKT_sorted (l : List KT) : (sortKT l).Pairwise (fun a b => b.k.tr ≤ a.k.tr) := by
  have hl := (sortKT_perm l).length_eq
  refine sorted_list (n := l.length) (by have : (sortA ktLess l.toArray).toList.length = l.length := hl; simpa using this) ?_
  exact sortA_sorted ktLess_swo l.toArray
theorem c_sortKeys {χ : Chi} {h : Heap} {bf n base : Nat} {kv : Value} {rest xs : List Value} {T : TypeId} {l : List KT} (B1 : Blk h bf (kv :: rest) T) (O : Own h base 194 3 kv n xs) (hrow : RowsR 3 cKT xs l)
    (hl : l.length = n) (hn : n ≤ 1000000) (hg : ∀ g, kv.ownBlock = some g → g ≠ bf) :
    Cl Tryz.prog χ 109 #[.iface 231 (.pointer (some ⟨bf, 0, none⟩))] h (fun r h' => r = .tuple #[] ∧ ∃ xs', Blk h' bf (kv :: rest) T ∧ Own h' base 194 3 kv n xs' ∧ RowsR 3 cKT xs' (sortKT l) ∧ Keep kv.ownBlock.toList h h') := by
  rcases O.form with ⟨rfl, rfl, rfl⟩ | ⟨g, c, rfl, _⟩
  · refine (c_Sort1 (n := 0) ⟨_, _, ok_keyspan_keysBySeqNumKind_Len, m_kbLen _, c_kbLen (χ := χ) B1⟩ (by omega)).mono ?_
    rintro r h' ⟨e, rfl⟩
    refine ⟨e, [], B1, O, ?_, Keep.refl _ _⟩
    rw [List.eq_nil_of_length_eq_zero hl, show sortKT [] = [] from List.eq_nil_of_length_eq_zero (sortKT_perm []).length_eq]
    exact RowsR.nil _ _
  · have hR : KRow bf g n c base rest T l.toArray h := ⟨by simpa using hl, hn, hg g rfl, B1, xs, O, hrow⟩
    refine (c_Sort (kb_sortM χ bf g n c base rest T hn) ktLess_swo hR).mono ?_
    rintro r h' ⟨e, ⟨hs, _, _, B2, xs2, O2, hr2⟩, K⟩
    exact ⟨e, xs2, B2, O2, hr2, K⟩
end Go.Proofs.YtmckkklhonfmcaaGreat
