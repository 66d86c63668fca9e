/- Texts W104 to W128, as far as the statement reaches them, laid together by a program of ours. Conditions: those that each theorem names. -/
import Derived.Test.YtmckkklhonfmcaaGreatK4
set_option linter.unusedVariables false
set_option linter.unusedSimpArgs false
set_option linter.unusedSectionVars false
namespace Go.Proofs.YtmckkklhonfmcaaGreat
open Go.Tess Go.RowKit
set_option maxRecDepth 100000
set_option maxHeartbeats 2000000
def rT (f : List SpanD → Nat) (vs : List Lev) (j : Nat) : Nat := match vs[j]? with | some v => f v.W | none => 0
theorem rT_v {f : List SpanD → Nat} {vs : List Lev} {i : Nat} {v : Lev} (h : vs[i]? = some v) : rT f vs i = f v.W := by unfold rT; rw [h]
theorem rT_at {f : List SpanD → Nat} {vs : List Lev} {i : Nat} {W : List SpanD} (h : (wsO vs)[i]? = some W) : rT f vs i = f W := by
  obtain ⟨v, hv, rfl⟩ := wsO_inv h
  exact rT_v hv
def rK (f : List SpanD → Nat) (vs : List Lev) (rs : Nat → Nat) (k j : Nat) : Nat := if j < k then rT f vs j else rs j
theorem rK_step {f : List SpanD → Nat} {vs : List Lev} {rs : Nat → Nat} {k : Nat} {v : Lev} (h : vs[k]? = some v) (j : Nat) : upd (rK f vs rs k) k (f v.W) j = rK f vs rs (k + 1) j := by
  unfold upd rK
  by_cases e : j = k
  · subst e; rw [if_pos rfl, if_pos (by omega), rT_v h]
  · rw [if_neg e]
    by_cases e2 : j < k
    · rw [if_pos e2, if_pos (by omega)]
    · rw [if_neg e2, if_neg (by omega)]
theorem rK_all {f : List SpanD → Nat} {vs : List Lev} {rs : Nat → Nat} {k j : Nat} (h : j < k) : rK f vs rs k j = rT f vs j := if_pos h
theorem ret_form {A : Nat → Prop} {v : Lev} {h : Heap} (hS : LevS A v h) (r s : Nat) (hs : v.ok r → (r - 1) / 2 = s) : ∃ p, v.ret r = .pointer p ∧ ((p = none ∧ ¬ v.ok r) ∨ (∃ b o x, p = some ⟨b, o, none⟩ ∧ v.ok r ∧ v.W[s]? = some x ∧ v.sp s = .pointer (some ⟨b, o, none⟩) ∧ A b ∧ CellsAt h b o [v.sv s, v.ev s, v.kv s, .int .i8 0])) := by
  unfold Lev.ret
  by_cases ho : v.ok r
  · rw [if_pos ho, hs ho]
    have h2 := hs ho
    unfold Lev.ok at ho
    obtain ⟨x, hx⟩ := ex_get (L := v.W) (k := s) (by omega)
    obtain ⟨b, o, ha, hAb, hcs, _⟩ := hS.cells s x hx
    exact ⟨_, lev_pt ha, .inr ⟨b, o + s * 4, x, rfl, ho, hx, lev_pt ha, hAb, hcs⟩⟩
  · rw [if_neg ho]
    exact ⟨none, rfl, .inl ⟨rfl, ho⟩⟩
theorem at_first {v : Lev} (h : 0 < v.W.length) : v.at 1 = ⟨v.it, 1, v.sv 0, v.sp 0⟩ := Lev.at1 (s := 0) h
theorem at_last {v : Lev} (h : 0 < v.W.length) : v.at (2 * v.W.length) = ⟨v.it, 2, v.ev (v.W.length - 1), v.sp (v.W.length - 1)⟩ := by
  have := Lev.at2 (v := v) (s := v.W.length - 1) (by omega)
  rw [show 2 * (v.W.length - 1) + 2 = 2 * v.W.length from by omega] at this
  exact this
theorem MC.kc {A : Nat → Prop} {bf mi sb : Nat} {vs : List Lev} {B : List ByteArray} (C : MC A bf mi sb vs B) {k : Nat} {v : Lev} (hv : vs[k]? = some v) : ∀ x, x ∈ [v.c] → badB A bf mi sb vs x ∧ x ≠ sb := fun x hx => by
  rw [List.mem_singleton.1 hx]; exact ⟨.inr (.inr (.inr (.inr ⟨v, List.mem_of_getElem? hv, rfl⟩))), C.ns v (List.mem_of_getElem? hv)⟩
theorem c_MFirst {χ : Chi} {A : Nat → Prop} {bf mi sb : Nat} {vs : List Lev} {snap : Nat} {B : List ByteArray} {F : Nat → Prop} {rs : Nat → Nat} {rev : Bool} {dir : Int} {q : List Nat} {st en bv : Value} {h : Heap} (C : MC A bf mi sb vs B) (hbad : ∀ b, badB A bf mi sb vs b → F b) (hl : Low F h) (X : MXt A bf mi sb vs snap F rs rev dir q st en bv h) :
    Cl Tryz.prog χ 87 #[.pointer (some ⟨mi, 0, none⟩)] h (MPost A bf mi sb vs snap B F h (fwdP (covF (wsO vs)) (sgM vs snap B) (posF B 0))) := by
  obtain ⟨s0, s1, s2, s3, kv, L, tl, lk, lb, H, O⟩ := X
  have hFN : FNk (wsO vs) B 0 (rT (fun _ => 1) vs) := fn_cut C.hB (p := fun _ => false) (fun _ _ _ e => e) (cut_none B) (fun i W hW => by rw [rT_at hW, cut_none_cnt C.hB (p := fun _ => false) (fun _ _ _ e => e) (List.mem_of_getElem? hW) (cut_none B)])
  refine cl_intro Tryz.func87 rfl rfl rfl ?_
  have K : Keep [] h h := Keep.refl _ _
  refine rG <| rA rfl rfl <| rN <| rG <| rM rfl rfl <| rs_w (w_call (vs := [_]) ok_keyspan_MergingIter_invalidate rfl ⟨rfl, trivial⟩ (c_invalidate H)) rfl ?_
  rintro _ h1 ⟨rfl, H, K1⟩
  have KP : KeepP F h h1 := kp_mi C hbad K1
  have O := O.keep K1 C.kmi
  refine rN ?_
  refine tr_seq ?_
  refine rG <| rM rfl rfl <| rC rfl rfl <| rF fa_keyspan_MergingIter_0 rfl rfl <| rs_v (v_load one_p_keyspan_MergingBuffers rfl (by exact H.mb.b2.cell 0 rfl)) rfl ?_
  refine rC rfl rfl <| rF fa_keyspan_MergingBuffers_1 rfl rfl <| rs_v (v_load one_sl_keyspan_mergingIterLevel rfl (by exact H.b1.cell 1 rfl)) rfl ?_
  refine rs_v (v_len u_sl_keyspan_mergingIterLevel rfl) rfl ?_
  refine rM rfl rfl <| rN <| tr_block ?_
  refine tr_loop (fun m E h' => ∃ k L1, k ≤ vs.length ∧ m = vs.length - k ∧ E = [(0, .pointer (some ⟨mi, 0, none⟩)), (2, .pointer none), (14, .int .i64 (vs.length : Int)), (15, .int .i64 (k : Int))] ∧ MG A bf mi vs (rK (fun _ => 1) vs rs k) kv bv rev (hdC bf st en (.iface 188 (visF sb)) s0 s1 s2 s3 dir) L1 q tl h' ∧ MO A bf mi sb vs snap F kv bv lk lb h' ∧ KeepP F h h') vs.length [(0, _), (2, _), (14, _), (15, _)] ⟨rfl, rfl, rfl, rfl, trivial⟩ ⟨0, L, Nat.zero_le _, rfl, rfl, H.congr (fun j _ => rfl), O, KP⟩ ?_
  rintro m E hL2 ⟨k, L1, hk, rfl, rfl, H, O, KP⟩
  refine rG <| rs_v (v_lt rfl rfl) rfl ?_
  refine rN ?_
  refine tr_seq ?_
  refine tr_ifn rfl (fun hif => ?_) (fun hif => ?_)
  · -- no
    simp only [dT, dF] at hif
    have H := H.congr (rs' := rT (fun _ => 1) vs) (fun j hj => rK_all (by omega))
    refine tr_exit <| q_thn_exit ?_
    refine q_lp_exit ?_
    refine q_blk_hit ?_
    refine q_thn ?_
    refine rG <| rM rfl rfl <| rs_w (w_call (vs := [_]) ok_keyspan_MergingIter_initMinHeap rfl ⟨rfl, trivial⟩ (c_initMinHeap H)) rfl ?_
    rintro _ h3 ⟨rfl, q1, tl1, H, hp, hH, K3⟩
    have KP := KeepP.newX KP K3 (fun y hy => .inl (hbad y (C.kmb y hy).1))
    have O := O.keep K3 C.kmb
    refine rN <| rG <| rM rfl rfl <| rs_w (w_call (vs := [_]) ok_keyspan_MergingIter_findNextFragmentSet rfl ⟨rfl, trivial⟩ (c_findNextFragmentSet C hbad (hl.mono KP.1) ⟨_, _, _, _, _, _, _, _, _, H, O⟩ hp hH (Nat.zero_le _) hFN)) rfl ?_
    rintro r h4 hP
    refine rA rfl rfl <| rN <| tr_ret <| q_ret (res_tmp rfl rfl) ?_
    exact mpost_trans0 hl KP hP
  -- yes
  simp only [dT, dF] at hif
  obtain ⟨v, hv⟩ := ex_get (L := vs) (k := k) (by omega)
  obtain ⟨hlx, hI, hrx⟩ := H.lv k v hv
  obtain ⟨hS, hne, hnb, hAc, hlt⟩ := H.sv v (List.mem_of_getElem? hv)
  have hlv := H.mb.lev hlx
  have hvl := H.vl
  have hit0 : cellH hL2 mi (10 + k * 4 + 0) = some v.it := by rw [← at_it v _]; exact hlv 0 _ rfl
  refine tr_skip ?_
  refine q_thn ?_
  refine tr_seq ?_
  refine tr_block <| rG <| rM rfl rfl <| rA rfl rfl <| rN <| rG <| rM rfl rfl <| rC rfl rfl <| rF fa_keyspan_MergingIter_0 rfl rfl <| rs_v (v_load one_p_keyspan_MergingBuffers rfl (by exact H.mb.b2.cell 0 rfl)) rfl ?_
  refine rC rfl rfl <| rF fa_keyspan_MergingBuffers_1 rfl rfl <| rs_v (v_load one_sl_keyspan_mergingIterLevel rfl (by exact H.b1.cell 1 rfl)) rfl ?_
  refine rM rfl rfl <| rs_v (v_indexAddrE (i := k) u_sl_keyspan_mergingIterLevel siz_keyspan_mergingIterLevel rfl rfl rfl (by omega)) rfl ?_
  refine rF fa_keyspan_mergingIterLevel_0 rfl rfl <| rs_v (v_load one_keyspan_FragmentIterator rfl (by exact hit0)) rfl ?_
  refine rs_w (w_mcall (vs := []) (lv_First hS hI) rfl trivial) rfl ?_
  rintro r h5 ⟨hr, hI1, K5⟩
  have hS1 := hS.stab (H.stab K5 (by simpa using hAc))
  obtain ⟨p, hrp, hpc⟩ := ret_form hS1 (1) (0) (fun _ => rfl)
  rw [hrp] at hr; subst hr
  have M := H.mb.keep K5 (by simpa using fun e => hne e.symm)
  have B1 := K5.blk (by simpa using fun e => hnb e.symm) H.b1
  have Kc := K5
  have KP := KeepP.newX KP K5 (fun y hy => .inl (hbad y (C.kc hv y hy).1))
  have O := O.keep K5 (C.kc hv)
  refine rA rfl rfl <| rN <| rG <| rM rfl rfl <| rs_v (v_peq u_p_keyspan_Span rfl rfl) rfl ?_
  refine rN ?_
  refine tr_if rfl (fun hif => ?_) (fun hif => ?_)
  · -- yes
    obtain ⟨rfl, hno⟩ : p = none ∧ ¬ v.ok (1) := by
      rcases hpc with e | ⟨b, o, x, rfl, _⟩
      · exact e
      · cases hif
    refine tr_reg ?_
    refine rM rfl rfl <| rC rfl rfl <| rF fa_keyspan_MergingIter_0 rfl rfl <| rs_v (v_load one_p_keyspan_MergingBuffers rfl (by exact M.b2.cell 0 rfl)) rfl ?_
    refine rC rfl rfl <| rF fa_keyspan_MergingBuffers_1 rfl rfl <| rs_v (v_load one_sl_keyspan_mergingIterLevel rfl (by exact B1.cell 1 rfl)) rfl ?_
    refine rM rfl rfl <| rs_v (v_build1 rfl (bld_keyspan_boundKey_0 _)) rfl ?_
    refine rs_v (v_indexAddrE (i := k) u_sl_keyspan_mergingIterLevel siz_keyspan_mergingIterLevel rfl rfl rfl (by omega)) rfl ?_
    refine rF fa_keyspan_mergingIterLevel_1 rfl rfl <| rs_w0 (w_store siz_keyspan_boundKey rfl rfl rfl rfl M.b2 (by rw [M.len]; omega)) ?_
    rintro _ h6 ⟨B9, K6⟩
    have M2 := M.setL (it := v.it) hlx (at_it _ _) B9
    have hI2 := hI1.keep K6 (by simpa using hne)
    have KP := KeepP.newX KP K6 (fun y hy => .inl (hbad y (C.kmi y hy).1))
    have O := O.keep K6 C.kmi
    have H := H.step hv (r := 1) (by rw [Lev.at0 hno]; exact M2) hI2 (by omega) ((Kc.sub (by simp)).trans (K6.sub (by simp)))
    refine rs_nil ?_
    refine q_blk_n ?_
    refine q_thn ?_
    refine tr_reg ?_
    refine rs_v (v_add rfl rfl (by omega) (by omega)) rfl ?_
    refine rM rfl rfl ?_
    refine rs_nil ?_
    refine q_lp (vs.length - (k + 1)) [(0, _), (2, _), (14, _), (15, _)] (by omega) ⟨rfl, rfl, rfl, rfl, trivial⟩ ⟨k + 1, _, by omega, rfl, rfl, H.congr (fun j _ => rK_step (f := (fun _ => 1)) hv j), O, KP⟩
  -- no
  obtain ⟨b, o, x, rfl, hok, hx, hsp, hAb, hcs⟩ : ∃ b o x, p = some ⟨b, o, none⟩ ∧ v.ok (1) ∧ v.W[0]? = some x ∧ v.sp (0) = .pointer (some ⟨b, o, none⟩) ∧ A b ∧ CellsAt h5 b o [v.sv (0), v.ev (0), v.kv (0), .int .i8 0] := by
    rcases hpc with ⟨rfl, _⟩ | e
    · cases hif
    · exact e
  obtain ⟨a9, n9, c9, e9⟩ := (hS.nn _ x hx).1
  rw [e9] at hcs
  refine tr_draw [(true, 14), (false, 3)] _ (by kernel_rfl) (by kernel_rfl) (by kernel_rfl) ?_
  refine rx_any Same same_pre ?_
  refine rq_v (v_move rfl) <| rq_v (v_nilCheck_ptr rfl) <| rq_v (v_fieldAddr fa_keyspan_MergingIter_0 rfl) <| rq_v (v_load one_p_keyspan_MergingBuffers rfl (by exact M.b2.cell 0 rfl)) ?_
  refine rq_v (v_nilCheck_ptr rfl) <| rq_v (v_fieldAddr fa_keyspan_MergingBuffers_1 rfl) <| rq_v (v_load one_sl_keyspan_mergingIterLevel rfl (by exact B1.cell 1 rfl)) ?_
  refine rq_v (v_move rfl) <| rq_v (v_move rfl) <| rq_v (v_nilCheck_ptr rfl) <| rq_v (v_fieldAddr fa_keyspan_Span_0 rfl) <| rq_v (v_load one_sl_uint8 rfl (by exact hcs 0 _ rfl)) ?_
  refine rq_v (v_move rfl) <| rq_v (v_build3 rfl rfl rfl (bld_keyspan_boundKey_0_1_2 _ _ _ _ _)) ?_
  refine rm_end ?_; intro ha7 Ka7; simp only [endM, hypF, ofE, argE, List.nil_append]
  have Ka7 : h5 = ha7 := Eq.symm Ka7
  subst Ka7
  refine rx_seq ?_
  refine rs_v (v_indexAddrE (i := k) u_sl_keyspan_mergingIterLevel siz_keyspan_mergingIterLevel rfl rfl rfl (by omega)) rfl ?_
  refine rF fa_keyspan_mergingIterLevel_1 rfl rfl <| rs_w0 (w_store siz_keyspan_boundKey rfl rfl rfl rfl M.b2 (by rw [M.len]; omega)) ?_
  rintro _ h8 ⟨B9, K8⟩
  have M2 := M.setL (it := v.it) hlx (at_it _ _) B9
  have hI2 := hI1.keep K8 (by simpa using hne)
  have KP := KeepP.newX KP K8 (fun y hy => .inl (hbad y (C.kmi y hy).1))
  have O := O.keep K8 C.kmi
  have H := H.step hv (r := 1) (by rw [at_first (by have := (List.getElem?_eq_some_iff.1 hx).1; omega), hsp, e9]; exact M2) hI2 (by omega) ((Kc.sub (by simp)).trans (K8.sub (by simp)))
  refine rs_nil ?_
  refine q_con ?_
  refine rx_nil ?_
  refine q_blk_n ?_
  refine q_thn ?_
  refine tr_reg ?_
  refine rs_v (v_add rfl rfl (by omega) (by omega)) rfl ?_
  refine rM rfl rfl ?_
  refine rs_nil ?_
  refine q_lp (vs.length - (k + 1)) [(0, _), (2, _), (14, _), (15, _)] (by omega) ⟨rfl, rfl, rfl, rfl, trivial⟩ ⟨k + 1, _, by omega, rfl, rfl, H.congr (fun j _ => rK_step (f := (fun _ => 1)) hv j), O, KP⟩
theorem c_MLast {χ : Chi} {A : Nat → Prop} {bf mi sb : Nat} {vs : List Lev} {snap : Nat} {B : List ByteArray} {F : Nat → Prop} {rs : Nat → Nat} {rev : Bool} {dir : Int} {q : List Nat} {st en bv : Value} {h : Heap} (C : MC A bf mi sb vs B) (hbad : ∀ b, badB A bf mi sb vs b → F b) (hl : Low F h) (X : MXt A bf mi sb vs snap F rs rev dir q st en bv h) :
    Cl Tryz.prog χ 177 #[.pointer (some ⟨mi, 0, none⟩)] h (MPost A bf mi sb vs snap B F h (bwdP (covF (wsO vs)) (sgM vs snap B) (posB B.length))) := by
  obtain ⟨s0, s1, s2, s3, kv, L, tl, lk, lb, H, O⟩ := X
  have hFN : FPk (wsO vs) B B.length (rT (fun W => 2 * W.length) vs) := fp_cut C.hB (p := fun _ => true) (fun _ _ _ e => e) (cut_all B) (fun i W hW => by rw [rT_at hW, cut_all_cnt C.hB (p := fun _ => true) (fun _ _ _ e => e) (List.mem_of_getElem? hW) (cut_all B)])
  refine cl_intro Tryz.func177 rfl rfl rfl ?_
  have K : Keep [] h h := Keep.refl _ _
  refine rG <| rA rfl rfl <| rN <| rG <| rM rfl rfl <| rs_w (w_call (vs := [_]) ok_keyspan_MergingIter_invalidate rfl ⟨rfl, trivial⟩ (c_invalidate H)) rfl ?_
  rintro _ h1 ⟨rfl, H, K1⟩
  have KP : KeepP F h h1 := kp_mi C hbad K1
  have O := O.keep K1 C.kmi
  refine rN ?_
  refine tr_seq ?_
  refine rG <| rM rfl rfl <| rC rfl rfl <| rF fa_keyspan_MergingIter_0 rfl rfl <| rs_v (v_load one_p_keyspan_MergingBuffers rfl (by exact H.mb.b2.cell 0 rfl)) rfl ?_
  refine rC rfl rfl <| rF fa_keyspan_MergingBuffers_1 rfl rfl <| rs_v (v_load one_sl_keyspan_mergingIterLevel rfl (by exact H.b1.cell 1 rfl)) rfl ?_
  refine rs_v (v_len u_sl_keyspan_mergingIterLevel rfl) rfl ?_
  refine rM rfl rfl <| rN <| tr_block ?_
  refine tr_loop (fun m E h' => ∃ k L1, k ≤ vs.length ∧ m = vs.length - k ∧ E = [(0, .pointer (some ⟨mi, 0, none⟩)), (2, .pointer none), (14, .int .i64 (vs.length : Int)), (15, .int .i64 (k : Int))] ∧ MG A bf mi vs (rK (fun W => 2 * W.length) vs rs k) kv bv rev (hdC bf st en (.iface 188 (visF sb)) s0 s1 s2 s3 dir) L1 q tl h' ∧ MO A bf mi sb vs snap F kv bv lk lb h' ∧ KeepP F h h') vs.length [(0, _), (2, _), (14, _), (15, _)] ⟨rfl, rfl, rfl, rfl, trivial⟩ ⟨0, L, Nat.zero_le _, rfl, rfl, H.congr (fun j _ => rfl), O, KP⟩ ?_
  rintro m E hL2 ⟨k, L1, hk, rfl, rfl, H, O, KP⟩
  refine rG <| rs_v (v_lt rfl rfl) rfl ?_
  refine rN ?_
  refine tr_seq ?_
  refine tr_ifn rfl (fun hif => ?_) (fun hif => ?_)
  · -- no
    simp only [dT, dF] at hif
    have H := H.congr (rs' := rT (fun W => 2 * W.length) vs) (fun j hj => rK_all (by omega))
    refine tr_exit <| q_thn_exit ?_
    refine q_lp_exit ?_
    refine q_blk_hit ?_
    refine q_thn ?_
    refine rG <| rM rfl rfl <| rs_w (w_call (vs := [_]) ok_keyspan_MergingIter_initMaxHeap rfl ⟨rfl, trivial⟩ (c_initMaxHeap H)) rfl ?_
    rintro _ h3 ⟨rfl, q1, tl1, H, hp, hH, K3⟩
    have KP := KeepP.newX KP K3 (fun y hy => .inl (hbad y (C.kmb y hy).1))
    have O := O.keep K3 C.kmb
    refine rN <| rG <| rM rfl rfl <| rs_w (w_call (vs := [_]) ok_keyspan_MergingIter_findPrevFragmentSet rfl ⟨rfl, trivial⟩ (c_findPrevFragmentSet C hbad (hl.mono KP.1) ⟨_, _, _, _, _, _, _, _, _, H, O⟩ hp hH (Nat.le_refl _) hFN)) rfl ?_
    rintro r h4 hP
    refine rA rfl rfl <| rN <| tr_ret <| q_ret (res_tmp rfl rfl) ?_
    exact mpost_trans0 hl KP hP
  -- yes
  simp only [dT, dF] at hif
  obtain ⟨v, hv⟩ := ex_get (L := vs) (k := k) (by omega)
  obtain ⟨hlx, hI, hrx⟩ := H.lv k v hv
  obtain ⟨hS, hne, hnb, hAc, hlt⟩ := H.sv v (List.mem_of_getElem? hv)
  have hlv := H.mb.lev hlx
  have hvl := H.vl
  have hit0 : cellH hL2 mi (10 + k * 4 + 0) = some v.it := by rw [← at_it v _]; exact hlv 0 _ rfl
  refine tr_skip ?_
  refine q_thn ?_
  refine tr_seq ?_
  refine tr_block <| rG <| rM rfl rfl <| rA rfl rfl <| rN <| rG <| rM rfl rfl <| rC rfl rfl <| rF fa_keyspan_MergingIter_0 rfl rfl <| rs_v (v_load one_p_keyspan_MergingBuffers rfl (by exact H.mb.b2.cell 0 rfl)) rfl ?_
  refine rC rfl rfl <| rF fa_keyspan_MergingBuffers_1 rfl rfl <| rs_v (v_load one_sl_keyspan_mergingIterLevel rfl (by exact H.b1.cell 1 rfl)) rfl ?_
  refine rM rfl rfl <| rs_v (v_indexAddrE (i := k) u_sl_keyspan_mergingIterLevel siz_keyspan_mergingIterLevel rfl rfl rfl (by omega)) rfl ?_
  refine rF fa_keyspan_mergingIterLevel_0 rfl rfl <| rs_v (v_load one_keyspan_FragmentIterator rfl (by exact hit0)) rfl ?_
  refine rs_w (w_mcall (vs := []) (lv_Last hS hI) rfl trivial) rfl ?_
  rintro r h5 ⟨hr, hI1, K5⟩
  have hS1 := hS.stab (H.stab K5 (by simpa using hAc))
  obtain ⟨p, hrp, hpc⟩ := ret_form hS1 (2 * v.W.length) (v.W.length - 1) (fun ho => by have h1 : v.ok (2 * v.W.length) := ho; unfold Lev.ok at h1; omega)
  rw [hrp] at hr; subst hr
  have M := H.mb.keep K5 (by simpa using fun e => hne e.symm)
  have B1 := K5.blk (by simpa using fun e => hnb e.symm) H.b1
  have Kc := K5
  have KP := KeepP.newX KP K5 (fun y hy => .inl (hbad y (C.kc hv y hy).1))
  have O := O.keep K5 (C.kc hv)
  refine rA rfl rfl <| rN <| rG <| rM rfl rfl <| rs_v (v_peq u_p_keyspan_Span rfl rfl) rfl ?_
  refine rN ?_
  refine tr_if rfl (fun hif => ?_) (fun hif => ?_)
  · -- yes
    obtain ⟨rfl, hno⟩ : p = none ∧ ¬ v.ok (2 * v.W.length) := by
      rcases hpc with e | ⟨b, o, x, rfl, _⟩
      · exact e
      · cases hif
    refine tr_reg ?_
    refine rM rfl rfl <| rC rfl rfl <| rF fa_keyspan_MergingIter_0 rfl rfl <| rs_v (v_load one_p_keyspan_MergingBuffers rfl (by exact M.b2.cell 0 rfl)) rfl ?_
    refine rC rfl rfl <| rF fa_keyspan_MergingBuffers_1 rfl rfl <| rs_v (v_load one_sl_keyspan_mergingIterLevel rfl (by exact B1.cell 1 rfl)) rfl ?_
    refine rM rfl rfl <| rs_v (v_build1 rfl (bld_keyspan_boundKey_0 _)) rfl ?_
    refine rs_v (v_indexAddrE (i := k) u_sl_keyspan_mergingIterLevel siz_keyspan_mergingIterLevel rfl rfl rfl (by omega)) rfl ?_
    refine rF fa_keyspan_mergingIterLevel_1 rfl rfl <| rs_w0 (w_store siz_keyspan_boundKey rfl rfl rfl rfl M.b2 (by rw [M.len]; omega)) ?_
    rintro _ h6 ⟨B9, K6⟩
    have M2 := M.setL (it := v.it) hlx (at_it _ _) B9
    have hI2 := hI1.keep K6 (by simpa using hne)
    have KP := KeepP.newX KP K6 (fun y hy => .inl (hbad y (C.kmi y hy).1))
    have O := O.keep K6 C.kmi
    have H := H.step hv (r := 2 * v.W.length) (by rw [Lev.at0 hno]; exact M2) hI2 (by omega) ((Kc.sub (by simp)).trans (K6.sub (by simp)))
    refine rs_nil ?_
    refine q_blk_n ?_
    refine q_thn ?_
    refine tr_reg ?_
    refine rs_v (v_add rfl rfl (by omega) (by omega)) rfl ?_
    refine rM rfl rfl ?_
    refine rs_nil ?_
    refine q_lp (vs.length - (k + 1)) [(0, _), (2, _), (14, _), (15, _)] (by omega) ⟨rfl, rfl, rfl, rfl, trivial⟩ ⟨k + 1, _, by omega, rfl, rfl, H.congr (fun j _ => rK_step (f := (fun W => 2 * W.length)) hv j), O, KP⟩
  -- no
  obtain ⟨b, o, x, rfl, hok, hx, hsp, hAb, hcs⟩ : ∃ b o x, p = some ⟨b, o, none⟩ ∧ v.ok (2 * v.W.length) ∧ v.W[v.W.length - 1]? = some x ∧ v.sp (v.W.length - 1) = .pointer (some ⟨b, o, none⟩) ∧ A b ∧ CellsAt h5 b o [v.sv (v.W.length - 1), v.ev (v.W.length - 1), v.kv (v.W.length - 1), .int .i8 0] := by
    rcases hpc with ⟨rfl, _⟩ | e
    · cases hif
    · exact e
  obtain ⟨a9, n9, c9, e9⟩ := (hS.nn _ x hx).2
  rw [e9] at hcs
  refine tr_draw [(true, 14), (false, 3)] _ (by kernel_rfl) (by kernel_rfl) (by kernel_rfl) ?_
  refine rx_any Same same_pre ?_
  refine rq_v (v_move rfl) <| rq_v (v_nilCheck_ptr rfl) <| rq_v (v_fieldAddr fa_keyspan_MergingIter_0 rfl) <| rq_v (v_load one_p_keyspan_MergingBuffers rfl (by exact M.b2.cell 0 rfl)) ?_
  refine rq_v (v_nilCheck_ptr rfl) <| rq_v (v_fieldAddr fa_keyspan_MergingBuffers_1 rfl) <| rq_v (v_load one_sl_keyspan_mergingIterLevel rfl (by exact B1.cell 1 rfl)) ?_
  refine rq_v (v_move rfl) <| rq_v (v_move rfl) <| rq_v (v_nilCheck_ptr rfl) <| rq_v (v_fieldAddr fa_keyspan_Span_1 rfl) <| rq_v (v_load one_sl_uint8 rfl (by exact hcs 1 _ rfl)) ?_
  refine rq_v (v_move rfl) <| rq_v (v_build3 rfl rfl rfl (bld_keyspan_boundKey_0_1_2 _ _ _ _ _)) ?_
  refine rm_end ?_; intro ha7 Ka7; simp only [endM, hypF, ofE, argE, List.nil_append]
  have Ka7 : h5 = ha7 := Eq.symm Ka7
  subst Ka7
  refine rx_seq ?_
  refine rs_v (v_indexAddrE (i := k) u_sl_keyspan_mergingIterLevel siz_keyspan_mergingIterLevel rfl rfl rfl (by omega)) rfl ?_
  refine rF fa_keyspan_mergingIterLevel_1 rfl rfl <| rs_w0 (w_store siz_keyspan_boundKey rfl rfl rfl rfl M.b2 (by rw [M.len]; omega)) ?_
  rintro _ h8 ⟨B9, K8⟩
  have M2 := M.setL (it := v.it) hlx (at_it _ _) B9
  have hI2 := hI1.keep K8 (by simpa using hne)
  have KP := KeepP.newX KP K8 (fun y hy => .inl (hbad y (C.kmi y hy).1))
  have O := O.keep K8 C.kmi
  have H := H.step hv (r := 2 * v.W.length) (by rw [at_last (by have := (List.getElem?_eq_some_iff.1 hx).1; omega), hsp, e9]; exact M2) hI2 (by omega) ((Kc.sub (by simp)).trans (K8.sub (by simp)))
  refine rs_nil ?_
  refine q_con ?_
  refine rx_nil ?_
  refine q_blk_n ?_
  refine q_thn ?_
  refine tr_reg ?_
  refine rs_v (v_add rfl rfl (by omega) (by omega)) rfl ?_
  refine rM rfl rfl ?_
  refine rs_nil ?_
  refine q_lp (vs.length - (k + 1)) [(0, _), (2, _), (14, _), (15, _)] (by omega) ⟨rfl, rfl, rfl, rfl, trivial⟩ ⟨k + 1, _, by omega, rfl, rfl, H.congr (fun j _ => rK_step (f := (fun W => 2 * W.length)) hv j), O, KP⟩
set_option maxHeartbeats 2000000
theorem MO.ent {A : Nat → Prop} {bf mi sb : Nat} {vs : List Lev} {snap : Nat} {F F1 : Nat → Prop} {kv bv : Value} {lk : List KT} {lb : List UInt8} {h : Heap} (o : MO A bf mi sb vs snap F kv bv lk lb h) (hF : ∀ b, F b → F1 b) : MO A bf mi sb vs snap F1 kv bv lk lb h :=
  ⟨o.k, o.b, o.s, o.d, fun x hx => hF x (o.ok x hx), fun x hx => hF x (o.ob x hx), o.ll⟩
theorem seek_form {A : Nat → Prop} {v : Lev} {h : Heap} (hS : LevS A v h) {c : Prop} [Decidable c] (s : Nat) (hs : ¬ c → s < v.W.length) : ∃ p, (if c then .pointer none else v.sp s) = .pointer p ∧ ((p = none ∧ c) ∨ (∃ b o x, p = some ⟨b, o, none⟩ ∧ ¬ c ∧ v.W[s]? = some x ∧ v.sp s = .pointer (some ⟨b, o, none⟩) ∧ A b ∧ CellsAt h b o [v.sv s, v.ev s, v.kv s, .int .i8 0] ∧ RBytes A h (v.sv s) x.s ∧ RBytes A h (v.ev s) x.e)) := by
  by_cases hc : c
  · rw [if_pos hc]; exact ⟨none, rfl, .inl ⟨rfl, hc⟩⟩
  · rw [if_neg hc]
    obtain ⟨x, hx⟩ := ex_get (L := v.W) (k := s) (hs hc)
    obtain ⟨b, o, ha, hAb, hcs, h1, h2, _⟩ := hS.cells s x hx
    exact ⟨_, lev_pt ha, .inr ⟨b, o + s * 4, x, rfl, hc, hx, lev_pt ha, hAb, hcs, h1, h2⟩⟩
theorem seek_form2 {A : Nat → Prop} {v : Lev} {h : Heap} (hS : LevS A v h) {c : Prop} [Decidable c] (s : Nat) (hs : c → s < v.W.length) : ∃ p, (if c then v.sp s else .pointer none) = .pointer p ∧ ((p = none ∧ ¬ c) ∨ (∃ b o x, p = some ⟨b, o, none⟩ ∧ c ∧ v.W[s]? = some x ∧ v.sp s = .pointer (some ⟨b, o, none⟩) ∧ A b ∧ CellsAt h b o [v.sv s, v.ev s, v.kv s, .int .i8 0] ∧ RBytes A h (v.sv s) x.s ∧ RBytes A h (v.ev s) x.e)) := by
  by_cases hc : c
  · rw [if_pos hc]
    obtain ⟨x, hx⟩ := ex_get (L := v.W) (k := s) (hs hc)
    obtain ⟨b, o, ha, hAb, hcs, h1, h2, _⟩ := hS.cells s x hx
    exact ⟨_, lev_pt ha, .inr ⟨b, o + s * 4, x, rfl, hc, hx, lev_pt ha, hAb, hcs, h1, h2⟩⟩
  · rw [if_neg hc]; exact ⟨none, rfl, .inl ⟨rfl, hc⟩⟩
theorem seek_noE {vs : List Lev} {rs : Nat → Nat} {y : Nat} {q : List Nat} {w : Lev} {key : ByteArray} (hO : ∀ v, v ∈ vs → Tess.Ord v.W) (hp : (y :: q).Perm (validQ vs rs vs.length)) (hH : HFrom (hlO false vs rs) (y :: q).length 0 (y :: q)) (hw : vs[y]? = some w) (hrs : ∀ (i : Nat) W, (wsO vs)[i]? = some W → rs i = tS W key + 1)
    (hn : ¬ ((w.at (rs y)).kind = 1 ∧ bkW w.W (rs y) = key)) : ∀ (i : Nat) W, (wsO vs)[i]? = some W → tS W key = cE W key := fun i W hW => by
  obtain ⟨v, hv, rfl⟩ := wsO_inv hW
  refine tS_eqE (hO v (List.mem_of_getElem? hv)) fun hle => ?_
  rcases tS_b (hO v (List.mem_of_getElem? hv)) key hle with h1 | ⟨h1, _⟩
  · exact h1
  · exfalso
    obtain ⟨w', hw', how⟩ := root_ok hp
    rw [hw] at hw'; cases hw'
    have hi := hrs i v.W hW
    have hy := hrs y w.W (wsO_at hw)
    have h2 := root_min hp hH hw hv (show v.ok (rs i) by unfold Lev.ok; omega)
    rw [hi, h1] at h2
    have hok := how
    unfold Lev.ok at hok
    rcases tS_b (hO w (List.mem_of_getElem? hw)) key (by omega) with h3 | ⟨h3, h4⟩
    · rw [← hy] at h3
      have := slt_of_slt_sle h3 h2
      rw [slt_irr] at this; cases this
    · exact hn ⟨by rw [at_kd how, if_pos (by omega)], by rw [hy]; exact h3⟩
theorem seek_noL {vs : List Lev} {rs : Nat → Nat} {y : Nat} {q : List Nat} {w : Lev} {key : ByteArray} (hO : ∀ v, v ∈ vs → Tess.Ord v.W) (hp : (y :: q).Perm (validQ vs rs vs.length)) (hH : HFrom (hlO true vs rs) (y :: q).length 0 (y :: q)) (hw : vs[y]? = some w) (hrs : ∀ (i : Nat) W, (wsO vs)[i]? = some W → rs i = tS W key)
    (hn : ¬ ((w.at (rs y)).kind = 2 ∧ bkW w.W (rs y) = key)) : ∀ (i : Nat) W, (wsO vs)[i]? = some W → tS W key = cL W key := fun i W hW => by
  obtain ⟨v, hv, rfl⟩ := wsO_inv hW
  refine tS_eqL (hO v (List.mem_of_getElem? hv)) fun hle => ?_
  rcases tS_a (hO v (List.mem_of_getElem? hv)) key hle with h1 | ⟨h1, _⟩
  · exact h1
  · exfalso
    obtain ⟨w', hw', how⟩ := root_ok hp
    rw [hw] at hw'; cases hw'
    have hi := hrs i v.W hW
    have hy := hrs y w.W (wsO_at hw)
    have h2 := root_max hp hH hw hv (show v.ok (rs i) by rw [hi]; exact ⟨hle, tS_le _ _⟩)
    rw [hi, h1] at h2
    have hok := how
    unfold Lev.ok at hok
    rcases tS_a (hO w (List.mem_of_getElem? hw)) key (by omega) with h3 | ⟨h3, h4⟩
    · rw [← hy] at h3
      have := slt_of_slt_sle h3 h2
      rw [slt_irr] at this; cases this
    · exact hn ⟨by rw [at_kd how, if_neg (by omega)], by rw [hy]; exact h3⟩
theorem seek_yesE {vs : List Lev} {B : List ByteArray} {kf : ByteArray → List KeyD} {rs : Nat → Nat} {y : Nat} {w : Lev} {key : ByteArray} (hB : Bnds (wsO vs) B) (hw : vs[y]? = some w) (how : w.ok (rs y)) (hrs : ∀ (i : Nat) W, (wsO vs)[i]? = some W → rs i = tS W key + 1) (he : bkW w.W (rs y) = key) :
    ∃ k, k ≤ B.length ∧ FNk (wsO vs) B k rs ∧ pGE (segs B kf) key = posF B k := by
  obtain ⟨k, hk, e⟩ := hB.idx (hB.mem w.W (rs y) (List.mem_of_getElem? (wsO_at hw)) how.1 how.2)
  rw [he] at e
  refine ⟨k, by omega, ?_, ?_⟩
  · unfold FNk
    rw [if_pos hk]
    refine ⟨fun i W hW => ?_, y, w.W, wsO_at hw, how.1, how.2, by rw [he, e]⟩
    have h1 := tS_cL (hB.ord W (List.mem_of_getElem? hW)) key
    have h2 := tS_cE (hB.ord W (List.mem_of_getElem? hW)) key
    rw [hrs i W hW, e]; omega
  · have := pGE_cut (kf := kf) (key := atB B k) (cut_le hB hk)
    rw [e] at this
    exact this
theorem seek_yesL {vs : List Lev} {B : List ByteArray} {kf : ByteArray → List KeyD} {rs : Nat → Nat} {y : Nat} {w : Lev} {key : ByteArray} (hB : Bnds (wsO vs) B) (hw : vs[y]? = some w) (how : w.ok (rs y)) (hrs : ∀ (i : Nat) W, (wsO vs)[i]? = some W → rs i = tS W key) (he : bkW w.W (rs y) = key) :
    ∃ k, k ≤ B.length ∧ FPk (wsO vs) B k rs ∧ pLT (segs B kf) key = posB k := by
  obtain ⟨k, hk, e⟩ := hB.idx (hB.mem w.W (rs y) (List.mem_of_getElem? (wsO_at hw)) how.1 how.2)
  rw [he] at e
  refine ⟨k + 1, by omega, ?_, ?_⟩
  · unfold FPk
    rw [if_pos (by omega), Nat.add_sub_cancel]
    refine ⟨fun i W hW => ?_, y, w.W, wsO_at hw, how.1, how.2, by rw [he, e]⟩
    have h1 := tS_cL (hB.ord W (List.mem_of_getElem? hW)) key
    have h2 := tS_cE (hB.ord W (List.mem_of_getElem? hW)) key
    rw [hrs i W hW, e]; omega
  · have := pLT_cut (kf := kf) (key := atB B k) (cut_lt hB hk)
    rw [e, show min (k + 1) B.length = k + 1 from by omega] at this
    exact this
theorem MG.nAall {A : Nat → Prop} {bf mi : Nat} {vs : List Lev} {rs : Nat → Nat} {kv bv : Value} {rev : Bool} {hd tl : List Value} {L : List LvD} {q : List Nat} {h : Heap} (H : MG A bf mi vs rs kv bv rev hd L q tl h) : ∀ x, x ∈ [mi, bf] ++ lvB vs → ¬ A x := fun x hx => by
  rcases List.mem_append.1 hx with hx | hx
  · simp only [List.mem_cons, List.mem_nil_iff, or_false] at hx
    rcases hx with rfl | rfl
    · exact H.nA.2
    · exact H.nA.1
  · obtain ⟨v, hv, rfl⟩ := List.mem_map.1 hx
    exact (H.sv v hv).2.2.2.1
theorem c_mcmp2 {χ : Chi} {bf mi : Nat} {kv lv bv it st en tr s0 s1 s2 s3 : Value} {rev : Bool} {dir : Int} {L : List LvD} {q : List Nat} {tl : List Value} {h : Heap} (M : MB mi (hdC bf st en tr s0 s1 s2 s3 dir) L q tl h) (B1 : Blk h bf [kv, lv, cmpF, .bool rev, it, bv] 116) {a b : Value} {u w : ByteArray} (ha : RBy h a u) (hb : RBy h b w) :
    Cl Tryz.prog χ 128 #[.pointer (some ⟨mi, 0, none⟩), a, b] h (fun r h' => r = .int .i64 (cmpB u w) ∧ h' = h) := by
  refine cl_intro Tryz.func128 rfl rfl rfl ?_
  have K : Keep [] h h := Keep.refl _ _
  refine rG <| rA rfl rfl <| rN <| rG <| rM rfl rfl <| rC rfl rfl <| rF fa_keyspan_MergingIter_0 rfl rfl <| rs_v (v_load one_p_keyspan_MergingBuffers rfl (by exact M.b2.cell 0 rfl)) rfl ?_
  refine rC rfl rfl <| rF fa_keyspan_MergingBuffers_2 rfl rfl <| rF fa_keyspan_mergingIterHeap_0 rfl rfl <| rs_v (v_load one_base_Compare rfl (by exact B1.cell 2 rfl)) rfl ?_
  refine rM rfl rfl <| rM rfl rfl <| rs_w (w_callv (first := []) (cap := []) (vs := [_, _]) ok_bytes_Compare rfl ⟨rfl, rfl, trivial⟩ (c_Compare χ _ _ _ u w ha hb)) rfl ?_
  rintro _ h1 ⟨rfl, hsame⟩; have hsame := hsame.symm; subst hsame
  refine rA rfl rfl <| rN <| tr_ret <| q_ret (res_tmp rfl rfl) ?_
  exact ⟨rfl, rfl⟩
set_option maxHeartbeats 4000000
theorem c_MSeekGE {χ : Chi} {A : Nat → Prop} {bf mi sb : Nat} {vs : List Lev} {snap : Nat} {B : List ByteArray} {F : Nat → Prop} {rs : Nat → Nat} {rev : Bool} {dir : Int} {q : List Nat} {st en bv : Value} {h : Heap} {kv0 : Value} {key : ByteArray} (C : MC A bf mi sb vs B) (hbad : ∀ b, badB A bf mi sb vs b → F b) (hl : Low F h) (X : MXt A bf mi sb vs snap F rs rev dir q st en bv h) (hkey : RBytes (fun b => ¬ F b) h kv0 key) :
    Cl Tryz.prog χ 179 #[.pointer (some ⟨mi, 0, none⟩), kv0] h (MPost A bf mi sb vs snap B F h (fwdP (covF (wsO vs)) (sgM vs snap B) (pGE (sgM vs snap B) key))) := by
  obtain ⟨s0, s1, s2, s3, kv1, L, tl, lk1, lb1, H, O⟩ := X
  have hkey0 := RBytes.lowen hkey
  refine cl_intro Tryz.func179 rfl rfl rfl ?_
  have K : Keep [] h h := Keep.refl _ _
  refine rG <| rA rfl rfl <| rN <| rG <| rM rfl rfl <| rs_w (w_call (vs := [_]) ok_keyspan_MergingIter_invalidate rfl ⟨rfl, trivial⟩ (c_invalidate H)) rfl ?_
  rintro _ h1 ⟨rfl, H, K1⟩
  have KP : KeepP F h h1 := kp_mi C hbad K1
  have O := O.keep K1 C.kmi
  refine rN ?_
  refine tr_seq ?_
  refine rG <| rM rfl rfl <| rC rfl rfl <| rF fa_keyspan_MergingIter_0 rfl rfl <| rs_v (v_load one_p_keyspan_MergingBuffers rfl (by exact H.mb.b2.cell 0 rfl)) rfl ?_
  refine rC rfl rfl <| rF fa_keyspan_MergingBuffers_1 rfl rfl <| rs_v (v_load one_sl_keyspan_mergingIterLevel rfl (by exact H.b1.cell 1 rfl)) rfl ?_
  refine rs_v (v_len u_sl_keyspan_mergingIterLevel rfl) rfl ?_
  refine rM rfl rfl <| rN <| tr_block ?_
  refine tr_loop (fun m E h' => ∃ k L1, k ≤ vs.length ∧ m = vs.length - k ∧ E = [(0, .pointer (some ⟨mi, 0, none⟩)), (1, kv0), (4, .pointer none), (19, .int .i64 (vs.length : Int)), (20, .int .i64 (k : Int))] ∧ MG A bf mi vs (rK (fun W => tS W key) vs rs k) kv1 bv rev (hdC bf st en (.iface 188 (visF sb)) s0 s1 s2 s3 dir) L1 q tl h' ∧ MO A bf mi sb vs snap F kv1 bv lk1 lb1 h' ∧ KeepP F h h') vs.length [(0, _), (1, _), (4, _), (19, _), (20, _)] ⟨rfl, rfl, rfl, rfl, rfl, trivial⟩ ⟨0, L, Nat.zero_le _, rfl, rfl, H.congr (fun j _ => rfl), O, KP⟩ ?_
  rintro m E hL2 ⟨k, L1, hk, rfl, rfl, H, O, KP⟩
  refine rG <| rs_v (v_lt rfl rfl) rfl ?_
  refine rN ?_
  refine tr_seq ?_
  refine tr_ifn rfl (fun hif => ?_) (fun hif => ?_)
  · -- no
    simp only [dT, dF] at hif
    have H := H.congr (rs' := rT (fun W => tS W key) vs) (fun j hj => rK_all (by omega))
    have hrs1 : ∀ (i : Nat) W, (wsO vs)[i]? = some W → rT (fun W => tS W key) vs i = tS W key := fun i W hW => rT_at hW
    generalize rT (fun W => tS W key) vs = rs1 at H hrs1
    have hrb : ∀ (i : Nat) v, vs[i]? = some v → rs1 i ≤ 2 * v.W.length := fun i v hv => by rw [hrs1 i v.W (wsO_at hv)]; exact tS_le _ _
    refine tr_exit <| q_thn_exit ?_
    refine q_lp_exit ?_
    refine q_blk_hit ?_
    refine q_thn ?_
    refine rG <| rM rfl rfl <| rs_w (w_call (vs := [_]) ok_keyspan_MergingIter_initMaxHeap rfl ⟨rfl, trivial⟩ (c_initMaxHeap H)) rfl ?_
    rintro _ h3 ⟨rfl, q1, tl1, H, hp, hH, K3⟩
    have KP := KeepP.newX KP K3 (fun y hy => .inl (hbad y (C.kmb y hy).1))
    have O := (O.keep K3 C.kmb).ent (F1 := (fun b => F b ∨ h.size ≤ b)) (fun b hb => .inl hb)
    have hq1 := q_lt hp
    refine rN ?_
    refine tr_seq ?_
    refine rG <| rM rfl rfl <| rC rfl rfl <| rF fa_keyspan_MergingIter_5 rfl rfl <| rs_v (v_load one_error rfl (by exact H.mb.b2.cell 8 rfl)) rfl ?_
    refine rs_v (v_ine_nil isi_error rfl rfl) rfl ?_
    refine rN <| tr_if_f rfl ?_
    refine rG <| rM rfl rfl <| rC rfl rfl <| rF fa_keyspan_MergingIter_0 rfl rfl <| rs_v (v_load one_p_keyspan_MergingBuffers rfl (by exact H.mb.b2.cell 0 rfl)) rfl ?_
    refine rC rfl rfl <| rF fa_keyspan_MergingBuffers_2 rfl rfl <| rF fa_keyspan_mergingIterHeap_2 rfl rfl <| rs_v (v_load one_sl_keyspan_mergingIterItem rfl (by exact H.b1.cell 4 rfl)) rfl ?_
    refine rs_v (v_len u_sl_keyspan_mergingIterItem rfl) rfl ?_
    refine rs_v (v_eq rfl rfl) rfl ?_
    refine rN ?_
    refine tr_if rfl (fun hif => ?_) (fun hif => ?_)
    · -- yes
      have hq0 : q1 = [] := List.eq_nil_of_length_eq_zero (by have := of_decide_eq_true hif; omega)
      subst hq0
      have hts0 : ∀ (i : Nat) W, (wsO vs)[i]? = some W → tS W key = 0 := fun i W hW => by
        have h1 := q_none hp rfl i W hW
        rw [hrs1 i W hW] at h1
        have := tS_le W key; omega
      have hFN : FNk (wsO vs) B 0 (fun j => rs1 j + 1) := fn_cut C.hB (p := fun _ => false) (fun _ _ _ e => e) (cut_none B) (fun i W hW => by show rs1 i + 1 = _; rw [hrs1 i W hW, hts0 i W hW, cut_none_cnt C.hB (p := fun _ => false) (fun _ _ _ e => e) (List.mem_of_getElem? hW) (cut_none B)])
      refine rG <| rM rfl rfl <| rs_w (w_call (vs := [_]) ok_keyspan_MergingIter_switchToMinHeap rfl ⟨rfl, trivial⟩ (c_switchToMinHeap H hrb)) rfl ?_
      rintro _ h4 ⟨rfl, L3, q3, tl3, H, hp3, hH3, K4⟩
      have KP := KeepP.newX KP K4 (fun y hy => .inl (hbad y (C.kall y hy).1))
      have O := O.keep K4 C.kall
      refine rN <| rG <| rM rfl rfl <| rs_w (w_call (vs := [_]) ok_keyspan_MergingIter_findNextFragmentSet rfl ⟨rfl, trivial⟩ (c_findNextFragmentSet (F := FU F h _) C (fun b hb => .inl (hbad b hb)) (fu_low hl KP) (MXt.fu ⟨_, _, _, _, _, _, _, _, _, H, O⟩) hp3 hH3 (Nat.zero_le _) hFN)) rfl ?_
      rintro r h5 hP
      refine rA rfl rfl <| rN <| tr_ret <| q_thn_ret <| q_ret (res_tmp rfl rfl) ?_
      rw [pGE_none C.hB hts0]
      exact mpost_trans hl KP (fun b hb => hb) hP
    -- no
    obtain ⟨x, q2, rfl⟩ : ∃ x q2, q1 = x :: q2 := by
      cases q1 with
      | nil => exact absurd rfl (of_decide_eq_false hif)
      | cons a b => exact ⟨a, b, rfl⟩
    obtain ⟨v, hv, hok⟩ := root_ok hp
    have hvm := List.mem_of_getElem? hv
    obtain ⟨a5, n5, c5, ek5⟩ := at_nn (H.sv v hvm).1 hok
    have hlen : (bkW v.W (rs1 x)).data.toList.length ≤ 100000000000 := C.bl _ (C.hB.mem v.W (rs1 x) (List.mem_of_getElem? (wsO_at hv)) hok.1 hok.2)
    have hit := (H.hs hq1).item (i := 0) (x := x) rfl
    have hlv := H.mb.lev (H.lv x v hv).1
    have hkey : cellH h3 mi (10 + x * 4 + 1 + 1) = some (.slice (some a5) n5 c5) := by rw [← ek5]; exact hlv 2 _ rfl
    have hkb : RBytes A h3 (.slice (some a5) n5 c5) (bkW v.W (rs1 x)) := by rw [← ek5]; exact bk_key (H.sv v (List.mem_of_getElem? hv)).1 _
    refine tr_skip ?_
    refine q_thn ?_
    refine rG <| rM rfl rfl <| rM rfl rfl <| rC rfl rfl <| rF fa_keyspan_MergingIter_0 rfl rfl <| rs_v (v_load one_p_keyspan_MergingBuffers rfl (by exact H.mb.b2.cell 0 rfl)) rfl ?_
    refine rC rfl rfl <| rF fa_keyspan_MergingBuffers_2 rfl rfl <| rF fa_keyspan_mergingIterHeap_2 rfl rfl <| rs_v (v_load one_sl_keyspan_mergingIterItem rfl (by exact H.b1.cell 4 rfl)) rfl ?_
    refine rs_v (v_indexAddrE (i := 0) u_sl_keyspan_mergingIterItem siz_keyspan_mergingIterItem rfl rfl rfl (Nat.succ_pos _)) rfl ?_
    refine rF fa_keyspan_mergingIterItem_0 rfl rfl <| rs_v (v_load one_p_keyspan_boundKey rfl (by exact hit 0 _ rfl)) rfl ?_
    refine rC rfl rfl <| rF fa_keyspan_boundKey_1 rfl rfl <| rs_v (v_load one_sl_uint8 rfl (by exact hkey)) rfl ?_
    refine rC rfl rfl <| rF fa_keyspan_MergingIter_1 rfl rfl <| rs_w0 (w_store siz_sl_uint8 rfl rfl rfl rfl H.mb.b2 (by rw [H.mb.len]; omega)) ?_
    rintro _ h6 ⟨B9, K6⟩
    have KP := KeepP.newX KP K6 (fun y hy => .inl (hbad y (C.kmi y hy).1))
    have H := H.hdr (hd' := hdC bf (.slice (some a5) n5 c5) en (.iface 188 (visF sb)) s0 s1 s2 s3 (-1)) (by rw [mi_putH (show (2 : Nat) ≤ 10 by omega)] at B9; exact B9) rfl K6
    have O := O.keep K6 C.kmi
    have hit := (H.hs hq1).item (i := 0) (x := x) rfl
    have hlv := H.mb.lev (H.lv x v hv).1
    have hkey : cellH h6 mi (10 + x * 4 + 1 + 1) = some (.slice (some a5) n5 c5) := by rw [← ek5]; exact hlv 2 _ rfl
    have hkb : RBytes A h6 (.slice (some a5) n5 c5) (bkW v.W (rs1 x)) := by rw [← ek5]; exact bk_key (H.sv v (List.mem_of_getElem? hv)).1 _
    refine rN ?_
    refine tr_cut (fun E h' => ∃ st2 bv2, E = [(0, .pointer (some ⟨mi, 0, none⟩)), (1, kv0), (4, .pointer none)] ∧ MXt A bf mi sb vs snap (fun b => F b ∨ h.size ≤ b) rs1 true (-1) (x :: q2) st2 en bv2 h' ∧ RBytes (fun b => A b ∨ b ∈ bv2.ownBlock.toList) h' st2 (bkW v.W (rs1 x)) ∧ NN st2 ∧ KeepP F h h') ?_ ?_
    ·
      refine rG <| rM rfl rfl <| rC rfl rfl <| rF fa_keyspan_MergingIter_0 rfl rfl <| rs_v (v_load one_p_keyspan_MergingBuffers rfl (by exact H.mb.b2.cell 0 rfl)) rfl ?_
      refine rC rfl rfl <| rF fa_keyspan_MergingBuffers_2 rfl rfl <| rF fa_keyspan_mergingIterHeap_2 rfl rfl <| rs_v (v_load one_sl_keyspan_mergingIterItem rfl (by exact H.b1.cell 4 rfl)) rfl ?_
      refine rs_v (v_indexAddrE (i := 0) u_sl_keyspan_mergingIterItem siz_keyspan_mergingIterItem rfl rfl rfl (Nat.succ_pos _)) rfl ?_
      refine rF fa_keyspan_mergingIterItem_0 rfl rfl <| rs_v (v_load one_p_keyspan_boundKey rfl (by exact hit 0 _ rfl)) rfl ?_
      refine rC rfl rfl <| rF fa_keyspan_boundKey_0 rfl rfl <| rs_v (v_load one_keyspan_boundKind rfl (by exact hlv 1 _ rfl)) rfl ?_
      refine rs_v (v_eq rfl rfl) rfl ?_
      refine rN ?_
      refine tr_if rfl (fun hif => ?_) (fun hif => ?_)
      · -- yes
        have hkd : (v.at (rs1 x)).kind = 2 := of_decide_eq_true hif
        obtain ⟨ab, cb, rfl⟩ := O.b.slice
        have O0 := O
        refine tr_seq ?_
        have hmiX : mi ∉ (.slice ab lb1.length cb : Value).ownBlock.toList := fun hx => O.b.2 _ hx (.inr (.inr (.inl rfl)))
        have hbfX : bf ∉ (.slice ab lb1.length cb : Value).ownBlock.toList := fun hx => O.b.2 _ hx (.inr (.inl rfl))
        refine tr_draw [(true, 17), (false, 3)] _ (by kernel_rfl) (by kernel_rfl) (by kernel_rfl) ?_
        refine rx_big (Keep []) (Keep (.slice ab lb1.length cb : Value).ownBlock.toList) (keep_pre _) (keep_pre _) (fun _ _ k => k.any) ?_
        refine rb_v (keep_pre _) (fun h' hk => v_move rfl) ?_
        refine rb_v (keep_pre _) (fun h' hk => v_nilCheck_ptr rfl) ?_
        refine rb_v (keep_pre _) (fun h' hk => v_fieldAddr fa_keyspan_MergingIter_0 rfl) ?_
        refine rb_v (keep_pre _) (fun h' hk => v_load one_p_keyspan_MergingBuffers rfl (Blk.cell (hk.blk hmiX H.mb.b2) 0 rfl)) ?_
        refine rb_v (keep_pre _) (fun h' hk => v_move rfl) ?_
        refine rb_v (keep_pre _) (fun h' hk => v_nilCheck_ptr rfl) ?_
        refine rb_v (keep_pre _) (fun h' hk => v_fieldAddr fa_keyspan_MergingIter_0 rfl) ?_
        refine rb_v (keep_pre _) (fun h' hk => v_load one_p_keyspan_MergingBuffers rfl (Blk.cell (hk.blk hmiX H.mb.b2) 0 rfl)) ?_
        refine rb_v (keep_pre _) (fun h' hk => v_nilCheck_ptr rfl) ?_
        refine rb_v (keep_pre _) (fun h' hk => v_fieldAddr fa_keyspan_MergingBuffers_3 rfl) ?_
        refine rb_v (keep_pre _) (fun h' hk => v_load one_sl_uint8 rfl (Blk.cell (hk.blk hbfX H.b1) 5 rfl)) ?_
        refine rb_v (keep_pre _) (fun h' hk => v_slice_h u_sl_uint8 siz_uint8 (i := 0) rfl rfl rfl (Nat.zero_le _)) ?_
        refine rb_v (keep_pre _) (fun h' hk => v_move rfl) ?_
        refine rb_v (keep_pre _) (fun h' hk => v_nilCheck_ptr rfl) ?_
        refine rb_v (keep_pre _) (fun h' hk => v_fieldAddr fa_keyspan_MergingIter_1 rfl) ?_
        refine rb_v (keep_pre _) (fun h' hk => v_load one_sl_uint8 rfl (Blk.cell (hk.blk hmiX H.mb.b2) 1 rfl)) ?_
        refine rb_big (fun v' h' => BW (badB A bf mi sb vs) v' (bkW v.W (rs1 x)).data.toList h' ∧ (v'.ownBlock = (.slice ab lb1.length cb : Value).ownBlock ∨ ∃ z, v'.ownBlock = some z ∧ h6.size ≤ z)) (fun v _ _ k1 k2 hr => ⟨hr.1.keep k2 (by simp), hr.2⟩)
          (fun h' hk => OpW.mono (w_appBW rfl rfl (O.b.cut.keep hk (by simp)) (hkb.stab (hk.st H.low)) hlen (fun y hy => Nat.lt_of_lt_of_le (H.bad_lt O.s.lt y hy) hk.1)) (fun v h'' hv => ⟨by rw [own_block0 (m2 := lb1.length) (c2 := cb)] at hv; exact hv.2.1, hv.1, by
            rw [own_block0 (m2 := lb1.length) (c2 := cb)] at hv
            exact hv.2.2.imp id (fun e => ⟨_, e, hk.1⟩)⟩)) ?_
        refine rb_end ?_; intro ha Ka; simp only [endM, hypF, ofE, argE, List.nil_append]
        rintro v57 ⟨H3, he⟩
        obtain ⟨ab2, cb2, rfl⟩ := H3.slice
        have H := H.keep Ka (fun y hy => ⟨fun e => O.b.2 y hy (.inl e), fun e => O.b.2 y hy (.inr (.inl e)), fun e => O.b.2 y hy (.inr (.inr (.inl e))), fun v hv e => O.b.2 y hy (.inr (.inr (.inr (.inr ⟨v, hv, e⟩))))⟩)
        have O := O.app C Ka H3 (fun y hy => by
          rcases he with e | ⟨z, e, hz⟩
          · rw [e] at hy; exact .inl hy
          · rw [e] at hy; simp at hy; exact .inr (by omega)) (fun y hy => .inr (by have := KP.1; omega))
        have KP := KeepP.newX KP Ka (fun y hy => O0.ob y hy)
        refine rx_seq ?_
        refine rC rfl rfl <| rF fa_keyspan_MergingBuffers_3 rfl rfl <| rs_w0 (w_put siz_sl_uint8 rfl rfl rfl rfl H.b1 rfl) ?_
        rintro _ h7 ⟨B, K9⟩
        have KP := KeepP.newX KP K9 (fun y hy => .inl (hbad y (C.kbf y hy).1))
        have H := H.both (q' := x :: q2) (tl' := tl1) (kv' := kv1) (rev' := true) B (K9.blk (by simpa using fun e => H.ne e.symm) H.mb.b2) H.mb.hdl H.mb.ql (K9.sub (by simp))
        have O := O.keep K9 C.kbf
        refine rs_nil ?_
        refine q_con ?_
        refine rx_nil ?_
        refine q_thn ?_
        refine tr_reg ?_
        refine rM rfl rfl <| rM rfl rfl <| rC rfl rfl <| rF fa_keyspan_MergingIter_0 rfl rfl <| rs_v (v_load one_p_keyspan_MergingBuffers rfl (by exact H.mb.b2.cell 0 rfl)) rfl ?_
        refine rC rfl rfl <| rF fa_keyspan_MergingBuffers_3 rfl rfl <| rs_v (v_load one_sl_uint8 rfl (by exact H.b1.cell 5 rfl)) rfl ?_
        refine rC rfl rfl <| rF fa_keyspan_MergingIter_1 rfl rfl <| rs_w0 (w_store siz_sl_uint8 rfl rfl rfl rfl H.mb.b2 (by rw [H.mb.len]; omega)) ?_
        rintro _ h8 ⟨B9, K8⟩
        have KP := KeepP.newX KP K8 (fun y hy => .inl (hbad y (C.kmi y hy).1))
        have H := H.hdr (hd' := hdC bf (.slice ab2 (bkW v.W (rs1 x)).data.toList.length cb2) en (.iface 188 (visF sb)) s0 s1 s2 s3 (-1)) (by rw [mi_putH (show (2 : Nat) ≤ 10 by omega)] at B9; exact B9) rfl K8
        have O := O.keep K8 C.kmi
        have hst9 : RBytes (fun b => A b ∨ b ∈ (.slice ab2 (bkW v.W (rs1 x)).data.toList.length cb2 : Value).ownBlock.toList) h8 (.slice ab2 (bkW v.W (rs1 x)).data.toList.length cb2) (bkW v.W (rs1 x)) := O.b.bytes (by omega) (fun y hy => .inr hy)
        refine rs_nil ?_
        exact q_cut [(0, _), (1, _), (4, _)] ⟨rfl, rfl, rfl, trivial⟩ ⟨_, _, rfl, ⟨_, _, _, _, _, _, _, _, _, H, O⟩, hst9, (end_pos (C.ord v hvm) hok hkd hst9), KP⟩
      -- no
      skip
      refine tr_skip ?_
      exact q_cut [(0, _), (1, _), (4, _)] ⟨rfl, rfl, rfl, trivial⟩ ⟨_, _, rfl, ⟨_, _, _, _, _, _, _, _, _, H, O⟩, hkb.mono (fun b hb => .inl hb), ⟨_, _, _, rfl⟩, KP⟩
    rintro E h98 ⟨st2, bv2, rfl, X, hst, hstn, KP⟩
    obtain ⟨s0, s1, s2, s3, kv2, L2, tl2, lk2, lb2, H, O⟩ := X
    obtain ⟨a7, n7, c7, rfl⟩ := hstn
    refine rG <| rM rfl rfl <| rs_w (w_call (vs := [_]) ok_keyspan_MergingIter_switchToMinHeap rfl ⟨rfl, trivial⟩ (c_switchToMinHeap H hrb)) rfl ?_
    rintro _ h10 ⟨rfl, L3, q4, tl3, H', hp4, hH4, K10⟩
    have hst := st_keep H O hst K10 C.kall H.nAall
    have H := H'
    have KP := KeepP.newX KP K10 (fun y hy => .inl (hbad y (C.kall y hy).1))
    have O := O.keep K10 C.kall
    have hq4 := q_lt hp4
    generalize hrs4e : (fun j => rs1 j + 1) = rs4 at H hp4 hH4
    have hrs4 : ∀ (i : Nat) W, (wsO vs)[i]? = some W → rs4 i = tS W key + 1 := fun i W hW => by
      have h1 := hrs1 i W hW
      rw [← hrs4e]
      show rs1 i + 1 = _
      omega
    have hkyb := hkey0.stab (fun b hb => KP.2 b hb.2 hb.1)
    refine rN ?_
    refine tr_seq ?_
    refine rG <| rM rfl rfl <| rC rfl rfl <| rF fa_keyspan_MergingIter_5 rfl rfl <| rs_v (v_load one_error rfl (by exact H.mb.b2.cell 8 rfl)) rfl ?_
    refine rs_v (v_ine_nil isi_error rfl rfl) rfl ?_
    refine rN <| tr_if_f rfl ?_
    refine rG <| rM rfl rfl <| rC rfl rfl <| rF fa_keyspan_MergingIter_0 rfl rfl <| rs_v (v_load one_p_keyspan_MergingBuffers rfl (by exact H.mb.b2.cell 0 rfl)) rfl ?_
    refine rC rfl rfl <| rF fa_keyspan_MergingBuffers_2 rfl rfl <| rF fa_keyspan_mergingIterHeap_2 rfl rfl <| rs_v (v_load one_sl_keyspan_mergingIterItem rfl (by exact H.b1.cell 4 rfl)) rfl ?_
    refine rs_v (v_len u_sl_keyspan_mergingIterItem rfl) rfl ?_
    refine rs_v (v_eq rfl rfl) rfl ?_
    refine rN ?_
    refine tr_if rfl (fun hif => ?_) (fun hif => ?_)
    · -- yes
      have hq0 : q4 = [] := List.eq_nil_of_length_eq_zero (by have := of_decide_eq_true hif; omega)
      subst hq0
      have hts0 : ∀ (i : Nat) W, (wsO vs)[i]? = some W → tS W key = 2 * W.length := fun i W hW => by
        have h1 := q_none hp4 rfl i W hW
        rw [hrs4 i W hW] at h1
        have := tS_le W key; omega
      refine rG <| rA rfl rfl <| rN <| tr_ret <| q_thn_ret <| q_ret (res_tmp rfl rfl) ?_
      rw [pGE_all C.hB hts0]
      exact mpost_behind hbad hl KP ⟨_, _, _, _, _, _, _, _, _, H, O⟩ hp4 hH4 (fun i W hW => by rw [hrs4 i W hW, hts0 i W hW]) rfl
    -- no
    obtain ⟨y, q5, rfl⟩ : ∃ y q5, q4 = y :: q5 := by
      cases q4 with
      | nil => exact absurd rfl (of_decide_eq_false hif)
      | cons a b => exact ⟨a, b, rfl⟩
    obtain ⟨w, hw, how⟩ := root_ok hp4
    obtain ⟨a6, n6, c6, ek6⟩ := at_nn (H.sv w (List.mem_of_getElem? hw)).1 how
    have hit6 := (H.hs hq4).item (i := 0) (x := y) rfl
    have hlv6 := H.mb.lev (H.lv y w hw).1
    have hkey6 : cellH h10 mi (10 + y * 4 + 1 + 1) = some (.slice (some a6) n6 c6) := by rw [← ek6]; exact hlv6 2 _ rfl
    have hkb6 : RBytes A h10 (.slice (some a6) n6 c6) (bkW w.W (rs4 y)) := by rw [← ek6]; exact bk_key (H.sv w (List.mem_of_getElem? hw)).1 _
    refine tr_skip ?_
    refine q_thn ?_
    refine tr_seq ?_
    refine tr_cut (fun E h' => h10 = h' ∧ ∃ b : Bool, E = [(0, .pointer (some ⟨mi, 0, none⟩)), (1, kv0), (4, .pointer none), (204, .bool b)] ∧ (b = true → ((w.at (rs4 y)).kind = 1 ∧ bkW w.W (rs4 y) = key)) ∧ (b = false → ¬ ((w.at (rs4 y)).kind = 1 ∧ bkW w.W (rs4 y) = key))) ?_ ?_
    ·
      rcases Bool.eq_false_or_eq_true (decide ((w.at (rs4 y)).kind = 1)) with g1 | g1
      · skip
        refine tr_reg ?_
        refine rM rfl rfl <| rC rfl rfl <| rF fa_keyspan_MergingIter_0 rfl rfl <| rs_v (v_load one_p_keyspan_MergingBuffers rfl (by exact H.mb.b2.cell 0 rfl)) rfl ?_
        refine rC rfl rfl <| rF fa_keyspan_MergingBuffers_2 rfl rfl <| rF fa_keyspan_mergingIterHeap_2 rfl rfl <| rs_v (v_load one_sl_keyspan_mergingIterItem rfl (by exact H.b1.cell 4 rfl)) rfl ?_
        refine rs_v (v_indexAddrE (i := 0) u_sl_keyspan_mergingIterItem siz_keyspan_mergingIterItem rfl rfl rfl (Nat.succ_pos _)) rfl ?_
        refine rF fa_keyspan_mergingIterItem_0 rfl rfl <| rs_v (v_load one_p_keyspan_boundKey rfl (by exact hit6 0 _ rfl)) rfl ?_
        refine rC rfl rfl <| rF fa_keyspan_boundKey_0 rfl rfl <| rs_v (v_load one_keyspan_boundKind rfl (by exact hlv6 1 _ rfl)) rfl ?_
        refine rs_v (v_eq rfl rfl) rfl ?_
        refine rM rfl rfl <| rs_gv rfl (lkb g1) (v_move rfl) rfl <| rs_gv rfl (lkb g1) (v_move rfl) rfl <| rs_gv rfl (lkb g1) (v_nilCheck_ptr rfl) rfl ?_
        refine rs_gv rfl (lkb g1) (v_fieldAddr fa_keyspan_MergingIter_0 rfl) rfl ?_
        refine rs_gv rfl (lkb g1) (v_load one_p_keyspan_MergingBuffers rfl (by exact H.mb.b2.cell 0 rfl)) rfl ?_
        refine rs_gv rfl (lkb g1) (v_nilCheck_ptr rfl) rfl ?_
        refine rs_gv rfl (lkb g1) (v_fieldAddr fa_keyspan_MergingBuffers_2 rfl) rfl ?_
        refine rs_gv rfl (lkb g1) (v_fieldAddr fa_keyspan_mergingIterHeap_2 rfl) rfl ?_
        refine rs_gv rfl (lkb g1) (v_load one_sl_keyspan_mergingIterItem rfl (by exact H.b1.cell 4 rfl)) rfl ?_
        refine rs_gv rfl (lkb g1) (v_indexAddrE (i := 0) u_sl_keyspan_mergingIterItem siz_keyspan_mergingIterItem rfl rfl rfl (Nat.succ_pos _)) rfl ?_
        refine rs_gv rfl (lkb g1) (v_fieldAddr fa_keyspan_mergingIterItem_0 rfl) rfl ?_
        refine rs_gv rfl (lkb g1) (v_load one_p_keyspan_boundKey rfl (by exact hit6 0 _ rfl)) rfl ?_
        refine rs_gv rfl (lkb g1) (v_nilCheck_ptr rfl) rfl ?_
        refine rs_gv rfl (lkb g1) (v_fieldAddr fa_keyspan_boundKey_1 rfl) rfl ?_
        refine rs_gv rfl (lkb g1) (v_load one_sl_uint8 rfl (by exact hkey6)) rfl ?_
        refine rs_gv rfl (lkb g1) (v_move rfl) rfl ?_
        refine rs_gw rfl (lkb g1) (w_call (vs := [_, _, _]) ok_keyspan_MergingIter_cmp rfl ⟨rfl, rfl, rfl, trivial⟩ (c_mcmp H (RBytes.by hkb6) (RBytes.by hkyb))) rfl ?_
        rintro _ h11 ⟨rfl, hsame⟩; have hsame := hsame.symm; subst hsame
        refine rs_gv rfl (lkb g1) (v_eq rfl rfl) rfl ?_
        refine rs_v (v_pick_t (lkb g1) rfl) rfl ?_
        refine rs_nil ?_
        exact q_cut [(0, _), (1, _), (4, _), (204, _)] ⟨rfl, rfl, rfl, rfl, trivial⟩ ⟨rfl, _, rfl, fun e => ⟨of_decide_eq_true g1, cmpB_eq (of_decide_eq_true e)⟩, fun e e2 => of_decide_eq_false e (by rw [e2.2]; exact cmpB_refl _)⟩
      · skip
        refine tr_reg ?_
        refine rM rfl rfl <| rC rfl rfl <| rF fa_keyspan_MergingIter_0 rfl rfl <| rs_v (v_load one_p_keyspan_MergingBuffers rfl (by exact H.mb.b2.cell 0 rfl)) rfl ?_
        refine rC rfl rfl <| rF fa_keyspan_MergingBuffers_2 rfl rfl <| rF fa_keyspan_mergingIterHeap_2 rfl rfl <| rs_v (v_load one_sl_keyspan_mergingIterItem rfl (by exact H.b1.cell 4 rfl)) rfl ?_
        refine rs_v (v_indexAddrE (i := 0) u_sl_keyspan_mergingIterItem siz_keyspan_mergingIterItem rfl rfl rfl (Nat.succ_pos _)) rfl ?_
        refine rF fa_keyspan_mergingIterItem_0 rfl rfl <| rs_v (v_load one_p_keyspan_boundKey rfl (by exact hit6 0 _ rfl)) rfl ?_
        refine rC rfl rfl <| rF fa_keyspan_boundKey_0 rfl rfl <| rs_v (v_load one_keyspan_boundKind rfl (by exact hlv6 1 _ rfl)) rfl ?_
        refine rs_v (v_eq rfl rfl) rfl ?_
        refine rM rfl rfl <| rs_gs rfl (lkb g1) rfl rfl <| rs_gs rfl (lkb g1) rfl rfl <| rs_gs rfl (lkb g1) rfl rfl <| rs_gs rfl (lkb g1) rfl rfl <| rs_gs rfl (lkb g1) rfl rfl <| rs_gs rfl (lkb g1) rfl rfl <| rs_gs rfl (lkb g1) rfl rfl <| rs_gs rfl (lkb g1) rfl rfl <| rs_gs rfl (lkb g1) rfl rfl <| rs_gs rfl (lkb g1) rfl rfl <| rs_gs rfl (lkb g1) rfl rfl <| rs_gs rfl (lkb g1) rfl rfl <| rs_gs rfl (lkb g1) rfl rfl <| rs_gs rfl (lkb g1) rfl rfl <| rs_gs rfl (lkb g1) rfl rfl <| rs_gs rfl (lkb g1) rfl rfl <| rs_gs rfl (lkb g1) rfl rfl <| rs_gs rfl (lkb g1) rfl rfl <| rs_v (v_pick_f (lkb g1) rfl) rfl ?_
        refine rs_nil ?_
        exact q_cut [(0, _), (1, _), (4, _), (204, _)] ⟨rfl, rfl, rfl, rfl, trivial⟩ ⟨rfl, _, rfl, fun e => (by cases e), fun _ e2 => of_decide_eq_false g1 e2.1⟩
    rintro E h94 ⟨hh, b, rfl, hb1, hb0⟩
    subst hh
    refine tr_if rfl (fun hif => ?_) (fun hif => ?_)
    · -- yes
      have hyes := hb1 hif
      obtain ⟨k, hkl, hFN, hpe⟩ := seek_yesE (kf := kfM vs snap) C.hB hw how hrs4 hyes.2
      refine rG <| rM rfl rfl <| rs_w (w_call (vs := [_]) ok_keyspan_MergingIter_findNextFragmentSet rfl ⟨rfl, trivial⟩ (c_findNextFragmentSet (F := FU F h _) C (fun b hb => .inl (hbad b hb)) (fu_low hl KP) (MXt.fu ⟨_, _, _, _, _, _, _, _, _, H, O⟩) hp4 hH4 hkl hFN)) rfl ?_
      rintro r h13 hP
      refine rA rfl rfl <| rN <| tr_ret <| q_thn_ret <| q_ret (res_tmp rfl rfl) ?_
      rw [hpe]
      exact mpost_trans hl KP (fun b hb => hb) hP
    -- no
    have hall := seek_noE C.ord hp4 hH4 hw hrs4 (hb0 hif)
    obtain ⟨k, hc⟩ := cut_at C.hB (down_le key)
    have hFN : FNk (wsO vs) B k rs4 := fn_cut C.hB (down_le key) hc (fun i W hW => by rw [hrs4 i W hW, hall i W hW]; rfl)
    have hFP : FPk (wsO vs) B k rs1 := fp_cut C.hB (down_le key) hc (fun i W hW => by rw [hrs1 i W hW, hall i W hW]; rfl)
    obtain ⟨hkB2, hκ2⟩ := fn_root' C.hB hFN hp4 hH4 hw
    obtain ⟨hk0, hκ1⟩ := fp_root' C.hB hFP hp hH hv
    obtain ⟨j, rfl⟩ : ∃ j, k = j + 1 := ⟨k - 1, by omega⟩
    rw [Nat.add_sub_cancel] at hκ1
    rw [hκ1] at hst
    have hdone : ∀ (i : Nat) W, (wsO vs)[i]? = some W → rs4 i = cE W (atB B j) + 1 := fun i W hW => by
      rw [hrs4 i W hW, hall i W hW]
      exact congrArg (· + 1) (cut_cE C.hB (down_le key) (List.mem_of_getElem? hW) hc)
    refine tr_skip ?_
    refine q_thn ?_
    refine rG <| rM rfl rfl <| rM rfl rfl <| rC rfl rfl <| rF fa_keyspan_MergingIter_0 rfl rfl <| rs_v (v_load one_p_keyspan_MergingBuffers rfl (by exact H.mb.b2.cell 0 rfl)) rfl ?_
    refine rC rfl rfl <| rF fa_keyspan_MergingBuffers_2 rfl rfl <| rF fa_keyspan_mergingIterHeap_2 rfl rfl <| rs_v (v_load one_sl_keyspan_mergingIterItem rfl (by exact H.b1.cell 4 rfl)) rfl ?_
    refine rs_v (v_indexAddrE (i := 0) u_sl_keyspan_mergingIterItem siz_keyspan_mergingIterItem rfl rfl rfl (Nat.succ_pos _)) rfl ?_
    refine rF fa_keyspan_mergingIterItem_0 rfl rfl <| rs_v (v_load one_p_keyspan_boundKey rfl (by exact hit6 0 _ rfl)) rfl ?_
    refine rC rfl rfl <| rF fa_keyspan_boundKey_1 rfl rfl <| rs_v (v_load one_sl_uint8 rfl (by exact hkey6)) rfl ?_
    refine rC rfl rfl <| rF fa_keyspan_MergingIter_2 rfl rfl <| rs_w0 (w_store siz_sl_uint8 rfl rfl rfl rfl H.mb.b2 (by rw [H.mb.len]; omega)) ?_
    rintro _ h14 ⟨B9, K14⟩
    have KP := KeepP.newX KP K14 (fun y hy => .inl (hbad y (C.kmi y hy).1))
    have hst := st_keep H O hst K14 C.kmi H.nAm
    have H := H.hdr (hd' := hdC bf (.slice (some a7) n7 c7) (.slice (some a6) n6 c6) (.iface 188 (visF sb)) s0 s1 s2 s3 1) (by rw [mi_putH (show (3 : Nat) ≤ 10 by omega)] at B9; exact B9) rfl K14
    have O := O.keep K14 C.kmi
    have hit6 := (H.hs hq4).item (i := 0) (x := y) rfl
    have hlv6 := H.mb.lev (H.lv y w hw).1
    have hkey6 : cellH h14 mi (10 + y * 4 + 1 + 1) = some (.slice (some a6) n6 c6) := by rw [← ek6]; exact hlv6 2 _ rfl
    have hkb6 : RBytes A h14 (.slice (some a6) n6 c6) (bkW w.W (rs4 y)) := by rw [← ek6]; exact bk_key (H.sv w (List.mem_of_getElem? hw)).1 _
    obtain ⟨ak, ck, rfl⟩ := O.k.slice
    refine rN ?_
    refine tr_seq ?_
    refine rG <| rM rfl rfl <| rs_w (w_call (vs := [_, _]) ok_keyspan_MergingIter_synthesizeKeys rfl ⟨rfl, rfl, trivial⟩ (c_synthP H O.k O.s C.nb C.nm C.kl2 (C.kr2))) rfl ?_
    rintro _ h15 ⟨rfl, ka, kc, nd, l8, H8, HK8, hl8, htk, hnd8, hown, BS8, K15⟩
    have O0 := O
    have hX8 : ∀ y, y ∈ mi :: bf :: (.slice ak lk2.length ck : Value).ownBlock.toList → ¬ A y ∧ y ∉ bv2.ownBlock.toList := fun y hy => syn_out H O y hy
    have hst := st_keep0 H O hst K15 hX8
    have hkb8 := hkb6.stab (K15.stab fun y hy => ⟨H.low y hy, fun hm => (hX8 y hm).1 hy⟩)
    have hcat := cat_P hdone
    rw [hcat.1] at htk hnd8
    have hrb : ∀ y, y ∈ (sortKT (catX vs (atB B j))).filter (fun y => visK snap y.k) → RBytes A h15 (.slice y.a1 y.n1 y.c1) y.k.suf ∧ RBytes A h15 (.slice y.a2 y.n2 y.c2) y.k.val := fun y hy => catK_rb (D := 2) H8 (by decide) (by rw [hcat.1]; exact (sortKT_perm _).mem_iff.1 (List.mem_filter.1 hy).1)
    have O := O.syn C (fun y hy => .inr (by have := KP.1; omega)) HK8 hl8 hown BS8 K15
    have KP := KeepP.newX KP K15 (syn_kp hbad O0)
    have H := H8
    have hspan : PSpan (FU F h h15) h15 mi 4 ⟨atB B j, atB B (j + 1), kfM vs snap (atB B j)⟩ := by
      have hF9 : ∀ b, A b → FU F h h15 b := fun b hb => .inl (hbad b (.inl hb))
      have hst9 : ∀ b, A b ∨ b ∈ bv2.ownBlock.toList → FU F h h15 b := fun b hb => hb.elim (hF9 b) (fun e => (O.ob b e).imp id (fun e2 => ⟨e2, own_lt O.b.1 b e⟩))
      refine ⟨_, _, _, 0, H.mb.b2.sub 4 4 rfl, hst.mono hst9, ?_, ?_⟩
      · have := hkb8.mono hF9; rw [hκ2] at this; exact this
      · exact pkeys_of HK8 htk hnd8 hl8 hF9 (fun y hy => (O.ok y hy).imp id (fun e2 => ⟨e2, HK8.lt y hy⟩)) hrb
    refine rM rfl rfl <| rs_v (v_extract rfl rfl) rfl ?_
    refine rs_v (v_extract rfl rfl) rfl ?_
    refine rA rfl rfl <| rA rfl rfl <| rN ?_
    refine tr_cut (fun E h' => h15 = h' ∧ ∃ b : Bool, E = [(0, .pointer (some ⟨mi, 0, none⟩)), (1, kv0), (4, .pointer none), (9, .pointer (some ⟨mi, 4, none⟩)), (233, .bool b)] ∧ b = covB (wsO vs) (atB B j)) ?_ ?_
    ·
      rcases Bool.eq_false_or_eq_true (anyK 2 vs rs4 vs.length) with g1 | g1
      · skip
        refine tr_reg ?_
        refine rM rfl rfl <| rM rfl rfl <| rs_gv rfl (lkb g1) (v_move rfl) rfl <| rs_gv rfl (lkb g1) (v_pne u_p_keyspan_Span rfl rfl) rfl ?_
        refine rs_v (v_pick_t (lkb g1) rfl) rfl ?_
        refine rs_nil ?_
        exact q_cut [(0, _), (1, _), (4, _), (9, _), (233, _)] ⟨rfl, rfl, rfl, rfl, rfl, trivial⟩ ⟨rfl, _, rfl, by rw [← hcat.2, g1]; rfl⟩
      · skip
        refine tr_reg ?_
        refine rM rfl rfl <| rM rfl rfl <| rs_gs rfl (lkb g1) rfl rfl <| rs_gs rfl (lkb g1) rfl rfl <| rs_v (v_pick_f (lkb g1) rfl) rfl ?_
        refine rs_nil ?_
        exact q_cut [(0, _), (1, _), (4, _), (9, _), (233, _)] ⟨rfl, rfl, rfl, rfl, rfl, trivial⟩ ⟨rfl, _, rfl, by rw [← hcat.2, g1]⟩
    rintro E h95 ⟨hh, b, rfl, hcv⟩
    subst hh
    refine tr_if rfl (fun hif => ?_) (fun hif => ?_)
    · -- yes
      skip
      refine rG <| rM rfl rfl <| rA rfl rfl <| rN <| tr_ret <| q_thn_ret <| q_ret (res_tmp rfl rfl) ?_
      have hcov : covB (wsO vs) (atB B j) = true := by rw [← hcv]; exact hif
      exact mpost_pt hbad hl KP ⟨_, _, _, _, _, _, _, _, _, H, O⟩ hp4 hH4 ⟨hkB2, ⟨_, _, _, rfl⟩, ⟨_, _, _, rfl⟩, .inl ⟨rfl, rfl, hdone⟩⟩ (by rw [pGE_cut hc, Nat.add_sub_cancel]; exact (fwdF_yes hkB2 hcov).2) hspan
    -- no
    have hcov : covB (wsO vs) (atB B j) = false := by rw [← hcv]; exact hif
    refine tr_skip ?_
    refine q_thn ?_
    refine rG <| rM rfl rfl <| rs_w (w_call (vs := [_]) ok_keyspan_MergingIter_findNextFragmentSet rfl ⟨rfl, trivial⟩ (c_findNextFragmentSet (F := FU F h _) C (fun b hb => .inl (hbad b hb)) (fu_low hl KP) (MXt.fu ⟨_, _, _, _, _, _, _, _, _, H, O⟩) hp4 hH4 (by omega) hFN)) rfl ?_
    rintro r h17 hP
    refine rA rfl rfl <| rN <| tr_ret <| q_ret (res_tmp rfl rfl) ?_
    rw [pGE_cut hc, Nat.add_sub_cancel]
    rw [fwdF_no hkB2 hcov]
    exact mpost_trans hl KP (fun b hb => hb) hP
  -- yes
  simp only [dT, dF] at hif
  obtain ⟨v, hv⟩ := ex_get (L := vs) (k := k) (by omega)
  obtain ⟨hlx, hI, hrx⟩ := H.lv k v hv
  obtain ⟨hS, hne, hnb, hAc, hlt⟩ := H.sv v (List.mem_of_getElem? hv)
  have hlv := H.mb.lev hlx
  have hvl := H.vl
  have hit0 : cellH hL2 mi (10 + k * 4 + 0) = some v.it := by rw [← at_it v _]; exact hlv 0 _ rfl
  have hOv := C.ord v (List.mem_of_getElem? hv)
  have hgl := geI_le v.W key
  have hll := ltI_le v.W key
  have hky := (hkey0.stab (fun b hb => KP.2 b hb.2 hb.1)).mono (fun b hb => show b ≠ v.c from fun e => hb.1 (by rw [e]; exact hbad _ (C.kc hv _ (by simp)).1))
  refine tr_skip ?_
  refine q_thn ?_
  refine tr_seq ?_
  refine tr_block <| rG <| rM rfl rfl <| rA rfl rfl <| rN <| rG <| rM rfl rfl <| rC rfl rfl <| rF fa_keyspan_MergingIter_0 rfl rfl <| rs_v (v_load one_p_keyspan_MergingBuffers rfl (by exact H.mb.b2.cell 0 rfl)) rfl ?_
  refine rC rfl rfl <| rF fa_keyspan_MergingBuffers_1 rfl rfl <| rs_v (v_load one_sl_keyspan_mergingIterLevel rfl (by exact H.b1.cell 1 rfl)) rfl ?_
  refine rM rfl rfl <| rs_v (v_indexAddrE (i := k) u_sl_keyspan_mergingIterLevel siz_keyspan_mergingIterLevel rfl rfl rfl (by omega)) rfl ?_
  refine rA rfl rfl <| rN <| rG <| rM rfl rfl <| rC rfl rfl <| rF fa_keyspan_mergingIterLevel_0 rfl rfl <| rs_v (v_load one_keyspan_FragmentIterator rfl (by exact hit0)) rfl ?_
  refine rM rfl rfl <| rs_w (w_mcall (vs := [_]) (lv_SeekLT hS H.low hAc hI hky) rfl ⟨rfl, trivial⟩) rfl ?_
  rintro r h18 ⟨hr, hI1, hI1b, K18⟩
  have hS1 := hS.stab (H.stab K18 (by simpa using hAc))
  obtain ⟨p, hrp, hpc⟩ := seek_form hS1 (c := ltI v.W key = 0) (ltI v.W key - 1) (fun h0 => by omega)
  rw [hrp] at hr; subst hr
  have M := H.mb.keep K18 (by simpa using fun e => hne e.symm)
  have B1 := K18.blk (by simpa using fun e => hnb e.symm) H.b1
  have Kc := K18
  have KP := KeepP.newX KP K18 (fun y hy => .inl (hbad y (C.kc hv y hy).1))
  have O := O.keep K18 (C.kc hv)
  have hky2 := hkey0.stab (fun b hb => KP.2 b hb.2 hb.1)
  refine rA rfl rfl <| rN <| rG <| rM rfl rfl <| rs_v (v_peq u_p_keyspan_Span rfl rfl) rfl ?_
  refine rN ?_
  refine tr_if rfl (fun hif => ?_) (fun hif => ?_)
  · -- yes
    obtain ⟨rfl, hc0⟩ : p = none ∧ ltI v.W key = 0 := by
      rcases hpc with e | ⟨b, o, x, rfl, _⟩
      · exact e
      · cases hif
    have hts := (tS_lt hOv key).1 hc0
    have hI9 : LevI v (tS v.W key) h18 := by rw [hts]; rw [hc0] at hI1; exact hI1
    refine tr_reg ?_
    refine rM rfl rfl <| rs_v (v_build1 rfl (bld_keyspan_boundKey_0 _)) rfl ?_
    refine rC rfl rfl <| rF fa_keyspan_mergingIterLevel_1 rfl rfl <| rs_w0 (w_store siz_keyspan_boundKey rfl rfl rfl rfl M.b2 (by rw [M.len]; omega)) ?_
    rintro _ h19 ⟨B9, K19⟩
    have M2 := M.setL (it := v.it) hlx (at_it _ _) B9
    have hI2 := hI9.keep K19 (by simpa using hne)
    have KP := KeepP.newX KP K19 (fun y hy => .inl (hbad y (C.kmi y hy).1))
    have O := O.keep K19 C.kmi
    have H := H.step hv (r := tS v.W key) (by rw [hts, Lev.at0 (by unfold Lev.ok; omega)]; exact M2) hI2 (by have := tS_le v.W key; omega) ((Kc.sub (by simp)).trans (K19.sub (by simp)))
    refine rs_nil ?_
    refine q_blk_n ?_
    refine q_thn ?_
    refine tr_reg ?_
    refine rs_v (v_add rfl rfl (by omega) (by omega)) rfl ?_
    refine rM rfl rfl ?_
    refine rs_nil ?_
    refine q_lp (vs.length - (k + 1)) [(0, _), (1, _), (4, _), (19, _), (20, _)] (by omega) ⟨rfl, rfl, rfl, rfl, rfl, trivial⟩ ⟨k + 1, _, by omega, rfl, rfl, H.congr (fun j _ => rK_step (f := (fun W => tS W key)) hv j), O, KP⟩
  -- no
  obtain ⟨b, o, x, rfl, hc0, hx, hsp, hAb, hcs, hr1, hr2⟩ : ∃ b o x, p = some ⟨b, o, none⟩ ∧ ¬ ltI v.W key = 0 ∧ v.W[ltI v.W key - 1]? = some x ∧ v.sp (ltI v.W key - 1) = .pointer (some ⟨b, o, none⟩) ∧ A b ∧ CellsAt h18 b o [v.sv (ltI v.W key - 1), v.ev (ltI v.W key - 1), v.kv (ltI v.W key - 1), .int .i8 0] ∧ RBytes A h18 (v.sv (ltI v.W key - 1)) x.s ∧ RBytes A h18 (v.ev (ltI v.W key - 1)) x.e := by
    rcases hpc with ⟨rfl, _⟩ | e
    · cases hif
    · exact e
  obtain ⟨a9, n9, c9, e9⟩ := (hS.nn _ x hx).1
  obtain ⟨a8, n8, c8, e8⟩ := (hS.nn _ x hx).2
  have hxl := (List.getElem?_eq_some_iff.1 hx).1
  rw [e9, e8] at hcs
  rw [e9] at hr1
  rw [e8] at hr2
  refine rG <| rM rfl rfl <| rM rfl rfl <| rC rfl rfl <| rF fa_keyspan_Span_1 rfl rfl <| rs_v (v_load one_sl_uint8 rfl (by exact hcs 1 _ rfl)) rfl ?_
  refine rM rfl rfl <| rs_w (w_call (vs := [_, _, _]) ok_keyspan_MergingIter_cmp rfl ⟨rfl, rfl, rfl, trivial⟩ (c_mcmp2 M B1 (RBytes.by hr2) (RBytes.by hky2))) rfl ?_
  rintro _ h20 ⟨rfl, hsame⟩; have hsame := hsame.symm; subst hsame
  refine rs_v (v_le rfl rfl) rfl ?_
  refine rN ?_
  refine tr_if rfl (fun hif => ?_) (fun hif => ?_)
  · -- yes
    have hle : sle x.e key = true := sle_iff.2 (of_decide_eq_true hif)
    have hts := (tS_lt hOv key).2 x hc0 hx
    rw [if_pos hle] at hts
    have hI9 : LevI v (tS v.W key) h18 := by rw [hts]; exact hI1
    refine tr_reg ?_
    refine rM rfl rfl <| rM rfl rfl <| rC rfl rfl <| rF fa_keyspan_Span_1 rfl rfl <| rs_v (v_load one_sl_uint8 rfl (by exact hcs 1 _ rfl)) rfl ?_
    refine rM rfl rfl <| rs_v (v_build3 rfl rfl rfl (bld_keyspan_boundKey_0_1_2 _ _ _ _ _)) rfl ?_
    refine rC rfl rfl <| rF fa_keyspan_mergingIterLevel_1 rfl rfl <| rs_w0 (w_store siz_keyspan_boundKey rfl rfl rfl rfl M.b2 (by rw [M.len]; omega)) ?_
    rintro _ h21 ⟨B9, K21⟩
    have M2 := M.setL (it := v.it) hlx (at_it _ _) B9
    have hI2 := hI9.keep K21 (by simpa using hne)
    have KP := KeepP.newX KP K21 (fun y hy => .inl (hbad y (C.kmi y hy).1))
    have O := O.keep K21 C.kmi
    have H := H.step hv (r := tS v.W key) (by rw [hts, show 2 * ltI v.W key = 2 * (ltI v.W key - 1) + 2 from by omega, Lev.at2 hxl, hsp, e8]; exact M2) hI2 (by have := tS_le v.W key; omega) ((Kc.sub (by simp)).trans (K21.sub (by simp)))
    refine rs_nil ?_
    refine q_blk_n ?_
    refine q_thn ?_
    refine tr_reg ?_
    refine rs_v (v_add rfl rfl (by omega) (by omega)) rfl ?_
    refine rM rfl rfl ?_
    refine rs_nil ?_
    refine q_lp (vs.length - (k + 1)) [(0, _), (1, _), (4, _), (19, _), (20, _)] (by omega) ⟨rfl, rfl, rfl, rfl, rfl, trivial⟩ ⟨k + 1, _, by omega, rfl, rfl, H.congr (fun j _ => rK_step (f := (fun W => tS W key)) hv j), O, KP⟩
  -- no
  have hle : sle x.e key = false := sle_no.2 (by have := of_decide_eq_false hif; omega)
  have hts := (tS_lt hOv key).2 x hc0 hx
  rw [if_neg (by rw [hle]; decide)] at hts
  have hI9 : LevI v (tS v.W key) h18 := by rw [hts]; exact hI1b hc0
  refine tr_reg ?_
  refine rM rfl rfl <| rM rfl rfl <| rC rfl rfl <| rF fa_keyspan_Span_0 rfl rfl <| rs_v (v_load one_sl_uint8 rfl (by exact hcs 0 _ rfl)) rfl ?_
  refine rM rfl rfl <| rs_v (v_build3 rfl rfl rfl (bld_keyspan_boundKey_0_1_2 _ _ _ _ _)) rfl ?_
  refine rC rfl rfl <| rF fa_keyspan_mergingIterLevel_1 rfl rfl <| rs_w0 (w_store siz_keyspan_boundKey rfl rfl rfl rfl M.b2 (by rw [M.len]; omega)) ?_
  rintro _ h22 ⟨B9, K22⟩
  have M2 := M.setL (it := v.it) hlx (at_it _ _) B9
  have hI2 := hI9.keep K22 (by simpa using hne)
  have KP := KeepP.newX KP K22 (fun y hy => .inl (hbad y (C.kmi y hy).1))
  have O := O.keep K22 C.kmi
  have H := H.step hv (r := tS v.W key) (by rw [hts, show 2 * ltI v.W key - 1 = 2 * (ltI v.W key - 1) + 1 from by omega, Lev.at1 hxl, hsp, e9]; exact M2) hI2 (by have := tS_le v.W key; omega) ((Kc.sub (by simp)).trans (K22.sub (by simp)))
  refine rs_nil ?_
  refine q_blk_n ?_
  refine q_thn ?_
  refine tr_reg ?_
  refine rs_v (v_add rfl rfl (by omega) (by omega)) rfl ?_
  refine rM rfl rfl ?_
  refine rs_nil ?_
  refine q_lp (vs.length - (k + 1)) [(0, _), (1, _), (4, _), (19, _), (20, _)] (by omega) ⟨rfl, rfl, rfl, rfl, rfl, trivial⟩ ⟨k + 1, _, by omega, rfl, rfl, H.congr (fun j _ => rK_step (f := (fun W => tS W key)) hv j), O, KP⟩
set_option maxHeartbeats 4000000
theorem c_MSeekLT {χ : Chi} {A : Nat → Prop} {bf mi sb : Nat} {vs : List Lev} {snap : Nat} {B : List ByteArray} {F : Nat → Prop} {rs : Nat → Nat} {rev : Bool} {dir : Int} {q : List Nat} {st en bv : Value} {h : Heap} {kv0 : Value} {key : ByteArray} (C : MC A bf mi sb vs B) (hbad : ∀ b, badB A bf mi sb vs b → F b) (hl : Low F h) (X : MXt A bf mi sb vs snap F rs rev dir q st en bv h) (hkey : RBytes (fun b => ¬ F b) h kv0 key) :
    Cl Tryz.prog χ 180 #[.pointer (some ⟨mi, 0, none⟩), kv0] h (MPost A bf mi sb vs snap B F h (bwdP (covF (wsO vs)) (sgM vs snap B) (pLT (sgM vs snap B) key))) := by
  obtain ⟨s0, s1, s2, s3, kv1, L, tl, lk1, lb1, H, O⟩ := X
  have hkey0 := RBytes.lowen hkey
  refine cl_intro Tryz.func180 rfl rfl rfl ?_
  have K : Keep [] h h := Keep.refl _ _
  refine rG <| rA rfl rfl <| rN <| rG <| rM rfl rfl <| rs_w (w_call (vs := [_]) ok_keyspan_MergingIter_invalidate rfl ⟨rfl, trivial⟩ (c_invalidate H)) rfl ?_
  rintro _ h1 ⟨rfl, H, K1⟩
  have KP : KeepP F h h1 := kp_mi C hbad K1
  have O := O.keep K1 C.kmi
  refine rN ?_
  refine tr_seq ?_
  refine rG <| rM rfl rfl <| rC rfl rfl <| rF fa_keyspan_MergingIter_0 rfl rfl <| rs_v (v_load one_p_keyspan_MergingBuffers rfl (by exact H.mb.b2.cell 0 rfl)) rfl ?_
  refine rC rfl rfl <| rF fa_keyspan_MergingBuffers_1 rfl rfl <| rs_v (v_load one_sl_keyspan_mergingIterLevel rfl (by exact H.b1.cell 1 rfl)) rfl ?_
  refine rs_v (v_len u_sl_keyspan_mergingIterLevel rfl) rfl ?_
  refine rM rfl rfl <| rN <| tr_block ?_
  refine tr_loop (fun m E h' => ∃ k L1, k ≤ vs.length ∧ m = vs.length - k ∧ E = [(0, .pointer (some ⟨mi, 0, none⟩)), (1, kv0), (4, .pointer none), (19, .int .i64 (vs.length : Int)), (20, .int .i64 (k : Int))] ∧ MG A bf mi vs (rK (fun W => tS W key + 1) vs rs k) kv1 bv rev (hdC bf st en (.iface 188 (visF sb)) s0 s1 s2 s3 dir) L1 q tl h' ∧ MO A bf mi sb vs snap F kv1 bv lk1 lb1 h' ∧ KeepP F h h') vs.length [(0, _), (1, _), (4, _), (19, _), (20, _)] ⟨rfl, rfl, rfl, rfl, rfl, trivial⟩ ⟨0, L, Nat.zero_le _, rfl, rfl, H.congr (fun j _ => rfl), O, KP⟩ ?_
  rintro m E hL2 ⟨k, L1, hk, rfl, rfl, H, O, KP⟩
  refine rG <| rs_v (v_lt rfl rfl) rfl ?_
  refine rN ?_
  refine tr_seq ?_
  refine tr_ifn rfl (fun hif => ?_) (fun hif => ?_)
  · -- no
    simp only [dT, dF] at hif
    have H := H.congr (rs' := rT (fun W => tS W key + 1) vs) (fun j hj => rK_all (by omega))
    have hrs1 : ∀ (i : Nat) W, (wsO vs)[i]? = some W → rT (fun W => tS W key + 1) vs i = tS W key + 1 := fun i W hW => rT_at hW
    generalize rT (fun W => tS W key + 1) vs = rs1 at H hrs1
    have hrb : ∀ (i : Nat) v, vs[i]? = some v → 1 ≤ rs1 i := fun i v hv => by rw [hrs1 i v.W (wsO_at hv)]; omega
    refine tr_exit <| q_thn_exit ?_
    refine q_lp_exit ?_
    refine q_blk_hit ?_
    refine q_thn ?_
    refine rG <| rM rfl rfl <| rs_w (w_call (vs := [_]) ok_keyspan_MergingIter_initMinHeap rfl ⟨rfl, trivial⟩ (c_initMinHeap H)) rfl ?_
    rintro _ h3 ⟨rfl, q1, tl1, H, hp, hH, K3⟩
    have KP := KeepP.newX KP K3 (fun y hy => .inl (hbad y (C.kmb y hy).1))
    have O := (O.keep K3 C.kmb).ent (F1 := (fun b => F b ∨ h.size ≤ b)) (fun b hb => .inl hb)
    have hq1 := q_lt hp
    refine rN ?_
    refine tr_seq ?_
    refine rG <| rM rfl rfl <| rC rfl rfl <| rF fa_keyspan_MergingIter_5 rfl rfl <| rs_v (v_load one_error rfl (by exact H.mb.b2.cell 8 rfl)) rfl ?_
    refine rs_v (v_ine_nil isi_error rfl rfl) rfl ?_
    refine rN <| tr_if_f rfl ?_
    refine rG <| rM rfl rfl <| rC rfl rfl <| rF fa_keyspan_MergingIter_0 rfl rfl <| rs_v (v_load one_p_keyspan_MergingBuffers rfl (by exact H.mb.b2.cell 0 rfl)) rfl ?_
    refine rC rfl rfl <| rF fa_keyspan_MergingBuffers_2 rfl rfl <| rF fa_keyspan_mergingIterHeap_2 rfl rfl <| rs_v (v_load one_sl_keyspan_mergingIterItem rfl (by exact H.b1.cell 4 rfl)) rfl ?_
    refine rs_v (v_len u_sl_keyspan_mergingIterItem rfl) rfl ?_
    refine rs_v (v_eq rfl rfl) rfl ?_
    refine rN ?_
    refine tr_if rfl (fun hif => ?_) (fun hif => ?_)
    · -- yes
      have hq0 : q1 = [] := List.eq_nil_of_length_eq_zero (by have := of_decide_eq_true hif; omega)
      subst hq0
      have hts0 : ∀ (i : Nat) W, (wsO vs)[i]? = some W → tS W key = 2 * W.length := fun i W hW => by
        have h1 := q_none hp rfl i W hW
        rw [hrs1 i W hW] at h1
        have := tS_le W key; omega
      have hFN : FPk (wsO vs) B B.length (fun j => rs1 j - 1) := fp_cut C.hB (p := fun _ => true) (fun _ _ _ e => e) (cut_all B) (fun i W hW => by show rs1 i - 1 = _; rw [hrs1 i W hW, hts0 i W hW, cut_all_cnt C.hB (p := fun _ => true) (fun _ _ _ e => e) (List.mem_of_getElem? hW) (cut_all B)]; rfl)
      refine rG <| rM rfl rfl <| rs_w (w_call (vs := [_]) ok_keyspan_MergingIter_switchToMaxHeap rfl ⟨rfl, trivial⟩ (c_switchToMaxHeap H hrb)) rfl ?_
      rintro _ h4 ⟨rfl, L3, q3, tl3, H, hp3, hH3, K4⟩
      have KP := KeepP.newX KP K4 (fun y hy => .inl (hbad y (C.kall y hy).1))
      have O := O.keep K4 C.kall
      refine rN <| rG <| rM rfl rfl <| rs_w (w_call (vs := [_]) ok_keyspan_MergingIter_findPrevFragmentSet rfl ⟨rfl, trivial⟩ (c_findPrevFragmentSet (F := FU F h _) C (fun b hb => .inl (hbad b hb)) (fu_low hl KP) (MXt.fu ⟨_, _, _, _, _, _, _, _, _, H, O⟩) hp3 hH3 (Nat.le_refl _) hFN)) rfl ?_
      rintro r h5 hP
      refine rA rfl rfl <| rN <| tr_ret <| q_thn_ret <| q_ret (res_tmp rfl rfl) ?_
      rw [pLT_all C.hB hts0]
      exact mpost_trans hl KP (fun b hb => hb) hP
    -- no
    obtain ⟨x, q2, rfl⟩ : ∃ x q2, q1 = x :: q2 := by
      cases q1 with
      | nil => exact absurd rfl (of_decide_eq_false hif)
      | cons a b => exact ⟨a, b, rfl⟩
    obtain ⟨v, hv, hok⟩ := root_ok hp
    have hvm := List.mem_of_getElem? hv
    obtain ⟨a5, n5, c5, ek5⟩ := at_nn (H.sv v hvm).1 hok
    have hlen : (bkW v.W (rs1 x)).data.toList.length ≤ 100000000000 := C.bl _ (C.hB.mem v.W (rs1 x) (List.mem_of_getElem? (wsO_at hv)) hok.1 hok.2)
    have hit := (H.hs hq1).item (i := 0) (x := x) rfl
    have hlv := H.mb.lev (H.lv x v hv).1
    have hkey : cellH h3 mi (10 + x * 4 + 1 + 1) = some (.slice (some a5) n5 c5) := by rw [← ek5]; exact hlv 2 _ rfl
    have hkb : RBytes A h3 (.slice (some a5) n5 c5) (bkW v.W (rs1 x)) := by rw [← ek5]; exact bk_key (H.sv v (List.mem_of_getElem? hv)).1 _
    refine tr_skip ?_
    refine q_thn ?_
    refine rG <| rM rfl rfl <| rM rfl rfl <| rC rfl rfl <| rF fa_keyspan_MergingIter_0 rfl rfl <| rs_v (v_load one_p_keyspan_MergingBuffers rfl (by exact H.mb.b2.cell 0 rfl)) rfl ?_
    refine rC rfl rfl <| rF fa_keyspan_MergingBuffers_2 rfl rfl <| rF fa_keyspan_mergingIterHeap_2 rfl rfl <| rs_v (v_load one_sl_keyspan_mergingIterItem rfl (by exact H.b1.cell 4 rfl)) rfl ?_
    refine rs_v (v_indexAddrE (i := 0) u_sl_keyspan_mergingIterItem siz_keyspan_mergingIterItem rfl rfl rfl (Nat.succ_pos _)) rfl ?_
    refine rF fa_keyspan_mergingIterItem_0 rfl rfl <| rs_v (v_load one_p_keyspan_boundKey rfl (by exact hit 0 _ rfl)) rfl ?_
    refine rC rfl rfl <| rF fa_keyspan_boundKey_1 rfl rfl <| rs_v (v_load one_sl_uint8 rfl (by exact hkey)) rfl ?_
    refine rC rfl rfl <| rF fa_keyspan_MergingIter_2 rfl rfl <| rs_w0 (w_store siz_sl_uint8 rfl rfl rfl rfl H.mb.b2 (by rw [H.mb.len]; omega)) ?_
    rintro _ h6 ⟨B9, K6⟩
    have KP := KeepP.newX KP K6 (fun y hy => .inl (hbad y (C.kmi y hy).1))
    have H := H.hdr (hd' := hdC bf st (.slice (some a5) n5 c5) (.iface 188 (visF sb)) s0 s1 s2 s3 1) (by rw [mi_putH (show (3 : Nat) ≤ 10 by omega)] at B9; exact B9) rfl K6
    have O := O.keep K6 C.kmi
    have hit := (H.hs hq1).item (i := 0) (x := x) rfl
    have hlv := H.mb.lev (H.lv x v hv).1
    have hkey : cellH h6 mi (10 + x * 4 + 1 + 1) = some (.slice (some a5) n5 c5) := by rw [← ek5]; exact hlv 2 _ rfl
    have hkb : RBytes A h6 (.slice (some a5) n5 c5) (bkW v.W (rs1 x)) := by rw [← ek5]; exact bk_key (H.sv v (List.mem_of_getElem? hv)).1 _
    refine rN ?_
    refine tr_cut (fun E h' => ∃ st2 bv2, E = [(0, .pointer (some ⟨mi, 0, none⟩)), (1, kv0), (4, .pointer none)] ∧ MXt A bf mi sb vs snap (fun b => F b ∨ h.size ≤ b) rs1 false 1 (x :: q2) st st2 bv2 h' ∧ RBytes (fun b => A b ∨ b ∈ bv2.ownBlock.toList) h' st2 (bkW v.W (rs1 x)) ∧ KeepP F h h') ?_ ?_
    ·
      refine rG <| rM rfl rfl <| rC rfl rfl <| rF fa_keyspan_MergingIter_0 rfl rfl <| rs_v (v_load one_p_keyspan_MergingBuffers rfl (by exact H.mb.b2.cell 0 rfl)) rfl ?_
      refine rC rfl rfl <| rF fa_keyspan_MergingBuffers_2 rfl rfl <| rF fa_keyspan_mergingIterHeap_2 rfl rfl <| rs_v (v_load one_sl_keyspan_mergingIterItem rfl (by exact H.b1.cell 4 rfl)) rfl ?_
      refine rs_v (v_indexAddrE (i := 0) u_sl_keyspan_mergingIterItem siz_keyspan_mergingIterItem rfl rfl rfl (Nat.succ_pos _)) rfl ?_
      refine rF fa_keyspan_mergingIterItem_0 rfl rfl <| rs_v (v_load one_p_keyspan_boundKey rfl (by exact hit 0 _ rfl)) rfl ?_
      refine rC rfl rfl <| rF fa_keyspan_boundKey_0 rfl rfl <| rs_v (v_load one_keyspan_boundKind rfl (by exact hlv 1 _ rfl)) rfl ?_
      refine rs_v (v_eq rfl rfl) rfl ?_
      refine rN ?_
      refine tr_if rfl (fun hif => ?_) (fun hif => ?_)
      · -- yes
        have hkd : (v.at (rs1 x)).kind = 1 := of_decide_eq_true hif
        obtain ⟨ab, cb, rfl⟩ := O.b.slice
        have O0 := O
        refine tr_seq ?_
        have hmiX : mi ∉ (.slice ab lb1.length cb : Value).ownBlock.toList := fun hx => O.b.2 _ hx (.inr (.inr (.inl rfl)))
        have hbfX : bf ∉ (.slice ab lb1.length cb : Value).ownBlock.toList := fun hx => O.b.2 _ hx (.inr (.inl rfl))
        refine tr_draw [(true, 17), (false, 3)] _ (by kernel_rfl) (by kernel_rfl) (by kernel_rfl) ?_
        refine rx_big (Keep []) (Keep (.slice ab lb1.length cb : Value).ownBlock.toList) (keep_pre _) (keep_pre _) (fun _ _ k => k.any) ?_
        refine rb_v (keep_pre _) (fun h' hk => v_move rfl) ?_
        refine rb_v (keep_pre _) (fun h' hk => v_nilCheck_ptr rfl) ?_
        refine rb_v (keep_pre _) (fun h' hk => v_fieldAddr fa_keyspan_MergingIter_0 rfl) ?_
        refine rb_v (keep_pre _) (fun h' hk => v_load one_p_keyspan_MergingBuffers rfl (Blk.cell (hk.blk hmiX H.mb.b2) 0 rfl)) ?_
        refine rb_v (keep_pre _) (fun h' hk => v_move rfl) ?_
        refine rb_v (keep_pre _) (fun h' hk => v_nilCheck_ptr rfl) ?_
        refine rb_v (keep_pre _) (fun h' hk => v_fieldAddr fa_keyspan_MergingIter_0 rfl) ?_
        refine rb_v (keep_pre _) (fun h' hk => v_load one_p_keyspan_MergingBuffers rfl (Blk.cell (hk.blk hmiX H.mb.b2) 0 rfl)) ?_
        refine rb_v (keep_pre _) (fun h' hk => v_nilCheck_ptr rfl) ?_
        refine rb_v (keep_pre _) (fun h' hk => v_fieldAddr fa_keyspan_MergingBuffers_3 rfl) ?_
        refine rb_v (keep_pre _) (fun h' hk => v_load one_sl_uint8 rfl (Blk.cell (hk.blk hbfX H.b1) 5 rfl)) ?_
        refine rb_v (keep_pre _) (fun h' hk => v_slice_h u_sl_uint8 siz_uint8 (i := 0) rfl rfl rfl (Nat.zero_le _)) ?_
        refine rb_v (keep_pre _) (fun h' hk => v_move rfl) ?_
        refine rb_v (keep_pre _) (fun h' hk => v_nilCheck_ptr rfl) ?_
        refine rb_v (keep_pre _) (fun h' hk => v_fieldAddr fa_keyspan_MergingIter_2 rfl) ?_
        refine rb_v (keep_pre _) (fun h' hk => v_load one_sl_uint8 rfl (Blk.cell (hk.blk hmiX H.mb.b2) 2 rfl)) ?_
        refine rb_big (fun v' h' => BW (badB A bf mi sb vs) v' (bkW v.W (rs1 x)).data.toList h' ∧ (v'.ownBlock = (.slice ab lb1.length cb : Value).ownBlock ∨ ∃ z, v'.ownBlock = some z ∧ h6.size ≤ z)) (fun v _ _ k1 k2 hr => ⟨hr.1.keep k2 (by simp), hr.2⟩)
          (fun h' hk => OpW.mono (w_appBW rfl rfl (O.b.cut.keep hk (by simp)) (hkb.stab (hk.st H.low)) hlen (fun y hy => Nat.lt_of_lt_of_le (H.bad_lt O.s.lt y hy) hk.1)) (fun v h'' hv => ⟨by rw [own_block0 (m2 := lb1.length) (c2 := cb)] at hv; exact hv.2.1, hv.1, by
            rw [own_block0 (m2 := lb1.length) (c2 := cb)] at hv
            exact hv.2.2.imp id (fun e => ⟨_, e, hk.1⟩)⟩)) ?_
        refine rb_end ?_; intro ha Ka; simp only [endM, hypF, ofE, argE, List.nil_append]
        rintro v57 ⟨H3, he⟩
        obtain ⟨ab2, cb2, rfl⟩ := H3.slice
        have H := H.keep Ka (fun y hy => ⟨fun e => O.b.2 y hy (.inl e), fun e => O.b.2 y hy (.inr (.inl e)), fun e => O.b.2 y hy (.inr (.inr (.inl e))), fun v hv e => O.b.2 y hy (.inr (.inr (.inr (.inr ⟨v, hv, e⟩))))⟩)
        have O := O.app C Ka H3 (fun y hy => by
          rcases he with e | ⟨z, e, hz⟩
          · rw [e] at hy; exact .inl hy
          · rw [e] at hy; simp at hy; exact .inr (by omega)) (fun y hy => .inr (by have := KP.1; omega))
        have KP := KeepP.newX KP Ka (fun y hy => O0.ob y hy)
        refine rx_seq ?_
        refine rC rfl rfl <| rF fa_keyspan_MergingBuffers_3 rfl rfl <| rs_w0 (w_put siz_sl_uint8 rfl rfl rfl rfl H.b1 rfl) ?_
        rintro _ h7 ⟨B, K9⟩
        have KP := KeepP.newX KP K9 (fun y hy => .inl (hbad y (C.kbf y hy).1))
        have H := H.both (q' := x :: q2) (tl' := tl1) (kv' := kv1) (rev' := false) B (K9.blk (by simpa using fun e => H.ne e.symm) H.mb.b2) H.mb.hdl H.mb.ql (K9.sub (by simp))
        have O := O.keep K9 C.kbf
        refine rs_nil ?_
        refine q_con ?_
        refine rx_nil ?_
        refine q_thn ?_
        refine tr_reg ?_
        refine rM rfl rfl <| rM rfl rfl <| rC rfl rfl <| rF fa_keyspan_MergingIter_0 rfl rfl <| rs_v (v_load one_p_keyspan_MergingBuffers rfl (by exact H.mb.b2.cell 0 rfl)) rfl ?_
        refine rC rfl rfl <| rF fa_keyspan_MergingBuffers_3 rfl rfl <| rs_v (v_load one_sl_uint8 rfl (by exact H.b1.cell 5 rfl)) rfl ?_
        refine rC rfl rfl <| rF fa_keyspan_MergingIter_2 rfl rfl <| rs_w0 (w_store siz_sl_uint8 rfl rfl rfl rfl H.mb.b2 (by rw [H.mb.len]; omega)) ?_
        rintro _ h8 ⟨B9, K8⟩
        have KP := KeepP.newX KP K8 (fun y hy => .inl (hbad y (C.kmi y hy).1))
        have H := H.hdr (hd' := hdC bf st (.slice ab2 (bkW v.W (rs1 x)).data.toList.length cb2) (.iface 188 (visF sb)) s0 s1 s2 s3 1) (by rw [mi_putH (show (3 : Nat) ≤ 10 by omega)] at B9; exact B9) rfl K8
        have O := O.keep K8 C.kmi
        have hst9 : RBytes (fun b => A b ∨ b ∈ (.slice ab2 (bkW v.W (rs1 x)).data.toList.length cb2 : Value).ownBlock.toList) h8 (.slice ab2 (bkW v.W (rs1 x)).data.toList.length cb2) (bkW v.W (rs1 x)) := O.b.bytes (by omega) (fun y hy => .inr hy)
        refine rs_nil ?_
        exact q_cut [(0, _), (1, _), (4, _)] ⟨rfl, rfl, rfl, trivial⟩ ⟨_, _, rfl, ⟨_, _, _, _, _, _, _, _, _, H, O⟩, hst9, KP⟩
      -- no
      skip
      refine tr_skip ?_
      exact q_cut [(0, _), (1, _), (4, _)] ⟨rfl, rfl, rfl, trivial⟩ ⟨_, _, rfl, ⟨_, _, _, _, _, _, _, _, _, H, O⟩, hkb.mono (fun b hb => .inl hb), KP⟩
    rintro E h98 ⟨st2, bv2, rfl, X, hst, KP⟩
    obtain ⟨s0, s1, s2, s3, kv2, L2, tl2, lk2, lb2, H, O⟩ := X
    obtain ⟨a7, c7, e7⟩ := SlR.form2 hst
    generalize (bkW v.W (rs1 x)).data.toList.length = n7 at e7
    subst e7
    refine rG <| rM rfl rfl <| rs_w (w_call (vs := [_]) ok_keyspan_MergingIter_switchToMaxHeap rfl ⟨rfl, trivial⟩ (c_switchToMaxHeap H hrb)) rfl ?_
    rintro _ h10 ⟨rfl, L3, q4, tl3, H', hp4, hH4, K10⟩
    have hst := st_keep H O hst K10 C.kall H.nAall
    have H := H'
    have KP := KeepP.newX KP K10 (fun y hy => .inl (hbad y (C.kall y hy).1))
    have O := O.keep K10 C.kall
    have hq4 := q_lt hp4
    generalize hrs4e : (fun j => rs1 j - 1) = rs4 at H hp4 hH4
    have hrs4 : ∀ (i : Nat) W, (wsO vs)[i]? = some W → rs4 i = tS W key := fun i W hW => by
      have h1 := hrs1 i W hW
      rw [← hrs4e]
      show rs1 i - 1 = _
      omega
    have hkyb := hkey0.stab (fun b hb => KP.2 b hb.2 hb.1)
    refine rN ?_
    refine tr_seq ?_
    refine rG <| rM rfl rfl <| rC rfl rfl <| rF fa_keyspan_MergingIter_5 rfl rfl <| rs_v (v_load one_error rfl (by exact H.mb.b2.cell 8 rfl)) rfl ?_
    refine rs_v (v_ine_nil isi_error rfl rfl) rfl ?_
    refine rN <| tr_if_f rfl ?_
    refine rG <| rM rfl rfl <| rC rfl rfl <| rF fa_keyspan_MergingIter_0 rfl rfl <| rs_v (v_load one_p_keyspan_MergingBuffers rfl (by exact H.mb.b2.cell 0 rfl)) rfl ?_
    refine rC rfl rfl <| rF fa_keyspan_MergingBuffers_2 rfl rfl <| rF fa_keyspan_mergingIterHeap_2 rfl rfl <| rs_v (v_load one_sl_keyspan_mergingIterItem rfl (by exact H.b1.cell 4 rfl)) rfl ?_
    refine rs_v (v_len u_sl_keyspan_mergingIterItem rfl) rfl ?_
    refine rs_v (v_eq rfl rfl) rfl ?_
    refine rN ?_
    refine tr_if rfl (fun hif => ?_) (fun hif => ?_)
    · -- yes
      have hq0 : q4 = [] := List.eq_nil_of_length_eq_zero (by have := of_decide_eq_true hif; omega)
      subst hq0
      have hts0 : ∀ (i : Nat) W, (wsO vs)[i]? = some W → tS W key = 0 := fun i W hW => by
        have h1 := q_none hp4 rfl i W hW
        rw [hrs4 i W hW] at h1
        have := tS_le W key; omega
      refine rG <| rA rfl rfl <| rN <| tr_ret <| q_thn_ret <| q_ret (res_tmp rfl rfl) ?_
      rw [pLT_none C.hB hts0]
      exact mpost_ahead hbad hl KP ⟨_, _, _, _, _, _, _, _, _, H, O⟩ hp4 hH4 (fun i W hW => by rw [hrs4 i W hW, hts0 i W hW]) rfl
    -- no
    obtain ⟨y, q5, rfl⟩ : ∃ y q5, q4 = y :: q5 := by
      cases q4 with
      | nil => exact absurd rfl (of_decide_eq_false hif)
      | cons a b => exact ⟨a, b, rfl⟩
    obtain ⟨w, hw, how⟩ := root_ok hp4
    obtain ⟨a6, n6, c6, ek6⟩ := at_nn (H.sv w (List.mem_of_getElem? hw)).1 how
    have hit6 := (H.hs hq4).item (i := 0) (x := y) rfl
    have hlv6 := H.mb.lev (H.lv y w hw).1
    have hkey6 : cellH h10 mi (10 + y * 4 + 1 + 1) = some (.slice (some a6) n6 c6) := by rw [← ek6]; exact hlv6 2 _ rfl
    have hkb6 : RBytes A h10 (.slice (some a6) n6 c6) (bkW w.W (rs4 y)) := by rw [← ek6]; exact bk_key (H.sv w (List.mem_of_getElem? hw)).1 _
    refine tr_skip ?_
    refine q_thn ?_
    refine tr_seq ?_
    refine tr_cut (fun E h' => h10 = h' ∧ ∃ b : Bool, E = [(0, .pointer (some ⟨mi, 0, none⟩)), (1, kv0), (4, .pointer none), (204, .bool b)] ∧ (b = true → ((w.at (rs4 y)).kind = 2 ∧ bkW w.W (rs4 y) = key)) ∧ (b = false → ¬ ((w.at (rs4 y)).kind = 2 ∧ bkW w.W (rs4 y) = key))) ?_ ?_
    ·
      rcases Bool.eq_false_or_eq_true (decide ((w.at (rs4 y)).kind = 2)) with g1 | g1
      · skip
        refine tr_reg ?_
        refine rM rfl rfl <| rC rfl rfl <| rF fa_keyspan_MergingIter_0 rfl rfl <| rs_v (v_load one_p_keyspan_MergingBuffers rfl (by exact H.mb.b2.cell 0 rfl)) rfl ?_
        refine rC rfl rfl <| rF fa_keyspan_MergingBuffers_2 rfl rfl <| rF fa_keyspan_mergingIterHeap_2 rfl rfl <| rs_v (v_load one_sl_keyspan_mergingIterItem rfl (by exact H.b1.cell 4 rfl)) rfl ?_
        refine rs_v (v_indexAddrE (i := 0) u_sl_keyspan_mergingIterItem siz_keyspan_mergingIterItem rfl rfl rfl (Nat.succ_pos _)) rfl ?_
        refine rF fa_keyspan_mergingIterItem_0 rfl rfl <| rs_v (v_load one_p_keyspan_boundKey rfl (by exact hit6 0 _ rfl)) rfl ?_
        refine rC rfl rfl <| rF fa_keyspan_boundKey_0 rfl rfl <| rs_v (v_load one_keyspan_boundKind rfl (by exact hlv6 1 _ rfl)) rfl ?_
        refine rs_v (v_eq rfl rfl) rfl ?_
        refine rM rfl rfl <| rs_gv rfl (lkb g1) (v_move rfl) rfl <| rs_gv rfl (lkb g1) (v_move rfl) rfl <| rs_gv rfl (lkb g1) (v_nilCheck_ptr rfl) rfl ?_
        refine rs_gv rfl (lkb g1) (v_fieldAddr fa_keyspan_MergingIter_0 rfl) rfl ?_
        refine rs_gv rfl (lkb g1) (v_load one_p_keyspan_MergingBuffers rfl (by exact H.mb.b2.cell 0 rfl)) rfl ?_
        refine rs_gv rfl (lkb g1) (v_nilCheck_ptr rfl) rfl ?_
        refine rs_gv rfl (lkb g1) (v_fieldAddr fa_keyspan_MergingBuffers_2 rfl) rfl ?_
        refine rs_gv rfl (lkb g1) (v_fieldAddr fa_keyspan_mergingIterHeap_2 rfl) rfl ?_
        refine rs_gv rfl (lkb g1) (v_load one_sl_keyspan_mergingIterItem rfl (by exact H.b1.cell 4 rfl)) rfl ?_
        refine rs_gv rfl (lkb g1) (v_indexAddrE (i := 0) u_sl_keyspan_mergingIterItem siz_keyspan_mergingIterItem rfl rfl rfl (Nat.succ_pos _)) rfl ?_
        refine rs_gv rfl (lkb g1) (v_fieldAddr fa_keyspan_mergingIterItem_0 rfl) rfl ?_
        refine rs_gv rfl (lkb g1) (v_load one_p_keyspan_boundKey rfl (by exact hit6 0 _ rfl)) rfl ?_
        refine rs_gv rfl (lkb g1) (v_nilCheck_ptr rfl) rfl ?_
        refine rs_gv rfl (lkb g1) (v_fieldAddr fa_keyspan_boundKey_1 rfl) rfl ?_
        refine rs_gv rfl (lkb g1) (v_load one_sl_uint8 rfl (by exact hkey6)) rfl ?_
        refine rs_gv rfl (lkb g1) (v_move rfl) rfl ?_
        refine rs_gw rfl (lkb g1) (w_call (vs := [_, _, _]) ok_keyspan_MergingIter_cmp rfl ⟨rfl, rfl, rfl, trivial⟩ (c_mcmp H (RBytes.by hkb6) (RBytes.by hkyb))) rfl ?_
        rintro _ h11 ⟨rfl, hsame⟩; have hsame := hsame.symm; subst hsame
        refine rs_gv rfl (lkb g1) (v_eq rfl rfl) rfl ?_
        refine rs_v (v_pick_t (lkb g1) rfl) rfl ?_
        refine rs_nil ?_
        exact q_cut [(0, _), (1, _), (4, _), (204, _)] ⟨rfl, rfl, rfl, rfl, trivial⟩ ⟨rfl, _, rfl, fun e => ⟨of_decide_eq_true g1, cmpB_eq (of_decide_eq_true e)⟩, fun e e2 => of_decide_eq_false e (by rw [e2.2]; exact cmpB_refl _)⟩
      · skip
        refine tr_reg ?_
        refine rM rfl rfl <| rC rfl rfl <| rF fa_keyspan_MergingIter_0 rfl rfl <| rs_v (v_load one_p_keyspan_MergingBuffers rfl (by exact H.mb.b2.cell 0 rfl)) rfl ?_
        refine rC rfl rfl <| rF fa_keyspan_MergingBuffers_2 rfl rfl <| rF fa_keyspan_mergingIterHeap_2 rfl rfl <| rs_v (v_load one_sl_keyspan_mergingIterItem rfl (by exact H.b1.cell 4 rfl)) rfl ?_
        refine rs_v (v_indexAddrE (i := 0) u_sl_keyspan_mergingIterItem siz_keyspan_mergingIterItem rfl rfl rfl (Nat.succ_pos _)) rfl ?_
        refine rF fa_keyspan_mergingIterItem_0 rfl rfl <| rs_v (v_load one_p_keyspan_boundKey rfl (by exact hit6 0 _ rfl)) rfl ?_
        refine rC rfl rfl <| rF fa_keyspan_boundKey_0 rfl rfl <| rs_v (v_load one_keyspan_boundKind rfl (by exact hlv6 1 _ rfl)) rfl ?_
        refine rs_v (v_eq rfl rfl) rfl ?_
        refine rM rfl rfl <| rs_gs rfl (lkb g1) rfl rfl <| rs_gs rfl (lkb g1) rfl rfl <| rs_gs rfl (lkb g1) rfl rfl <| rs_gs rfl (lkb g1) rfl rfl <| rs_gs rfl (lkb g1) rfl rfl <| rs_gs rfl (lkb g1) rfl rfl <| rs_gs rfl (lkb g1) rfl rfl <| rs_gs rfl (lkb g1) rfl rfl <| rs_gs rfl (lkb g1) rfl rfl <| rs_gs rfl (lkb g1) rfl rfl <| rs_gs rfl (lkb g1) rfl rfl <| rs_gs rfl (lkb g1) rfl rfl <| rs_gs rfl (lkb g1) rfl rfl <| rs_gs rfl (lkb g1) rfl rfl <| rs_gs rfl (lkb g1) rfl rfl <| rs_gs rfl (lkb g1) rfl rfl <| rs_gs rfl (lkb g1) rfl rfl <| rs_gs rfl (lkb g1) rfl rfl <| rs_v (v_pick_f (lkb g1) rfl) rfl ?_
        refine rs_nil ?_
        exact q_cut [(0, _), (1, _), (4, _), (204, _)] ⟨rfl, rfl, rfl, rfl, trivial⟩ ⟨rfl, _, rfl, fun e => (by cases e), fun _ e2 => of_decide_eq_false g1 e2.1⟩
    rintro E h94 ⟨hh, b, rfl, hb1, hb0⟩
    subst hh
    refine tr_if rfl (fun hif => ?_) (fun hif => ?_)
    · -- yes
      have hyes := hb1 hif
      obtain ⟨k, hkl, hFN, hpe⟩ := seek_yesL (kf := kfM vs snap) C.hB hw how hrs4 hyes.2
      refine rG <| rM rfl rfl <| rs_w (w_call (vs := [_]) ok_keyspan_MergingIter_findPrevFragmentSet rfl ⟨rfl, trivial⟩ (c_findPrevFragmentSet (F := FU F h _) C (fun b hb => .inl (hbad b hb)) (fu_low hl KP) (MXt.fu ⟨_, _, _, _, _, _, _, _, _, H, O⟩) hp4 hH4 hkl hFN)) rfl ?_
      rintro r h13 hP
      refine rA rfl rfl <| rN <| tr_ret <| q_thn_ret <| q_ret (res_tmp rfl rfl) ?_
      rw [hpe]
      exact mpost_trans hl KP (fun b hb => hb) hP
    -- no
    have hall := seek_noL C.ord hp4 hH4 hw hrs4 (hb0 hif)
    obtain ⟨k, hc⟩ := cut_at C.hB (down_lt key)
    have hFN : FPk (wsO vs) B k rs4 := fp_cut C.hB (down_lt key) hc (fun i W hW => by rw [hrs4 i W hW, hall i W hW]; rfl)
    have hFP : FNk (wsO vs) B k rs1 := fn_cut C.hB (down_lt key) hc (fun i W hW => by rw [hrs1 i W hW, hall i W hW]; rfl)
    obtain ⟨hk0, hκ2⟩ := fp_root' C.hB hFN hp4 hH4 hw
    obtain ⟨hkB2, hκ1⟩ := fn_root' C.hB hFP hp hH hv
    obtain ⟨j, rfl⟩ : ∃ j, k = j + 1 := ⟨k - 1, by omega⟩
    rw [Nat.add_sub_cancel] at hκ2
    rw [hκ1] at hst
    have hdone : ∀ (i : Nat) W, (wsO vs)[i]? = some W → rs4 i = cE W (atB B j) := fun i W hW => by
      rw [hrs4 i W hW, hall i W hW]
      exact cut_cE C.hB (down_lt key) (List.mem_of_getElem? hW) hc
    refine tr_skip ?_
    refine q_thn ?_
    refine rG <| rM rfl rfl <| rM rfl rfl <| rC rfl rfl <| rF fa_keyspan_MergingIter_0 rfl rfl <| rs_v (v_load one_p_keyspan_MergingBuffers rfl (by exact H.mb.b2.cell 0 rfl)) rfl ?_
    refine rC rfl rfl <| rF fa_keyspan_MergingBuffers_2 rfl rfl <| rF fa_keyspan_mergingIterHeap_2 rfl rfl <| rs_v (v_load one_sl_keyspan_mergingIterItem rfl (by exact H.b1.cell 4 rfl)) rfl ?_
    refine rs_v (v_indexAddrE (i := 0) u_sl_keyspan_mergingIterItem siz_keyspan_mergingIterItem rfl rfl rfl (Nat.succ_pos _)) rfl ?_
    refine rF fa_keyspan_mergingIterItem_0 rfl rfl <| rs_v (v_load one_p_keyspan_boundKey rfl (by exact hit6 0 _ rfl)) rfl ?_
    refine rC rfl rfl <| rF fa_keyspan_boundKey_1 rfl rfl <| rs_v (v_load one_sl_uint8 rfl (by exact hkey6)) rfl ?_
    refine rC rfl rfl <| rF fa_keyspan_MergingIter_1 rfl rfl <| rs_w0 (w_store siz_sl_uint8 rfl rfl rfl rfl H.mb.b2 (by rw [H.mb.len]; omega)) ?_
    rintro _ h14 ⟨B9, K14⟩
    have KP := KeepP.newX KP K14 (fun y hy => .inl (hbad y (C.kmi y hy).1))
    have hst := st_keep H O hst K14 C.kmi H.nAm
    have H := H.hdr (hd' := hdC bf (.slice (some a6) n6 c6) (.slice a7 n7 c7) (.iface 188 (visF sb)) s0 s1 s2 s3 (-1)) (by rw [mi_putH (show (2 : Nat) ≤ 10 by omega)] at B9; exact B9) rfl K14
    have O := O.keep K14 C.kmi
    have hit6 := (H.hs hq4).item (i := 0) (x := y) rfl
    have hlv6 := H.mb.lev (H.lv y w hw).1
    have hkey6 : cellH h14 mi (10 + y * 4 + 1 + 1) = some (.slice (some a6) n6 c6) := by rw [← ek6]; exact hlv6 2 _ rfl
    have hkb6 : RBytes A h14 (.slice (some a6) n6 c6) (bkW w.W (rs4 y)) := by rw [← ek6]; exact bk_key (H.sv w (List.mem_of_getElem? hw)).1 _
    obtain ⟨ak, ck, rfl⟩ := O.k.slice
    refine rN ?_
    refine tr_seq ?_
    refine rG <| rM rfl rfl <| rs_w (w_call (vs := [_, _]) ok_keyspan_MergingIter_synthesizeKeys rfl ⟨rfl, rfl, trivial⟩ (c_synthM H O.k O.s C.nb C.nm C.kl2 (C.kr2))) rfl ?_
    rintro _ h15 ⟨rfl, ka, kc, nd, l8, H8, HK8, hl8, htk, hnd8, hown, BS8, K15⟩
    have O0 := O
    have hX8 : ∀ y, y ∈ mi :: bf :: (.slice ak lk2.length ck : Value).ownBlock.toList → ¬ A y ∧ y ∉ bv2.ownBlock.toList := fun y hy => syn_out H O y hy
    have hst := st_keep0 H O hst K15 hX8
    have hkb8 := hkb6.stab (K15.stab fun y hy => ⟨H.low y hy, fun hm => (hX8 y hm).1 hy⟩)
    have hcat := cat_M hdone
    rw [hcat.1] at htk hnd8
    have hrb : ∀ y, y ∈ (sortKT (catX vs (atB B j))).filter (fun y => visK snap y.k) → RBytes A h15 (.slice y.a1 y.n1 y.c1) y.k.suf ∧ RBytes A h15 (.slice y.a2 y.n2 y.c2) y.k.val := fun y hy => catK_rb (D := 1) H8 (by decide) (by rw [hcat.1]; exact (sortKT_perm _).mem_iff.1 (List.mem_filter.1 hy).1)
    have O := O.syn C (fun y hy => .inr (by have := KP.1; omega)) HK8 hl8 hown BS8 K15
    have KP := KeepP.newX KP K15 (syn_kp hbad O0)
    have H := H8
    have hspan : PSpan (FU F h h15) h15 mi 4 ⟨atB B j, atB B (j + 1), kfM vs snap (atB B j)⟩ := by
      have hF9 : ∀ b, A b → FU F h h15 b := fun b hb => .inl (hbad b (.inl hb))
      have hst9 : ∀ b, A b ∨ b ∈ bv2.ownBlock.toList → FU F h h15 b := fun b hb => hb.elim (hF9 b) (fun e => (O.ob b e).imp id (fun e2 => ⟨e2, own_lt O.b.1 b e⟩))
      refine ⟨_, _, _, 0, H.mb.b2.sub 4 4 rfl, ?_, hst.mono hst9, ?_⟩
      · have := hkb8.mono hF9; rw [hκ2] at this; exact this
      · exact pkeys_of HK8 htk hnd8 hl8 hF9 (fun y hy => (O.ok y hy).imp id (fun e2 => ⟨e2, HK8.lt y hy⟩)) hrb
    refine rM rfl rfl <| rs_v (v_extract rfl rfl) rfl ?_
    refine rs_v (v_extract rfl rfl) rfl ?_
    refine rA rfl rfl <| rA rfl rfl <| rN ?_
    refine tr_cut (fun E h' => h15 = h' ∧ ∃ b : Bool, E = [(0, .pointer (some ⟨mi, 0, none⟩)), (1, kv0), (4, .pointer none), (9, .pointer (some ⟨mi, 4, none⟩)), (233, .bool b)] ∧ b = covB (wsO vs) (atB B j)) ?_ ?_
    ·
      rcases Bool.eq_false_or_eq_true (anyK 1 vs rs4 vs.length) with g1 | g1
      · skip
        refine tr_reg ?_
        refine rM rfl rfl <| rM rfl rfl <| rs_gv rfl (lkb g1) (v_move rfl) rfl <| rs_gv rfl (lkb g1) (v_pne u_p_keyspan_Span rfl rfl) rfl ?_
        refine rs_v (v_pick_t (lkb g1) rfl) rfl ?_
        refine rs_nil ?_
        exact q_cut [(0, _), (1, _), (4, _), (9, _), (233, _)] ⟨rfl, rfl, rfl, rfl, rfl, trivial⟩ ⟨rfl, _, rfl, by rw [← hcat.2, g1]; rfl⟩
      · skip
        refine tr_reg ?_
        refine rM rfl rfl <| rM rfl rfl <| rs_gs rfl (lkb g1) rfl rfl <| rs_gs rfl (lkb g1) rfl rfl <| rs_v (v_pick_f (lkb g1) rfl) rfl ?_
        refine rs_nil ?_
        exact q_cut [(0, _), (1, _), (4, _), (9, _), (233, _)] ⟨rfl, rfl, rfl, rfl, rfl, trivial⟩ ⟨rfl, _, rfl, by rw [← hcat.2, g1]⟩
    rintro E h95 ⟨hh, b, rfl, hcv⟩
    subst hh
    refine tr_if rfl (fun hif => ?_) (fun hif => ?_)
    · -- yes
      skip
      refine rG <| rM rfl rfl <| rA rfl rfl <| rN <| tr_ret <| q_thn_ret <| q_ret (res_tmp rfl rfl) ?_
      have hcov : covB (wsO vs) (atB B j) = true := by rw [← hcv]; exact hif
      exact mpost_pt hbad hl KP ⟨_, _, _, _, _, _, _, _, _, H, O⟩ hp4 hH4 ⟨hkB2, ⟨_, _, _, rfl⟩, RBytes.nn hst (C.hB.lt (Nat.lt_succ_self j) hkB2), .inr ⟨rfl, rfl, hdone⟩⟩ (by rw [pLT_cut hc, show min (j + 1 + 1) B.length = j + 2 from by omega]; exact (bwdF_yes hkB2 hcov).2) hspan
    -- no
    have hcov : covB (wsO vs) (atB B j) = false := by rw [← hcv]; exact hif
    refine tr_skip ?_
    refine q_thn ?_
    refine rG <| rM rfl rfl <| rs_w (w_call (vs := [_]) ok_keyspan_MergingIter_findPrevFragmentSet rfl ⟨rfl, trivial⟩ (c_findPrevFragmentSet (F := FU F h _) C (fun b hb => .inl (hbad b hb)) (fu_low hl KP) (MXt.fu ⟨_, _, _, _, _, _, _, _, _, H, O⟩) hp4 hH4 (by omega) hFN)) rfl ?_
    rintro r h17 hP
    refine rA rfl rfl <| rN <| tr_ret <| q_ret (res_tmp rfl rfl) ?_
    rw [pLT_cut hc, show min (j + 1 + 1) B.length = j + 2 from by omega]
    rw [bwdF_no hkB2 hcov]
    exact mpost_trans hl KP (fun b hb => hb) hP
  -- yes
  simp only [dT, dF] at hif
  obtain ⟨v, hv⟩ := ex_get (L := vs) (k := k) (by omega)
  obtain ⟨hlx, hI, hrx⟩ := H.lv k v hv
  obtain ⟨hS, hne, hnb, hAc, hlt⟩ := H.sv v (List.mem_of_getElem? hv)
  have hlv := H.mb.lev hlx
  have hvl := H.vl
  have hit0 : cellH hL2 mi (10 + k * 4 + 0) = some v.it := by rw [← at_it v _]; exact hlv 0 _ rfl
  have hOv := C.ord v (List.mem_of_getElem? hv)
  have hgl := geI_le v.W key
  have hll := ltI_le v.W key
  have hky := (hkey0.stab (fun b hb => KP.2 b hb.2 hb.1)).mono (fun b hb => show b ≠ v.c from fun e => hb.1 (by rw [e]; exact hbad _ (C.kc hv _ (by simp)).1))
  refine tr_skip ?_
  refine q_thn ?_
  refine tr_seq ?_
  refine tr_block <| rG <| rM rfl rfl <| rA rfl rfl <| rN <| rG <| rM rfl rfl <| rC rfl rfl <| rF fa_keyspan_MergingIter_0 rfl rfl <| rs_v (v_load one_p_keyspan_MergingBuffers rfl (by exact H.mb.b2.cell 0 rfl)) rfl ?_
  refine rC rfl rfl <| rF fa_keyspan_MergingBuffers_1 rfl rfl <| rs_v (v_load one_sl_keyspan_mergingIterLevel rfl (by exact H.b1.cell 1 rfl)) rfl ?_
  refine rM rfl rfl <| rs_v (v_indexAddrE (i := k) u_sl_keyspan_mergingIterLevel siz_keyspan_mergingIterLevel rfl rfl rfl (by omega)) rfl ?_
  refine rA rfl rfl <| rN <| rG <| rM rfl rfl <| rC rfl rfl <| rF fa_keyspan_mergingIterLevel_0 rfl rfl <| rs_v (v_load one_keyspan_FragmentIterator rfl (by exact hit0)) rfl ?_
  refine rM rfl rfl <| rs_w (w_mcall (vs := [_]) (lv_SeekGE hS H.low hAc hI hky) rfl ⟨rfl, trivial⟩) rfl ?_
  rintro r h18 ⟨hr, hI1, hI1b, K18⟩
  have hS1 := hS.stab (H.stab K18 (by simpa using hAc))
  obtain ⟨p, hrp, hpc⟩ := seek_form2 hS1 (c := geI v.W key < v.W.length) (geI v.W key) (fun h0 => h0)
  rw [hrp] at hr; subst hr
  have M := H.mb.keep K18 (by simpa using fun e => hne e.symm)
  have B1 := K18.blk (by simpa using fun e => hnb e.symm) H.b1
  have Kc := K18
  have KP := KeepP.newX KP K18 (fun y hy => .inl (hbad y (C.kc hv y hy).1))
  have O := O.keep K18 (C.kc hv)
  have hky2 := hkey0.stab (fun b hb => KP.2 b hb.2 hb.1)
  refine rA rfl rfl <| rN <| rG <| rM rfl rfl <| rs_v (v_peq u_p_keyspan_Span rfl rfl) rfl ?_
  refine rN ?_
  refine tr_if rfl (fun hif => ?_) (fun hif => ?_)
  · -- yes
    obtain ⟨rfl, hc0⟩ : p = none ∧ ¬ geI v.W key < v.W.length := by
      rcases hpc with e | ⟨b, o, x, rfl, _⟩
      · exact e
      · cases hif
    have hts := tS_none hc0
    have hI9 : LevI v (tS v.W key + 1) h18 := by rw [hts, show 2 * v.W.length + 1 = 2 * geI v.W key + 1 from by omega]; exact hI1
    refine tr_reg ?_
    refine rM rfl rfl <| rs_v (v_build1 rfl (bld_keyspan_boundKey_0 _)) rfl ?_
    refine rC rfl rfl <| rF fa_keyspan_mergingIterLevel_1 rfl rfl <| rs_w0 (w_store siz_keyspan_boundKey rfl rfl rfl rfl M.b2 (by rw [M.len]; omega)) ?_
    rintro _ h19 ⟨B9, K19⟩
    have M2 := M.setL (it := v.it) hlx (at_it _ _) B9
    have hI2 := hI9.keep K19 (by simpa using hne)
    have KP := KeepP.newX KP K19 (fun y hy => .inl (hbad y (C.kmi y hy).1))
    have O := O.keep K19 C.kmi
    have H := H.step hv (r := tS v.W key + 1) (by rw [hts, Lev.at0 (by unfold Lev.ok; omega)]; exact M2) hI2 (by have := tS_le v.W key; omega) ((Kc.sub (by simp)).trans (K19.sub (by simp)))
    refine rs_nil ?_
    refine q_blk_n ?_
    refine q_thn ?_
    refine tr_reg ?_
    refine rs_v (v_add rfl rfl (by omega) (by omega)) rfl ?_
    refine rM rfl rfl ?_
    refine rs_nil ?_
    refine q_lp (vs.length - (k + 1)) [(0, _), (1, _), (4, _), (19, _), (20, _)] (by omega) ⟨rfl, rfl, rfl, rfl, rfl, trivial⟩ ⟨k + 1, _, by omega, rfl, rfl, H.congr (fun j _ => rK_step (f := (fun W => tS W key + 1)) hv j), O, KP⟩
  -- no
  obtain ⟨b, o, x, rfl, hc0, hx, hsp, hAb, hcs, hr1, hr2⟩ : ∃ b o x, p = some ⟨b, o, none⟩ ∧ geI v.W key < v.W.length ∧ v.W[geI v.W key]? = some x ∧ v.sp (geI v.W key) = .pointer (some ⟨b, o, none⟩) ∧ A b ∧ CellsAt h18 b o [v.sv (geI v.W key), v.ev (geI v.W key), v.kv (geI v.W key), .int .i8 0] ∧ RBytes A h18 (v.sv (geI v.W key)) x.s ∧ RBytes A h18 (v.ev (geI v.W key)) x.e := by
    rcases hpc with ⟨rfl, _⟩ | e
    · cases hif
    · exact e
  obtain ⟨a9, n9, c9, e9⟩ := (hS.nn _ x hx).1
  obtain ⟨a8, n8, c8, e8⟩ := (hS.nn _ x hx).2
  have hxl := (List.getElem?_eq_some_iff.1 hx).1
  rw [e9, e8] at hcs
  rw [e9] at hr1
  rw [e8] at hr2
  refine rG <| rM rfl rfl <| rM rfl rfl <| rC rfl rfl <| rF fa_keyspan_Span_0 rfl rfl <| rs_v (v_load one_sl_uint8 rfl (by exact hcs 0 _ rfl)) rfl ?_
  refine rM rfl rfl <| rs_w (w_call (vs := [_, _, _]) ok_keyspan_MergingIter_cmp rfl ⟨rfl, rfl, rfl, trivial⟩ (c_mcmp2 M B1 (RBytes.by hr1) (RBytes.by hky2))) rfl ?_
  rintro _ h20 ⟨rfl, hsame⟩; have hsame := hsame.symm; subst hsame
  refine rs_v (v_ge rfl rfl) rfl ?_
  refine rN ?_
  refine tr_if rfl (fun hif => ?_) (fun hif => ?_)
  · -- yes
    have hle : slt x.s key = false := slt_no.2 (of_decide_eq_true hif)
    have hts := tS_ge hx
    rw [if_neg (by rw [hle]; decide)] at hts
    have hI9 : LevI v (tS v.W key + 1) h18 := by rw [hts]; exact hI1
    refine tr_reg ?_
    refine rM rfl rfl <| rM rfl rfl <| rC rfl rfl <| rF fa_keyspan_Span_0 rfl rfl <| rs_v (v_load one_sl_uint8 rfl (by exact hcs 0 _ rfl)) rfl ?_
    refine rM rfl rfl <| rs_v (v_build3 rfl rfl rfl (bld_keyspan_boundKey_0_1_2 _ _ _ _ _)) rfl ?_
    refine rC rfl rfl <| rF fa_keyspan_mergingIterLevel_1 rfl rfl <| rs_w0 (w_store siz_keyspan_boundKey rfl rfl rfl rfl M.b2 (by rw [M.len]; omega)) ?_
    rintro _ h21 ⟨B9, K21⟩
    have M2 := M.setL (it := v.it) hlx (at_it _ _) B9
    have hI2 := hI9.keep K21 (by simpa using hne)
    have KP := KeepP.newX KP K21 (fun y hy => .inl (hbad y (C.kmi y hy).1))
    have O := O.keep K21 C.kmi
    have H := H.step hv (r := tS v.W key + 1) (by rw [hts, Lev.at1 hxl, hsp, e9]; exact M2) hI2 (by have := tS_le v.W key; omega) ((Kc.sub (by simp)).trans (K21.sub (by simp)))
    refine rs_nil ?_
    refine q_blk_n ?_
    refine q_thn ?_
    refine tr_reg ?_
    refine rs_v (v_add rfl rfl (by omega) (by omega)) rfl ?_
    refine rM rfl rfl ?_
    refine rs_nil ?_
    refine q_lp (vs.length - (k + 1)) [(0, _), (1, _), (4, _), (19, _), (20, _)] (by omega) ⟨rfl, rfl, rfl, rfl, rfl, trivial⟩ ⟨k + 1, _, by omega, rfl, rfl, H.congr (fun j _ => rK_step (f := (fun W => tS W key + 1)) hv j), O, KP⟩
  -- no
  have hle : slt x.s key = true := slt_iff.2 (by have := of_decide_eq_false hif; omega)
  have hts := tS_ge hx
  rw [if_pos hle] at hts
  have hI9 : LevI v (tS v.W key + 1) h18 := by rw [hts]; exact hI1b hc0
  refine tr_reg ?_
  refine rM rfl rfl <| rM rfl rfl <| rC rfl rfl <| rF fa_keyspan_Span_1 rfl rfl <| rs_v (v_load one_sl_uint8 rfl (by exact hcs 1 _ rfl)) rfl ?_
  refine rM rfl rfl <| rs_v (v_build3 rfl rfl rfl (bld_keyspan_boundKey_0_1_2 _ _ _ _ _)) rfl ?_
  refine rC rfl rfl <| rF fa_keyspan_mergingIterLevel_1 rfl rfl <| rs_w0 (w_store siz_keyspan_boundKey rfl rfl rfl rfl M.b2 (by rw [M.len]; omega)) ?_
  rintro _ h22 ⟨B9, K22⟩
  have M2 := M.setL (it := v.it) hlx (at_it _ _) B9
  have hI2 := hI9.keep K22 (by simpa using hne)
  have KP := KeepP.newX KP K22 (fun y hy => .inl (hbad y (C.kmi y hy).1))
  have O := O.keep K22 C.kmi
  have H := H.step hv (r := tS v.W key + 1) (by rw [hts, show 2 * geI v.W key + 1 + 1 = 2 * geI v.W key + 2 from rfl, Lev.at2 hxl, hsp, e8]; exact M2) hI2 (by have := tS_le v.W key; omega) ((Kc.sub (by simp)).trans (K22.sub (by simp)))
  refine rs_nil ?_
  refine q_blk_n ?_
  refine q_thn ?_
  refine tr_reg ?_
  refine rs_v (v_add rfl rfl (by omega) (by omega)) rfl ?_
  refine rM rfl rfl ?_
  refine rs_nil ?_
  refine q_lp (vs.length - (k + 1)) [(0, _), (1, _), (4, _), (19, _), (20, _)] (by omega) ⟨rfl, rfl, rfl, rfl, rfl, trivial⟩ ⟨k + 1, _, by omega, rfl, rfl, H.congr (fun j _ => rK_step (f := (fun W => tS W key + 1)) hv j), O, KP⟩
set_option maxHeartbeats 1000000
def mrgW (vs : List Lev) (snap : Nat) (B : List ByteArray) : List SpanD := (sgM vs snap B).filterMap (covF (wsO vs))
def MIt (A : Nat → Prop) (bf mi sb : Nat) (vs : List Lev) (snap : Nat) (B : List ByteArray) : ItI := fun p F h => ∃ q, MQ A bf mi sb vs snap B q F h ∧ relP (covF (wsO vs)) (sgM vs snap B) p q
theorem covF_same {ws : List (List SpanD)} {s s' : SpanD} (h : covF ws s = some s') : s' = s := by
  unfold covF at h
  split at h
  · cases h; rfl
  · cases h
theorem cur_rel {ws : List (List SpanD)} {W : List SpanD} {p q : Pos} (h : relP (covF ws) W p q) (hp : p ≠ .nowhere) : cur (W.filterMap (covF ws)) p = cur W q := by
  cases p with
  | nowhere => exact absurd rfl hp
  | behind => cases q <;> first | rfl | exact h.elim
  | ahead => cases q <;> first | rfl | exact h.elim
  | pt j =>
    cases q with
    | pt i =>
      obtain ⟨s, s', h1, h2, rfl⟩ := h
      have := covF_same h2
      subst this
      show (W.filterMap (covF ws))[_]? = W[i]?
      rw [fm_at h1 h2, h1]
    | _ => exact h.elim
section
variable {A : Nat → Prop} {bf mi sb : Nat} {vs : List Lev} {snap : Nat} {B : List ByteArray} {F : Nat → Prop} {h h' : Heap} {p : Pos} {r : Value}
theorem itpost_of (P : MPost A bf mi sb vs snap B F h p r h') (hp : p ≠ .nowhere) : ItPost (mrgW vs snap B) (MIt A bf mi sb vs snap B) F h p r h' := by
  obtain ⟨q, Q, hr, KP, R⟩ := P
  refine ⟨FU F h h', ⟨q, Q, hr⟩, fun b hb => hb.imp id And.left, KP, ?_⟩
  unfold Ret at R ⊢
  unfold mrgW
  rw [cur_rel hr hp]; exact R
theorem itpost_nw (P : MPost A bf mi sb vs snap B F h p r h') (hp : p ≠ .nowhere) (hc : cur (mrgW vs snap B) p = none) : ItPost (mrgW vs snap B) (MIt A bf mi sb vs snap B) F h .nowhere r h' := by
  obtain ⟨q, Q, hr, KP, R⟩ := P
  refine ⟨FU F h h', ⟨q, Q, trivial⟩, fun b hb => hb.imp id And.left, KP, ?_⟩
  unfold Ret at R ⊢
  unfold mrgW at hc
  rw [cur_rel hr hp] at hc
  rw [hc] at R
  exact R
theorem fwdF_nn {k : Nat} {ff : SpanD → Option SpanD} {W : List SpanD} : fwdP ff W (posF B k) ≠ .nowhere := by
  unfold posF
  split
  · simp only [fwdP]; split <;> simp
  · simp [fwdP]
theorem bwdF_nn {k : Nat} {ff : SpanD → Option SpanD} {W : List SpanD} : bwdP ff W (posB k) ≠ .nowhere := by
  unfold posB
  split
  · simp [bwdP]
  · simp only [bwdP]; split <;> simp
theorem cur_nil {p : Pos} : cur [] p = none := by cases p <;> simp [cur]
theorem fm_nil {W : List SpanD} {ff : SpanD → Option SpanD} (h : W.length = 0) : W.filterMap ff = [] := by
  have : W = [] := List.eq_nil_of_length_eq_zero h
  subst this; rfl
theorem first_of (C : MC A bf mi sb vs B) (P : MPost A bf mi sb vs snap B F h (fwdP (covF (wsO vs)) (sgM vs snap B) (posF B 0)) r h') : ItPost (mrgW vs snap B) (MIt A bf mi sb vs snap B) F h (pFirst (mrgW vs snap B)) r h' := by
  rcases posF_first (kf := kfM vs snap) C.hB with e | e
  · rcases fwd_first (ff := covF (wsO vs)) (W := sgM vs snap B) with e2 | ⟨e2, e3⟩
    · have := itpost_of P fwdF_nn
      rw [← e, e2] at this; exact this
    · show ItPost _ _ _ _ (pFirst ((sgM vs snap B).filterMap (covF (wsO vs)))) _ _
      rw [e2]
      refine itpost_nw P fwdF_nn ?_
      rw [← e]; exact e3
  · have e2 : mrgW vs snap B = [] := fm_nil e
    have e3 : pFirst (mrgW vs snap B) = .nowhere := by rw [e2]; rfl
    rw [e3]
    exact itpost_nw P fwdF_nn (by rw [e2]; exact cur_nil)
theorem last_of (C : MC A bf mi sb vs B) (P : MPost A bf mi sb vs snap B F h (bwdP (covF (wsO vs)) (sgM vs snap B) (posB B.length)) r h') : ItPost (mrgW vs snap B) (MIt A bf mi sb vs snap B) F h (pLast (mrgW vs snap B)) r h' := by
  rcases posB_last (kf := kfM vs snap) (B := B) (ws := wsO vs) C.hB with e | e
  · rcases bwd_last (ff := covF (wsO vs)) (W := sgM vs snap B) with e2 | ⟨e2, e3⟩
    · have := itpost_of P bwdF_nn
      rw [← e, e2] at this; exact this
    · show ItPost _ _ _ _ (pLast ((sgM vs snap B).filterMap (covF (wsO vs)))) _ _
      rw [e2]
      refine itpost_nw P bwdF_nn ?_
      rw [← e]; exact e3
  · have e2 : mrgW vs snap B = [] := fm_nil e
    have e3 : pLast (mrgW vs snap B) = .nowhere := by rw [e2]; rfl
    rw [e3]
    exact itpost_nw P bwdF_nn (by rw [e2]; exact cur_nil)
theorem ge_pos {ws : List (List SpanD)} {W : List SpanD} {key : ByteArray} (hO : Tess.Ord W) (hS : Shrink (covF ws) W) : pGE (W.filterMap (covF ws)) key = fwdP (covF ws) W (pGE W key) := by
  have hs := seek_ge hO hS key
  cases hc : cur (W.filterMap (covF ws)) (fwdP (covF ws) W (pGE W key)) with
  | none => exact hs.1 hc
  | some s' =>
    rw [hs.2 s' hc]
    have hle : sle s'.e key = false := by
      unfold pGE at hc
      by_cases e : geI W key < W.length
      · rw [if_pos e] at hc
        simp only [fwdP] at hc
        by_cases e2 : (W.drop (geI W key)).filterMap (covF ws) = []
        · rw [if_pos e2] at hc; cases hc
        · rw [if_neg e2] at hc
          have h1 : (W.filterMap (covF ws))[((W.take (geI W key)).filterMap (covF ws)).length]? = some s' := hc
          rw [fm_split (geI W key), List.getElem?_append_right (Nat.le_refl _), Nat.sub_self] at h1
          obtain ⟨x, hx, hf⟩ := List.mem_filterMap.1 (List.mem_of_getElem? h1)
          have hxs := covF_same hf
          subst hxs
          obtain ⟨i, hi, ei⟩ := List.mem_iff_getElem.1 hx
          have hx2 : W[geI W key + i]? = some s' := by rw [← List.getElem?_drop, List.getElem?_eq_getElem hi, ei]
          obtain ⟨z, hz⟩ := ex_get (L := W) (k := geI W key) e
          exact not_sle.2 (slt_of_slt_sle (not_sle.1 (geI_at hz)) (hO.ends (by omega) hz hx2))
      · rw [if_neg e] at hc; cases hc
    rw [if_neg (by rw [hle]; decide)]
theorem lt_pos {ws : List (List SpanD)} {W : List SpanD} {key : ByteArray} (hO : Tess.Ord W) (hS : Shrink (covF ws) W) : pLT (W.filterMap (covF ws)) key = bwdP (covF ws) W (pLT W key) := by
  have hs := seek_lt hO hS key
  cases hc : cur (W.filterMap (covF ws)) (bwdP (covF ws) W (pLT W key)) with
  | none => exact hs.1 hc
  | some s' =>
    rw [hs.2 s' hc]
    have hle : slt s'.s key = true := by
      unfold pLT at hc
      by_cases e : ltI W key = 0
      · rw [if_pos e] at hc; cases hc
      · rw [if_neg e, bwd_pt, show ltI W key - 1 + 1 = ltI W key from by omega] at hc
        by_cases e2 : ((W.take (ltI W key)).filterMap (covF ws)).length = 0
        · rw [if_pos e2] at hc; cases hc
        · rw [if_neg e2] at hc
          have h1 : (W.filterMap (covF ws))[((W.take (ltI W key)).filterMap (covF ws)).length - 1]? = some s' := hc
          rw [fm_split (ltI W key), List.getElem?_append_left (by omega)] at h1
          obtain ⟨x, hx, hf⟩ := List.mem_filterMap.1 (List.mem_of_getElem? h1)
          have hxs := covF_same hf
          subst hxs
          obtain ⟨i, hi, ei⟩ := List.mem_iff_getElem.1 hx
          have hil : i < ltI W key := by simp at hi; omega
          have hx2 : W[i]? = some s' := by
            have : (W.take (ltI W key))[i]? = some s' := by rw [List.getElem?_eq_getElem hi, ei]
            rw [List.getElem?_take, if_pos hil] at this; exact this
          have hle := ltI_le W key
          obtain ⟨z, hz⟩ := ex_get (L := W) (k := ltI W key - 1) (by omega)
          exact slt_of_sle_slt (hO.starts (by omega) hx2 hz) (ltI_at e hz)
    rw [if_pos hle]
theorem MG.stabF {rs : Nat → Nat} {kv bv : Value} {rev : Bool} {hd tl : List Value} {L : List LvD} {q : List Nat} (H : MG A bf mi vs rs kv bv rev hd L q tl h) (hst : ∀ b, (A b ∨ b = bf ∨ b = mi ∨ ∃ v, v ∈ vs ∧ v.c = b) → h'[b]? = h[b]?) (hz : h.size ≤ h'.size) : MG A bf mi vs rs kv bv rev hd L q tl h' :=
  ⟨(hst bf (.inr (.inl rfl))).trans H.b1, ⟨(hst mi (.inr (.inr (.inl rfl)))).trans H.mb.b2, H.mb.hdl, H.mb.ll, H.mb.ql⟩, fun i v hv => by
    obtain ⟨h1, ⟨x, B, hX⟩, h3⟩ := H.lv i v hv
    exact ⟨h1, ⟨x, (hst v.c (.inr (.inr (.inr ⟨v, List.mem_of_getElem? hv, rfl⟩)))).trans B, hX⟩, h3⟩, fun v hv => by
    obtain ⟨h1, h2, h3, h4, h5⟩ := H.sv v hv
    exact ⟨h1.stab (fun b hb => hst b (.inl hb)), h2, h3, h4, Nat.lt_of_lt_of_le h5 hz⟩, H.dis, H.ne, H.low.mono hz, H.nA, H.vl⟩
theorem MQ.stab {q : Pos} (Q : MQ A bf mi sb vs snap B q F h) (hst : Stab F h h') (hz : h.size ≤ h'.size) : MQ A bf mi sb vs snap B q F h' := by
  obtain ⟨hb, hl, rs, rev, dir, qq, st, en, bv, ⟨s0, s1, s2, s3, kv, L, tl, lk, lb, H, o⟩, h2, h3, h4⟩ := Q
  obtain ⟨xs, O, hr, hbb⟩ := o.k
  refine ⟨hb, hl.mono hz, rs, rev, dir, qq, st, en, bv, ⟨s0, s1, s2, s3, kv, L, tl, lk, lb, H.stabF (fun b hx => hst b (hb b ?_)) hz, ⟨xs, Own.stabF O hst (fun b e => o.ok b (by rw [e]; simp)), hr, hbb⟩, ⟨Own.stabF o.b.1 hst (fun b e => o.ob b (by rw [e]; simp)), o.b.2⟩, (hst sb (hb sb (.inr (.inr (.inr (.inl rfl)))))).trans o.s, o.d, o.ok, o.ob, o.ll⟩, h2, h3, h4⟩
  rcases hx with h | h | h | h
  · exact .inl h
  · exact .inr (.inl h)
  · exact .inr (.inr (.inl h))
  · exact .inr (.inr (.inr (.inr h)))
end
theorem m_MiFirst (v : Value) : Meth Tryz.prog 166 v "First" 87 v := fun _ => by kernel_rfl
theorem m_MiLast (v : Value) : Meth Tryz.prog 166 v "Last" 177 v := fun _ => by kernel_rfl
theorem m_MiNext (v : Value) : Meth Tryz.prog 166 v "Next" 89 v := fun _ => by kernel_rfl
theorem m_MiPrev (v : Value) : Meth Tryz.prog 166 v "Prev" 178 v := fun _ => by kernel_rfl
theorem m_MiSeekGE (v : Value) : Meth Tryz.prog 166 v "SeekGE" 179 v := fun _ => by kernel_rfl
theorem m_MiSeekLT (v : Value) : Meth Tryz.prog 166 v "SeekLT" 180 v := fun _ => by kernel_rfl
theorem m_MiError (v : Value) : Meth Tryz.prog 166 v "Error" 176 v := fun _ => by kernel_rfl
section
variable {χ : Chi} {A : Nat → Prop} {bf mi sb : Nat} {vs : List Lev} {snap : Nat} {B : List ByteArray} {F : Nat → Prop} {h : Heap} {q : Pos}
theorem mnext (C : MC A bf mi sb vs B) (Q : MQ A bf mi sb vs snap B q F h) (hc : canNext q = true) : Cl Tryz.prog χ 89 #[.pointer (some ⟨mi, 0, none⟩)] h (MPost A bf mi sb vs snap B F h (fwdP (covF (wsO vs)) (sgM vs snap B) (pNext (sgM vs snap B) q))) ∧ fwdP (covF (wsO vs)) (sgM vs snap B) (pNext (sgM vs snap B) q) ≠ .nowhere := by
  obtain ⟨hb, hl, rs, rev, dir, qq, st, en, bv, X, h2, h3, h4⟩ := Q
  cases q with
  | pt j =>
    rw [posF_next]
    refine ⟨?_, fwdF_nn⟩
    obtain ⟨hj, hn1, hn2, ⟨rfl, rfl, hr⟩ | ⟨rfl, rfl, hr⟩⟩ := h4
    · exact c_MNext1 (rev := false) C hb hl X h2 h3 (by omega) (fn_next C.hB (by omega) hr) hn1 hn2
    · exact c_MNext2 C hb hl X (fun i v hv => by rw [hr i _ (wsO_at hv)]; exact cE_le _ _) (by omega) (fn_next C.hB (by omega) (fun i W hW => by show rs i + 1 = _; rw [hr i W hW]))
  | ahead =>
    rw [posF_ahead]
    refine ⟨?_, fwdF_nn⟩
    obtain ⟨rfl, rfl, hr⟩ := h4
    exact c_MNext2 C hb hl X (fun i v hv => by rw [hr i _ (wsO_at hv)]; omega) (Nat.zero_le _) (fn_cut C.hB (p := fun _ => false) (fun _ _ _ e => e) (cut_none B) (fun i W hW => by show rs i + 1 = _; rw [hr i W hW, cut_none_cnt C.hB (p := fun _ => false) (fun _ _ _ e => e) (List.mem_of_getElem? hW) (cut_none B)]))
  | behind => cases hc
  | nowhere => cases hc
theorem mprev (C : MC A bf mi sb vs B) (Q : MQ A bf mi sb vs snap B q F h) (hc : canPrev q = true) : Cl Tryz.prog χ 178 #[.pointer (some ⟨mi, 0, none⟩)] h (MPost A bf mi sb vs snap B F h (bwdP (covF (wsO vs)) (sgM vs snap B) (pPrev (sgM vs snap B) q))) ∧ bwdP (covF (wsO vs)) (sgM vs snap B) (pPrev (sgM vs snap B) q) ≠ .nowhere := by
  obtain ⟨hb, hl, rs, rev, dir, qq, st, en, bv, X, h2, h3, h4⟩ := Q
  cases q with
  | pt j =>
    rw [posB_prev]
    refine ⟨?_, bwdF_nn⟩
    obtain ⟨hj, hn1, hn2, ⟨rfl, rfl, hr⟩ | ⟨rfl, rfl, hr⟩⟩ := h4
    · exact c_MPrev2 C hb hl X (fun i v hv => by rw [hr i _ (wsO_at hv)]; omega) (by omega) (fp_cut C.hB (down_le _) (cut_le C.hB (by omega)) (fun i W hW => by show rs i - 1 = _; rw [hr i W hW]; rfl))
    · exact c_MPrev1 (rev := true) C hb hl X h2 h3 (by omega) (fp_cut C.hB (down_le _) (cut_le C.hB (by omega)) hr) hn1 hn2
  | behind =>
    rw [posB_behind]
    refine ⟨?_, bwdF_nn⟩
    obtain ⟨rfl, rfl, hr⟩ := h4
    exact c_MPrev2 C hb hl X (fun i v hv => by rw [hr i _ (wsO_at hv)]; omega) (Nat.le_refl _) (fp_cut C.hB (p := fun _ => true) (fun _ _ _ e => e) (cut_all B) (fun i W hW => by show rs i - 1 = _; rw [hr i W hW, cut_all_cnt C.hB (p := fun _ => true) (fun _ _ _ e => e) (List.mem_of_getElem? hW) (cut_all B)]; rfl))
  | ahead => cases hc
  | nowhere => cases hc
theorem mi_ok (χ : Chi) {snap : Nat} (C : MC A bf mi sb vs B) : IterOK Tryz.prog χ (mrgW vs snap B) 166 (.pointer (some ⟨mi, 0, none⟩)) (MIt A bf mi sb vs snap B) where
  low := fun ⟨q, Q, _⟩ => Q.2.1
  stab := fun ⟨q, Q, hr⟩ hs hz => ⟨q, Q.stab hs hz, hr⟩
  first := fun ⟨q, Q, _⟩ => by
    obtain ⟨hb, hl, rs, rev, dir, qq, st, en, bv, X, _⟩ := Q
    exact ⟨_, _, ok_keyspan_MergingIter_First, m_MiFirst _, (c_MFirst C hb hl X).mono fun r h' P => first_of C P⟩
  last := fun ⟨q, Q, _⟩ => by
    obtain ⟨hb, hl, rs, rev, dir, qq, st, en, bv, X, _⟩ := Q
    exact ⟨_, _, ok_keyspan_MergingIter_Last, m_MiLast _, (c_MLast C hb hl X).mono fun r h' P => last_of C P⟩
  next := fun ⟨q, Q, hr⟩ hc => by
    obtain ⟨h1, h2⟩ := fwd_next hr hc
    obtain ⟨h3, h4⟩ := mnext (χ := χ) C Q h1
    exact ⟨_, _, ok_keyspan_MergingIter_Next, m_MiNext _, h3.mono fun r h' P => by
      have := itpost_of P h4
      rw [h2] at this; exact this⟩
  prev := fun ⟨q, Q, hr⟩ hc => by
    obtain ⟨h1, h2⟩ := bwd_prev hr hc
    obtain ⟨h3, h4⟩ := mprev (χ := χ) C Q h1
    exact ⟨_, _, ok_keyspan_MergingIter_Prev, m_MiPrev _, h3.mono fun r h' P => by
      have := itpost_of P h4
      rw [h2] at this; exact this⟩
  ge := fun {p F h kv key} ⟨q, Q, _⟩ hk => by
    obtain ⟨hb, hl, rs, rev, dir, qq, st, en, bv, X, _⟩ := Q
    refine ⟨_, _, ok_keyspan_MergingIter_SeekGE, m_MiSeekGE _, (c_MSeekGE C hb hl X hk).mono fun r h' P => ?_⟩
    have e : pGE (mrgW vs snap B) key = fwdP (covF (wsO vs)) (sgM vs snap B) (pGE (sgM vs snap B) key) := ge_pos (segs_ord C.hB) (cov_shrink C.hB)
    rw [e]
    refine itpost_of P ?_
    unfold pGE
    split
    · simp only [fwdP]; split <;> simp
    · simp [fwdP]
  lt := fun {p F h kv key} ⟨q, Q, _⟩ hk => by
    obtain ⟨hb, hl, rs, rev, dir, qq, st, en, bv, X, _⟩ := Q
    refine ⟨_, _, ok_keyspan_MergingIter_SeekLT, m_MiSeekLT _, (c_MSeekLT C hb hl X hk).mono fun r h' P => ?_⟩
    have e : pLT (mrgW vs snap B) key = bwdP (covF (wsO vs)) (sgM vs snap B) (pLT (sgM vs snap B) key) := lt_pos (segs_ord C.hB) (cov_shrink C.hB)
    rw [e]
    refine itpost_of P ?_
    unfold pLT
    split
    · simp [bwdP]
    · simp only [bwdP]; split <;> simp
  err := fun ⟨q, Q, _⟩ => by
    obtain ⟨hb, hl, rs, rev, dir, qq, st, en, bv, ⟨s0, s1, s2, s3, kv, L, tl, lk, lb, H, o⟩, h2, h3, h4⟩ := Q
    refine ⟨_, _, ok_keyspan_MergingIter_Error, m_MiError _, ?_⟩
    have hq := q_lt h2
    cases qq with
    | nil => exact c_mErr0 (q := []) H hq
    | cons x q2 => exact c_mErr1 (q := q2) H hq
end
set_option maxHeartbeats 1000000
def RBN (A : Nat → Prop) (h : Heap) (v : Value) (s : ByteArray) : Prop := RBytes A h v s ∧ NN v
def PSpanN (A : Nat → Prop) (h : Heap) (b o : Nat) (s : SpanD) : Prop := ∃ sv ev kv, CellsAt h b o [sv, ev, kv, .int .i8 0] ∧ RBN A h sv s.s ∧ RBN A h ev s.e ∧ PKeys A h kv s.ks
def PSpansN (A : Nat → Prop) (h : Heap) (v : Value) (l : List SpanD) : Prop := SlR h A 4 (PSpanN A) v l
def cPSpanN (A : Nat → Prop) (h : Heap) (c : List Value) (s : SpanD) : Prop := ∃ sv ev kv, c = [sv, ev, kv, .int .i8 0] ∧ RBN A h sv s.s ∧ RBN A h ev s.e ∧ PKeys A h kv s.ks
theorem cPSpanN_st : RStab cPSpanN := ⟨fun _ _ _ _ _ s ⟨a, b, c, e, h1, h2, h3⟩ => ⟨a, b, c, e, ⟨h1.1.stab s, h1.2⟩, ⟨h2.1.stab s, h2.2⟩, h3.stab s⟩, fun _ _ _ _ _ s ⟨a, b, c, e, h1, h2, h3⟩ => ⟨a, b, c, e, ⟨h1.1.mono s, h1.2⟩, ⟨h2.1.mono s, h2.2⟩, h3.mono s⟩⟩
theorem cPSpanN_r (F : Nat → Prop) (h : Heap) (b o : Nat) (c : List Value) (a : SpanD) (hc : CellsAt h b o c) (hr : cPSpanN F h c a) : PSpanN F h b o a := by obtain ⟨x, y, z, rfl, h1, h2, h3⟩ := hr; exact ⟨x, y, z, hc, h1, h2, h3⟩
theorem PSpanN.p {A : Nat → Prop} {h : Heap} {b o : Nat} {s : SpanD} (H : PSpanN A h b o s) : PSpan A h b o s := by
  obtain ⟨sv, ev, kv, hc, h1, h2, h3⟩ := H
  exact ⟨sv, ev, kv, 0, hc, h1.1, h2.1, h3⟩
theorem PSpanN.stab {A : Nat → Prop} {h h' : Heap} {b o : Nat} {s : SpanD} (hb : A b) (H : PSpanN A h b o s) (k : Stab A h h') : PSpanN A h' b o s := by
  obtain ⟨sv, ev, kv, hc, h1, h2, h3⟩ := H
  exact ⟨sv, ev, kv, k.cells hb hc, ⟨h1.1.stab k, h1.2⟩, ⟨h2.1.stab k, h2.2⟩, h3.stab k⟩
theorem PSpanN.mono {A A' : Nat → Prop} {h : Heap} {b o : Nat} {s : SpanD} (H : PSpanN A h b o s) (k : ∀ b, A b → A' b) : PSpanN A' h b o s := by
  obtain ⟨sv, ev, kv, hc, h1, h2, h3⟩ := H
  exact ⟨sv, ev, kv, hc, ⟨h1.1.mono k, h1.2⟩, ⟨h2.1.mono k, h2.2⟩, h3.mono k⟩
theorem PSpansN.stab {A : Nat → Prop} {h h' : Heap} {v : Value} {l : List SpanD} (H : PSpansN A h v l) (k : Stab A h h') : PSpansN A h' v l := SlR.stab H fun _ _ _ hb hc => hc.stab hb k
theorem PSpansN.mono {A A' : Nat → Prop} {h : Heap} {v : Value} {l : List SpanD} (H : PSpansN A h v l) (k : ∀ b, A b → A' b) : PSpansN A' h v l := SlR.mono H k fun _ _ _ _ hc => hc.mono k
theorem PSpansN.p {A : Nat → Prop} {h : Heap} {v : Value} {l : List SpanD} (H : PSpansN A h v l) : PSpans A h v l := SlR.mono H (fun _ hb => hb) fun _ _ _ _ hc => hc.p
theorem c_spanN (χ : Chi) (h : Heap) (A : Nat → Prop) (hA : Low A h) (s : SpanD) (kv : Value) (hks : RKeys A h kv s.ks) (hm : SpanD.small s) :
    Cl Tryz.prog χ 67 #[.agg #[.string s.s, .string s.e, kv]] h
      (fun r h' => (∃ sv ev kv', r = .agg #[sv, ev, kv', .int .i8 0] ∧ RBN (Up N0 h h') h' sv s.s ∧ RBN (Up N0 h h') h' ev s.e ∧ PKeys (Up N0 h h') h' kv' s.ks) ∧ Keep [] h h') := by
  obtain ⟨ka, kc, rfl⟩ := hks.form2
  refine cl_intro Tryz.func67 rfl rfl rfl ?_
  have K : Keep [] h h := Keep.refl _ _
  refine rG <| rs_w (w_newbox rfl) rfl ?_
  rintro _ h1 ⟨rfl, B1, K1, Z1⟩
  have S1 := K.1; have K := K.new0 K1
  refine rs_w (w_new zero_keyspan_Span) rfl ?_
  rintro _ h2 ⟨rfl, B2, K2, Z2⟩
  have B1 := K2.blk (by simp) B1
  have S2 := K.1; have K := K.new0 K2
  refine rN ?_
  refine tr_seq ?_
  have S0 : h.size ≤ h2.size := K.1
  have hA2 := hA.mono S0
  refine tr_draw [(true, 10), (false, 1)] _ (by kernel_rfl) (by kernel_rfl) (by kernel_rfl) ?_
  refine rx_any (Keep []) (keep_pre _) ?_
  refine rm_v (keep_pre _) (fun h' hk => v_fieldAddr fa_impl_Span_0 rfl) ?_
  refine rm_v (keep_pre _) (fun h' hk => v_load one_string rfl (Blk.cell (hk.blk (by simp) B1) _ rfl)) ?_
  refine rm_w (fun v h' => RBN (Up N0 h2 h') h' v s.s) (fun v _ _ k1 k2 hr => ⟨upb (n0low _) k1.1 hr.1 k2, hr.2⟩) (fun h' hk => OpW.mono (w_bytes u_string u_sl_uint8 u_uint8 rfl hm.1) (fun v h'' hv => by
    obtain ⟨c, e, K', r⟩ := hv
    exact ⟨K', r.mono (fun b hb => .inr ⟨by have := hk.1; omega, hb.2⟩), ⟨_, _, _, e⟩⟩)) ?_
  refine rm_v (keep_pre _) (fun h' hk => v_fieldAddr fa_impl_Span_1 rfl) ?_
  refine rm_v (keep_pre _) (fun h' hk => v_load one_string rfl (Blk.cell (hk.blk (by simp) B1) _ rfl)) ?_
  refine rm_w (fun v h' => RBN (Up N0 h2 h') h' v s.e) (fun v _ _ k1 k2 hr => ⟨upb (n0low _) k1.1 hr.1 k2, hr.2⟩) (fun h' hk => OpW.mono (w_bytes u_string u_sl_uint8 u_uint8 rfl hm.2.1) (fun v h'' hv => by
    obtain ⟨c, e, K', r⟩ := hv
    exact ⟨K', r.mono (fun b hb => .inr ⟨by have := hk.1; omega, hb.2⟩), ⟨_, _, _, e⟩⟩)) ?_
  refine rm_v (keep_pre _) (fun h' hk => v_fieldAddr fa_impl_Span_2 rfl) ?_
  refine rm_v (keep_pre _) (fun h' hk => v_load one_sl_impl_SpanKey rfl (Blk.cell (hk.blk (by simp) B1) _ rfl)) ?_
  refine rm_w (fun v h' => PKeys (Up N0 h2 h') h' v s.ks) (fun v _ _ k1 k2 hr => upp (n0low _) k1.1 hr k2) (fun h' hk => OpW.mono (w_call (vs := [_]) ok_impl_spanKeys rfl ⟨rfl, trivial⟩ (c_spanKeys χ h' A (hA.mono (K.new0 hk).1) _ s.ks (hks.stab ((K.new0 hk).st hA)) hm.2.2.1 hm.2.2.2)) (fun v h'' hv => ⟨hv.2, hv.1.mono (Up.trans2 hk.1 (Nat.le_refl _))⟩)) ?_
  refine rm_o3 5 8 11 (fun v h' => ∃ sv ev kv', v = .agg #[sv, ev, kv', .int .i8 0] ∧ RBN (Up N0 h2 h') h' sv s.s ∧ RBN (Up N0 h2 h') h' ev s.e ∧ PKeys (Up N0 h2 h') h' kv' s.ks) rfl rfl rfl rfl rfl rfl (by kernel_rfl) (by kernel_rfl) (by kernel_rfl)
    (fun v _ _ k1 k2 hr => by obtain ⟨a, b, c, e, r1, r2, r3⟩ := hr; exact ⟨a, b, c, e, ⟨upb (n0low _) k1.1 r1.1 k2, r1.2⟩, ⟨upb (n0low _) k1.1 r2.1 k2, r2.2⟩, upp (n0low _) k1.1 r3 k2⟩)
    (fun u u2 u3 h' hk hu hu2 hu3 => by
      obtain ⟨a1, n1, c1, rfl⟩ := hu.1.form2
      obtain ⟨a2, n2, c2, rfl⟩ := hu2.1.form2
      obtain ⟨a3, n3, c3, rfl⟩ := hu3.form2
      exact (v_build3 rfl rfl rfl (bld_keyspan_Span_0_1_2 _ _ _ _ _ _ _ _ _)).w.mono (fun _ _ e => by obtain ⟨e1, e2⟩ := e; subst e1; subst e2; exact ⟨Keep.refl _ _, _, _, _, rfl, hu, hu2, hu3⟩)) ?_
  refine rm_end ?_; intro ha Ka; simp only [endM, hypF, ofE, argE, List.nil_append]
  intro v12 hv12 v11 _ v8 _ v5 _
  obtain ⟨sv, ev, kv', rfl, r1, r2, r3⟩ := hv12
  obtain ⟨a1, n1, c1, rfl⟩ := r1.1.form2
  obtain ⟨a2, n2, c2, rfl⟩ := r2.1.form2
  obtain ⟨a3, n3, c3, rfl⟩ := r3.form2
  have B2 := Ka.blk (by simp) B2
  have K := K.new0 Ka; have Za := Ka.1
  refine rx_seq ?_
  refine rs_w0 (w_put siz_keyspan_Span rfl rfl rfl rfl B2 rfl) ?_
  rintro _ h3 ⟨B3, K3⟩
  have K := K.new1 K3 (.inr (by omega))
  refine rs_nil ?_
  refine q_con ?_
  refine rx_nil ?_
  refine q_thn ?_
  refine tr_ret <| q_ret (res_cell (vs := [_, _, _, _]) rfl rfl many_keyspan_Span (by exact B3.sub 0 4 rfl)) ?_
  have hs := stab_skip (n0low h) S0 Za K3 (by omega) (by omega)
  exact ⟨⟨_, _, _, rfl, ⟨(r1.1.stab hs).mono (Up.trans2 S0 K3.1), r1.2⟩, ⟨(r2.1.stab hs).mono (Up.trans2 S0 K3.1), r2.2⟩, (r3.stab hs).mono (Up.trans2 S0 K3.1)⟩, K⟩
theorem c_spansN (χ : Chi) (h : Heap) (A : Nat → Prop) (hA : Low A h) (v : Value) (W : List SpanD) (hW : RSpans A h v W) (hn : W.length ≤ 100000) (hm : ∀ s, s ∈ W → SpanD.small s) :
    Cl Tryz.prog χ 65 #[v] h (fun r h' => PSpansN (Up N0 h h') h' r W ∧ Keep [] h h') := by
  obtain ⟨hlen, a, c, rfl, hx⟩ := hW.form
  refine cl_intro Tryz.func65 rfl rfl rfl ?_
  have K : Keep [] h h := Keep.refl _ _
  refine rG <| rA rfl rfl <| rN <| rG <| rA rfl rfl <| rN ?_
  refine tr_seq ?_
  refine rG <| rM rfl rfl <| rs_v (v_len u_sl_impl_Span rfl) rfl ?_
  refine rM rfl rfl <| rN <| tr_block ?_
  refine tr_loop (fun m E h' => ∃ k v n, k ≤ W.length ∧ m = W.length - k ∧ E = [(3, v), (6, .slice a W.length c), (7, .int .i64 (W.length : Int)), (8, .int .i64 (k : Int))] ∧ Keep [] h h' ∧ n = (W.take k).length ∧ OutR N0 h h' h.size 89 4 cPSpanN v n (W.take k)) W.length [(3, _), (6, _), (7, _), (8, _)] ⟨rfl, rfl, rfl, rfl, trivial⟩ ⟨0, _, 0, Nat.zero_le _, rfl, rfl, K, rfl, OutR.nil _ _ _ _ _ _ _⟩ ?_
  rintro m E hL1 ⟨k, v, n, hk, rfl, rfl, K, hn, hout⟩
  have hout0 := hout
  obtain ⟨xs, F, O, hrow, hF⟩ := hout
  have hob := own_ne O; have KL := Keep.refl [] hL1
  refine rG <| rs_v (v_lt rfl rfl) rfl ?_
  refine rN ?_
  refine tr_seq ?_
  refine tr_ifn rfl (fun hif => ?_) (fun hif => ?_)
  · -- no
    simp only [dT, dF] at hif
    have hkk : k = W.length := by omega
    subst hkk
    refine tr_exit <| q_thn_exit ?_
    refine q_lp_exit ?_
    refine q_blk_hit ?_
    refine q_thn ?_
    refine rG <| rM rfl rfl <| rA rfl rfl <| rN <| tr_ret <| q_ret (res_tmp rfl rfl) ?_
    rw [List.take_length] at hout0 hn
    exact ⟨hout0.fin cPSpanN_st hn (Nat.le_refl _) cPSpanN_r, K⟩
  -- yes
  simp only [dT, dF] at hif
  rcases hx with rfl | ⟨b, o, rfl, hAb, hR⟩
  · simp at hif; omega
  obtain ⟨x, hsk⟩ := ex_get (L := W) (k := k) (by omega)
  have hkl : k < W.length := (List.getElem?_eq_some_iff.1 hsk).1
  have KL0 := K.1
  obtain ⟨kv, hcc, hkx⟩ := hR k x hsk
  obtain ⟨ka, kc, rfl⟩ := hkx.form2
  have hcells := K.cells (by simp) hcc
  have hnk : n = k := by rw [hn, List.length_take]; omega
  refine tr_skip ?_
  refine q_thn ?_
  refine tr_seq ?_
  refine tr_block <| rG <| rs_v (v_indexAddrN u_sl_impl_Span siz_impl_Span rfl rfl (by omega)) rfl ?_
  refine rs_v (v_loadAgg (vs := [_, _, _]) many_impl_Span rfl (by exact hcells)) rfl ?_
  refine rs_w (w_new zero_impl_Span) rfl ?_
  rintro _ h2 ⟨rfl, B2, K2, Z2⟩
  have O := O.keep2 K2 (fun x hm => by have := hob x hm; simp; try omega)
  have S2 := K.1; have K := K.new0 K2; have KL := KL.new0 K2
  refine rs_w0 (w_put siz_impl_Span rfl rfl rfl rfl B2 rfl) ?_
  rintro _ h3 ⟨B3, K3⟩
  have O := O.keep2 K3 (fun x hm => by have := hob x hm; simp; try omega)
  have B2 := B3; have K := K.new1 K3 (by first | (right; omega) | (left; simp; done)); have Z3 := K3.1; have KL := KL.new1 K3 (.inr (by omega))
  refine rN ?_
  refine tr_reg ?_
  refine rM rfl rfl <| rs_v (v_loadAgg (vs := [_, _, _]) many_impl_Span rfl (by exact B2.sub _ 3 rfl)) rfl ?_
  refine rs_w (w_call (vs := [_]) ok_impl_Span_span rfl ⟨rfl, trivial⟩ (c_spanN χ _ A (hA.mono (by omega)) x _ (hkx.stab (K.st hA)) (hm x (List.mem_of_getElem? hsk)))) rfl ?_
  rintro _ h4 ⟨⟨sv, ev, kv4, rfl, r1, r2, r3⟩, K4⟩
  obtain ⟨a1, n1, c1, rfl⟩ := r1.1.form2
  obtain ⟨a2, n2, c2, rfl⟩ := r2.1.form2
  obtain ⟨a3, n3, c3, rfl⟩ := r3.form2
  have B2 := K4.blk (by simp) B2
  have O := O.keep2 K4 (fun x hm => by have := hob x hm; simp; try omega)
  have K := K.new0 K4; have Z4 := K4.1; have KL := KL.new0 K4
  refine rs_w (w_new1 u_sl_keyspan_Span siz_keyspan_Span zero_keyspan_Span rfl rfl rfl rfl rfl) rfl ?_
  rintro _ h5 ⟨rfl, B5, K5, Z5⟩
  have B2 := K5.blk (by simp) B2
  have O := O.keep2 K5 (fun x hm => by have := hob x hm; simp; try omega)
  have S5 := K.1; have K := K.new0 K5; have KL := KL.new0 K5
  refine rs_w (w_app1 u_sl_keyspan_Span info_keyspan_Span rfl rfl rfl O rfl rfl B5 rfl (by omega) (by omega) (by omega)) rfl ?_
  rintro v6 h6 ⟨O6, K6, N6, F6⟩
  have K := K.newX K6 (fun x hm => .inr (by have := hob x hm; omega)); have Z6 := K6.1
  have B2 := K6.blk (fun hm => by first | (have := hob _ hm; omega) | exact absurd rfl (hnb _ hm)) B2
  have B5 := K6.blk (fun hm => by first | (have := hob _ hm; omega) | exact absurd rfl (hnb _ hm)) B5
  refine rA rfl rfl ?_
  refine rs_nil ?_
  refine q_blk_n ?_
  refine q_thn ?_
  refine tr_reg ?_
  refine rs_v (v_add rfl rfl (by omega) (by omega)) rfl ?_
  refine rM rfl rfl ?_
  refine rs_nil ?_
  refine q_lp (W.length - (k + 1)) [(3, _), (6, _), (7, _), (8, _)] (by omega) ⟨rfl, rfl, rfl, rfl, trivial⟩ ⟨k + 1, v6, n + 1, by omega, rfl, rfl, K, ?_, ?_⟩
  · rw [take_snoc' hsk]; rw [List.length_append, ← hn]; rfl
  · rw [take_snoc' hsk]
    exact OutR.snoc cPSpanN_st (n0low h) (by omega) hob hrow hF KL0 KL O6 K6 F6 rfl (⟨_, _, _, rfl, ⟨(r1.1.stab (K5.st ((n0low _).up K4.1))).mono (Up.trans2 (by omega) K5.1), r1.2⟩, ⟨(r2.1.stab (K5.st ((n0low _).up K4.1))).mono (Up.trans2 (by omega) K5.1), r2.2⟩, (r3.stab (K5.st ((n0low _).up K4.1))).mono (Up.trans2 (by omega) K5.1)⟩)
set_option maxHeartbeats 1000000
theorem cells_app {h : Heap} {b o : Nat} {xs ys : List Value} (h1 : CellsAt h b o xs) (h2 : CellsAt h b (o + xs.length) ys) : CellsAt h b o (xs ++ ys) := fun j v hj => by
  by_cases e : j < xs.length
  · rw [List.getElem?_append_left e] at hj; exact h1 j v hj
  · rw [List.getElem?_append_right (by omega)] at hj
    have := h2 _ v hj
    rw [show o + xs.length + (j - xs.length) = o + j from by omega] at this
    exact this
theorem cells_flat {h : Heap} {b : Nat} : ∀ (l : List KT) (o : Nat), (∀ (i : Nat) y, l[i]? = some y → CellsAt h b (o + i * 3) y.cells) → CellsAt h b o ((l.map KT.cells).flatten)
  | [], o, _ => CellsAt.nil _ _ _
  | y :: l, o, hx => by
    rw [List.map_cons, List.flatten_cons]
    refine cells_app (by have := hx 0 y rfl; simpa using this) ?_
    refine cells_flat l _ fun i z hz => ?_
    have := hx (i + 1) z (by simpa using hz)
    rw [show o + (i + 1) * 3 = o + y.cells.length + i * 3 from by show o + (i + 1) * 3 = o + 3 + i * 3; omega] at this
    exact this
theorem keys_kt {A : Nat → Prop} {h : Heap} {kv : Value} {ks : List KeyD} (hK : PKeys A h kv ks) : ∃ l, KTR A h kv l ∧ l.map KT.k = ks := by
  obtain ⟨hl, a, c, e, hx⟩ := hK.form
  have hf : ∀ i : Nat, ∃ y : KT, ∀ b o k, a = some ⟨b, o, none⟩ → ks[i]? = some k → y.k = k ∧ CellsAt h b (o + i * 3) y.cells ∧ RBytes A h (.slice y.a1 y.n1 y.c1) y.k.suf ∧ RBytes A h (.slice y.a2 y.n2 y.c2) y.k.val := fun i => by
    rcases hx with e2 | ⟨b, o, ea, hA, hR⟩
    · exact ⟨default, fun b o k _ hk => (by rw [e2] at hk; cases hk)⟩
    · cases hk : ks[i]? with
      | none => exact ⟨default, fun b o k _ hk2 => by cases hk2⟩
      | some k =>
        obtain ⟨sv, vv, hc, h1, h2⟩ := hR i k hk
        obtain ⟨a1, c1, rfl⟩ := SlR.form2 h1
        obtain ⟨a2, c2, rfl⟩ := SlR.form2 h2
        exact ⟨⟨k, a1, _, c1, a2, _, c2⟩, fun b2 o2 k2 e1 e2 => (by rw [ea] at e1; cases e1; cases e2; exact ⟨rfl, hc, h1, h2⟩)⟩
  obtain ⟨f, hf⟩ := Classical.axiomOfChoice hf
  rcases hx with e2 | ⟨b, o, ea, hA, hR⟩
  · subst e2
    exact ⟨[], ⟨a, c, e, .inl rfl, fun y hy => by cases hy⟩, rfl⟩
  · have hmap : ((List.range ks.length).map f).map KT.k = ks := by
      apply List.ext_getElem?
      intro i
      rw [List.getElem?_map, List.getElem?_map]
      by_cases hi : i < ks.length
      · rw [List.getElem?_range hi, List.getElem?_eq_getElem hi]
        simp only [Option.map_some]
        rw [(hf i b o ks[i] ea (List.getElem?_eq_getElem hi)).1]
      · rw [List.getElem?_eq_none (l := ks) (by omega), List.getElem?_eq_none (l := List.range ks.length) (by rw [List.length_range]; omega)]; rfl
    refine ⟨(List.range ks.length).map f, ⟨a, c, by simpa using e, .inr ⟨b, o, ea, hA, cells_flat _ _ fun i y hy => ?_⟩, fun y hy => ?_⟩, hmap⟩
    · rw [List.getElem?_map] at hy
      by_cases hi : i < ks.length
      · rw [List.getElem?_range hi] at hy; cases hy
        exact (hf i b o ks[i] ea (List.getElem?_eq_getElem hi)).2.1
      · rw [List.getElem?_eq_none (l := List.range ks.length) (by rw [List.length_range]; omega)] at hy; cases hy
    · obtain ⟨i, hi, rfl⟩ := List.mem_map.1 hy
      have hi := List.mem_range.1 hi
      exact (hf i b o ks[i] ea (List.getElem?_eq_getElem hi)).2.2
def WOK (W : List SpanD) : Prop := W.length ≤ 1000 ∧ Tess.Ord W ∧ ∀ s, s ∈ W → s.ks.length ≤ 10000 ∧ ∀ k, k ∈ s.ks → 0 ≤ k.tr ∧ k.tr < 18446744073709551616
theorem mk_lev {A : Nat → Prop} {h : Heap} {a : Option Addr} {cc : Nat} {W : List SpanD} (hP : PSpansN A h (.slice a W.length cc) W) (hW : WOK W) (c : Nat) :
    ∃ v : Lev, v.W = W ∧ v.a = a ∧ v.cc = cc ∧ v.c = c ∧ LevS A v h ∧ (∀ s, (v.kt s).length ≤ 10000) ∧ (∀ (s : Nat) y, y ∈ v.kt s → 0 ≤ y.k.tr ∧ y.k.tr < 18446744073709551616) := by
  have hP0 := hP
  obtain ⟨hl, a', c', e, hx⟩ := hP
  cases e
  have hf : ∀ i : Nat, ∃ y : Value × Value × Value × List KT, (∀ x, W[i]? = some x → (∃ b o, a = some ⟨b, o, none⟩ ∧ A b ∧ CellsAt h b (o + i * 4) [y.1, y.2.1, y.2.2.1, .int .i8 0] ∧ RBytes A h y.1 x.s ∧ RBytes A h y.2.1 x.e ∧ PKeys A h y.2.2.1 x.ks) ∧ (KTR A h y.2.2.1 y.2.2.2 ∧ y.2.2.2.map KT.k = x.ks) ∧ NN y.1 ∧ NN y.2.1) ∧ (W[i]? = none → y.2.2.2 = []) := fun i => by
    cases hi : W[i]? with
    | none => exact ⟨⟨.nilIface, .nilIface, .nilIface, []⟩, fun x hx => (by cases hx), fun _ => rfl⟩
    | some x =>
      obtain ⟨b, o, ea, hA, sv, ev, kv, hc, h1, h2, h3⟩ := hx i x hi
      obtain ⟨l, hl1, hl2⟩ := keys_kt h3
      exact ⟨⟨sv, ev, kv, l⟩, fun y hy => (by cases hy; exact ⟨⟨b, o, ea, hA, hc, h1.1, h2.1, h3⟩, ⟨hl1, hl2⟩, h1.2, h2.2⟩), fun e => (by cases e)⟩
  obtain ⟨f, hf⟩ := Classical.axiomOfChoice hf
  have hkt : ∀ (s : Nat) y, y ∈ (f s).2.2.2 → ∃ x, W[s]? = some x ∧ y.k ∈ x.ks := fun s y hy => by
    cases hs : W[s]? with
    | none => rw [(hf s).2 hs] at hy; cases hy
    | some x =>
      refine ⟨x, rfl, ?_⟩
      rw [← ((hf s).1 x hs).2.1.2]
      exact List.mem_map_of_mem hy
  refine ⟨⟨W, a, cc, c, fun i => (f i).1, fun i => (f i).2.1, fun i => (f i).2.2.1, fun i => (f i).2.2.2⟩, rfl, rfl, rfl, rfl, ⟨hW.1, hW.2.1, hP0.p, fun s x hs => ((hf s).1 x hs).1, fun s x hs => ((hf s).1 x hs).2.1, fun s x hs => ((hf s).1 x hs).2.2⟩, fun s => ?_, fun s y hy => ?_⟩
  · show (f s).2.2.2.length ≤ 10000
    cases hs : W[s]? with
    | none => rw [(hf s).2 hs]; simp
    | some x =>
      have h1 := ((hf s).1 x hs).2.1.2
      have h2 := (hW.2.2 x (List.mem_of_getElem? hs)).1
      rw [← h1, List.length_map] at h2; exact h2
  · obtain ⟨x, hx, hm⟩ := hkt s y hy
    exact (hW.2.2 x (List.mem_of_getElem? hx)).2 _ hm
theorem KTR.mono {A A' : Nat → Prop} {h : Heap} {kv : Value} {l : List KT} (H : KTR A h kv l) (k : ∀ b, A b → A' b) : KTR A' h kv l := by
  obtain ⟨a, c, e, hc, hb⟩ := H
  refine ⟨a, c, e, ?_, fun y hy => ⟨(hb y hy).1.mono k, (hb y hy).2.mono k⟩⟩
  rcases hc with e2 | ⟨b, o, e2, hA, hc⟩
  · exact .inl e2
  · exact .inr ⟨b, o, e2, k b hA, hc⟩
theorem LevS.mono {A A' : Nat → Prop} {v : Lev} {h : Heap} (H : LevS A v h) (k : ∀ b, A b → A' b) : LevS A' v h :=
  ⟨H.hn, H.ord, H.sps.mono k, fun s x hs => by
    obtain ⟨b, o, e, hA, hc, h1, h2, h3⟩ := H.cells s x hs
    exact ⟨b, o, e, k b hA, hc, h1.mono k, h2.mono k, h3.mono k⟩, fun s x hs => ⟨KTR.mono (H.keys s x hs).1 k, (H.keys s x hs).2⟩, H.nn⟩
structure LvR where
  v : Lev
  lo : Nat
def LvX (F : Nat → Prop) (h : Heap) (x : LvR) : Prop := LevS (fun b => x.lo ≤ b ∧ b < x.v.c) x.v h ∧ Blk h x.v.c (itL (.slice x.v.a x.v.W.length x.v.cc) (-1)) 208 ∧ (∀ s, (x.v.kt s).length ≤ 10000) ∧ (∀ (s : Nat) y, y ∈ x.v.kt s → 0 ≤ y.k.tr ∧ y.k.tr < 18446744073709551616) ∧ x.lo ≤ x.v.c ∧ ∀ b, x.lo ≤ b → b ≤ x.v.c → F b
theorem LvX.stab {F : Nat → Prop} {h h' : Heap} {x : LvR} (H : LvX F h x) (k : Stab F h h') : LvX F h' x := by
  obtain ⟨h1, h2, h3, h4, h5, h6⟩ := H
  exact ⟨h1.stab (fun b hb => k b (h6 b hb.1 (by omega))), (k _ (h6 _ h5 (Nat.le_refl _))).trans h2, h3, h4, h5, h6⟩
theorem LvX.mono {F F' : Nat → Prop} {h : Heap} {x : LvR} (H : LvX F h x) (k : ∀ b, F b → F' b) : LvX F' h x := by
  obtain ⟨h1, h2, h3, h4, h5, h6⟩ := H
  exact ⟨h1, h2, h3, h4, h5, fun b hb hc => k b (h6 b hb hc)⟩
def cLv (F : Nat → Prop) (h : Heap) (c : List Value) (x : LvR) : Prop := c = [x.v.it] ∧ LvX F h x
def RLv (F : Nat → Prop) (h : Heap) (b o : Nat) (x : LvR) : Prop := CellsAt h b o [x.v.it] ∧ LvX F h x
theorem cLv_st : RStab cLv := ⟨fun _ _ _ _ _ s ⟨e, h⟩ => ⟨e, h.stab s⟩, fun _ _ _ _ _ s ⟨e, h⟩ => ⟨e, h.mono s⟩⟩
theorem cLv_r (F : Nat → Prop) (h : Heap) (b o : Nat) (c : List Value) (a : LvR) (hc : CellsAt h b o c) (hr : cLv F h c a) : RLv F h b o a := by obtain ⟨rfl, h⟩ := hr; exact ⟨hc, h⟩
def RLevel (A : Nat → Prop) (h : Heap) (b o : Nat) (W : List SpanD) : Prop := ∃ v, CellsAt h b o [v] ∧ RSpans A h v W
def RLevels (A : Nat → Prop) (h : Heap) (v : Value) (ws : List (List SpanD)) : Prop := SlR h A 1 (RLevel A) v ws
def cLevel (A : Nat → Prop) (h : Heap) (c : List Value) (W : List SpanD) : Prop := ∃ v, c = [v] ∧ RSpans A h v W
theorem RLevel.stab {A : Nat → Prop} {h h' : Heap} {b o : Nat} {W : List SpanD} (hb : A b) (H : RLevel A h b o W) (k : Stab A h h') : RLevel A h' b o W := by
  obtain ⟨v, h1, h2⟩ := H
  exact ⟨v, k.cells hb h1, h2.stab k⟩
theorem RLevels.stab {A : Nat → Prop} {h h' : Heap} {v : Value} {ws : List (List SpanD)} (H : RLevels A h v ws) (k : Stab A h h') : RLevels A h' v ws := SlR.stab H fun _ _ _ hb hc => hc.stab hb k
theorem RLevels.mono {A A' : Nat → Prop} {h : Heap} {v : Value} {ws : List (List SpanD)} (H : RLevels A h v ws) (k : ∀ b, A b → A' b) : RLevels A' h v ws := SlR.mono H k fun _ _ _ _ ⟨v, h1, h2⟩ => ⟨v, h1, h2.mono k⟩
theorem cLevel_st : RStab cLevel := ⟨fun _ _ _ _ _ s ⟨v, e, h⟩ => ⟨v, e, h.stab s⟩, fun _ _ _ _ _ s ⟨v, e, h⟩ => ⟨v, e, h.mono s⟩⟩
theorem cLevel_r (F : Nat → Prop) (h : Heap) (b o : Nat) (c : List Value) (a : List SpanD) (hc : CellsAt h b o c) (hr : cLevel F h c a) : RLevel F h b o a := by obtain ⟨v, rfl, h⟩ := hr; exact ⟨v, hc, h⟩
theorem c_fragments (χ : Chi) (h : Heap) (A : Nat → Prop) (hA : Low A h) (v : Value) (ws : List (List SpanD)) (hW : RLevels A h v ws) (hn : ws.length ≤ 10) (hok : ∀ W, W ∈ ws → WOK W) (hm : ∀ W, W ∈ ws → ∀ s, s ∈ W → SpanD.small s) :
    Cl Tryz.prog χ 44 #[v] h (fun r h' => ∃ ls : List LvR, SlR h' (Up N0 h h') 1 (RLv (Up N0 h h')) r ls ∧ ls.map (fun x => x.v.W) = ws ∧ ls.Pairwise (fun x y => x.v.c < y.lo) ∧ (∀ x, x ∈ ls → h.size ≤ x.lo ∧ x.v.c < h'.size) ∧ Keep [] h h') := by
  obtain ⟨hlen, a, c, rfl, hx⟩ := hW.form
  refine cl_intro Tryz.func44 rfl rfl rfl ?_
  have K : Keep [] h h := Keep.refl _ _
  refine rG <| rA rfl rfl <| rN <| rG <| rA rfl rfl <| rN ?_
  refine tr_seq ?_
  refine rG <| rM rfl rfl <| rs_v (v_len u_sl_sl_impl_Span rfl) rfl ?_
  refine rM rfl rfl <| rN <| tr_block ?_
  refine tr_loop (fun m E h' => ∃ k v n ls, k ≤ ws.length ∧ m = ws.length - k ∧ E = [(3, v), (6, .slice a ws.length c), (7, .int .i64 (ws.length : Int)), (8, .int .i64 (k : Int))] ∧ Keep [] h h' ∧ n = k ∧ ls.length = k ∧ OutR N0 h h' h.size 93 1 cLv v n ls ∧ ls.map (fun x => x.v.W) = ws.take k ∧ ls.Pairwise (fun x y => x.v.c < y.lo) ∧ (∀ x, x ∈ ls → h.size ≤ x.lo ∧ x.v.c < h'.size)) ws.length [(3, _), (6, _), (7, _), (8, _)] ⟨rfl, rfl, rfl, rfl, trivial⟩ ⟨0, _, 0, [], Nat.zero_le _, rfl, rfl, K, rfl, rfl, OutR.nil _ _ _ _ _ _ _, rfl, List.Pairwise.nil, fun x hx => (by cases hx)⟩ ?_
  rintro m E hL1 ⟨k, v, n, ls, hk, rfl, rfl, K, hnk, hlk, hout, hmap, hpw, hall⟩
  subst hnk
  have hout0 := hout
  obtain ⟨xs, F, O, hrow, hF⟩ := hout
  have hob := own_ne O; have KL := Keep.refl [] hL1
  refine rG <| rs_v (v_lt rfl rfl) rfl ?_
  refine rN ?_
  refine tr_seq ?_
  refine tr_ifn rfl (fun hif => ?_) (fun hif => ?_)
  · -- no
    simp only [dT, dF] at hif
    have hkk : n = ws.length := by omega
    refine tr_exit <| q_thn_exit ?_
    refine q_lp_exit ?_
    refine q_blk_hit ?_
    refine q_thn ?_
    refine rG <| rM rfl rfl <| rA rfl rfl <| rN <| tr_ret <| q_ret (res_tmp rfl rfl) ?_
    refine ⟨ls, hout0.fin cLv_st (by omega) (Nat.le_refl _) cLv_r, ?_, hpw, hall, K⟩
    rw [hmap, hkk, List.take_length]
  -- yes
  simp only [dT, dF] at hif
  rcases hx with rfl | ⟨b, o, rfl, hAb, hR⟩
  · simp at hif; omega
  obtain ⟨W, hsk⟩ := ex_get (L := ws) (k := n) (by omega)
  have hkl : n < ws.length := (List.getElem?_eq_some_iff.1 hsk).1
  have KL0 := K.1
  have hWm := List.mem_of_getElem? hsk
  obtain ⟨kv, hcc, hkx⟩ := hR n W hsk
  obtain ⟨ka, kc, rfl⟩ := SlR.form2 hkx
  have hcells := K.cells (by simp) hcc
  have hWS := hkx.stab (K.st hA)
  have hWn : W.length ≤ 100000 := by have := (hok W hWm).1; omega
  have hWm := hm W hWm
  have hokW := hok W (List.mem_of_getElem? hsk)
  refine tr_skip ?_
  refine q_thn ?_
  refine tr_seq ?_
  refine tr_block <| rG <| rs_v (v_indexAddrN u_sl_sl_impl_Span siz_sl_impl_Span rfl rfl (by omega)) rfl ?_
  refine rs_v (v_load one_sl_impl_Span rfl (by exact hcells 0 _ rfl)) rfl ?_
  refine rA rfl rfl <| rN ?_
  refine tr_draw [(true, 10), (false, 2)] _ (by kernel_rfl) (by kernel_rfl) (by kernel_rfl) ?_
  refine rx_any (Keep []) (keep_pre _) ?_
  refine rm_v (keep_pre _) (fun h' hk => v_move rfl) ?_
  refine rm_w (fun v h' => ∃ g rest, v = .pointer (some ⟨g, 0, none⟩) ∧ Blk h' g (cmpF :: rest) 136) (fun v _ _ k1 k2 hr => by obtain ⟨g, rest, e, B⟩ := hr; exact ⟨g, rest, e, k2.blk (by simp) B⟩) (fun h' hk => OpW.mono (w_call (vs := []) ok_base_DefaultComparer rfl trivial (c_DefaultComparer χ h')) (fun v h'' hv => by obtain ⟨e, ⟨rest, B⟩, K'⟩ := hv; exact ⟨K', _, rest, e, B⟩)) ?_
  refine rm_o 13 (fun v h' => ∃ g rest, v = .pointer (some ⟨g, 0, none⟩) ∧ Blk h' g (cmpF :: rest) 136) rfl (by kernel_rfl) (fun v _ _ k1 k2 hr => by obtain ⟨g, rest, e, B⟩ := hr; exact ⟨g, rest, e, k2.blk (by simp) B⟩) (fun u h' hk hu => by
    obtain ⟨g, rest, rfl, B⟩ := hu
    exact (v_nilCheck_ptr rfl).w.mono (fun _ _ e => by obtain ⟨e1, e2⟩ := e; subst e1; subst e2; exact ⟨Keep.refl _ _, g, rest, rfl, B⟩)) ?_
  refine rm_o 14 (fun v h' => ∃ g rest, v = .pointer (some ⟨g, 0, none⟩) ∧ Blk h' g (cmpF :: rest) 136) rfl (by kernel_rfl) (fun v _ _ k1 k2 hr => by obtain ⟨g, rest, e, B⟩ := hr; exact ⟨g, rest, e, k2.blk (by simp) B⟩) (fun u h' hk hu => by
    obtain ⟨g, rest, rfl, B⟩ := hu
    exact (v_fieldAddr fa_base_Comparer_0 rfl).w.mono (fun _ _ e => by obtain ⟨e1, e2⟩ := e; subst e1; subst e2; exact ⟨Keep.refl _ _, g, rest, rfl, B⟩)) ?_
  refine rm_o 15 (fun v h' => v = cmpF) rfl (by kernel_rfl) (fun v _ _ k1 k2 hr => hr) (fun u h' hk hu => by
    obtain ⟨g, rest, rfl, B⟩ := hu
    exact (v_load one_base_Compare rfl (Blk.cell B 0 rfl)).w.mono (fun _ _ e => by obtain ⟨e1, e2⟩ := e; subst e1; subst e2; exact ⟨Keep.refl _ _, rfl⟩)) ?_
  refine rm_v (keep_pre _) (fun h' hk => v_move rfl) ?_
  refine rm_w (fun v h' => PSpansN (Up N0 hL1 h') h' v W) (fun v _ _ k1 k2 hr => (hr.stab (k2.st ((n0low _).up k1.1))).mono (Up.grow k2.1)) (fun h' hk => OpW.mono (w_call (vs := [_]) ok_impl_spans rfl ⟨rfl, trivial⟩ (c_spansN χ h' A (hA.mono (K.new0 hk).1) _ W (hWS.stab (hk.st (hA.mono KL0))) hWn hWm)) (fun v h'' hv => ⟨hv.2, hv.1.mono (Up.trans2 hk.1 (Nat.le_refl _))⟩)) ?_
  refine rm_o2 16 18 (fun v h' => ∃ b a c, v = .pointer (some ⟨b, 0, none⟩) ∧ hL1.size ≤ b ∧ Blk h' b (itL (.slice a W.length c) (-1)) 208 ∧ PSpansN (fun x => hL1.size ≤ x ∧ x < b) h' (.slice a W.length c) W) rfl rfl rfl (by kernel_rfl) (by kernel_rfl) (fun v _ _ k1 k2 hr => by obtain ⟨b, a, c, e, hb, B, hp⟩ := hr; exact ⟨b, a, c, e, hb, k2.blk (by simp) B, hp.stab (k2.stab fun x hx => ⟨by have := B.lt; have := hx.2; omega, by simp⟩)⟩) (fun u u2 h' hk hu hu2 => by
    subst hu
    obtain ⟨a, c, rfl⟩ := SlR.form2 hu2
    exact OpW.mono (w_call (vs := [_, _]) ok_keyspan_NewIter rfl ⟨rfl, rfl, trivial⟩ (c_NewIter χ h' a W.length c)) (fun v h'' hv => by
      obtain ⟨e, B, Kn⟩ := hv
      exact ⟨Kn, _, a, c, e, hk.1, B, (PSpansN.stab hu2 (Kn.st ((n0low _).up hk.1))).mono (fun x hx => hx.elim (fun e => e.elim) id)⟩)) ?_
  refine rm_o 19 (fun v h' => ∃ b a c, v = .iface 171 (.pointer (some ⟨b, 0, none⟩)) ∧ hL1.size ≤ b ∧ Blk h' b (itL (.slice a W.length c) (-1)) 208 ∧ PSpansN (fun x => hL1.size ≤ x ∧ x < b) h' (.slice a W.length c) W) rfl (by kernel_rfl) (fun v _ _ k1 k2 hr => by obtain ⟨b, a, c, e, hb, B, hp⟩ := hr; exact ⟨b, a, c, e, hb, k2.blk (by simp) B, hp.stab (k2.stab fun x hx => ⟨by have := B.lt; have := hx.2; omega, by simp⟩)⟩) (fun u h' hk hu => by
    obtain ⟨b, a, c, rfl, hb, B, hp⟩ := hu
    exact (v_makeIface u_p_keyspan_Iter rfl).w.mono (fun _ _ e => by obtain ⟨e1, e2⟩ := e; subst e1; subst e2; exact ⟨Keep.refl _ _, b, a, c, rfl, hb, B, hp⟩)) ?_
  refine rm_o 20 (fun v h' => ∃ g b, v = .slice (some ⟨g, 0, none⟩) 1 1 ∧ b < g ∧ Blk h' g [.iface 171 (.pointer (some ⟨b, 0, none⟩))] 93 ∧ ∃ a c, hL1.size ≤ b ∧ Blk h' b (itL (.slice a W.length c) (-1)) 208 ∧ PSpansN (fun x => hL1.size ≤ x ∧ x < b) h' (.slice a W.length c) W) rfl (by kernel_rfl) (fun v _ _ k1 k2 hr => by
    obtain ⟨g, b, e, hbg, B0, a, c, hb, B, hp⟩ := hr
    exact ⟨g, b, e, hbg, k2.blk (by simp) B0, a, c, hb, k2.blk (by simp) B, hp.stab (k2.stab fun x hx => ⟨by have := B.lt; have := hx.2; omega, by simp⟩)⟩) (fun u h' hk hu => by
    obtain ⟨b, a, c, rfl, hb, B, hp⟩ := hu
    exact OpW.mono (w_new1 u_sl_keyspan_FragmentIterator siz_keyspan_FragmentIterator zero_keyspan_FragmentIterator rfl rfl rfl rfl rfl) (fun v h'' hv => by
      obtain ⟨e, B0, Kn, _⟩ := hv
      exact ⟨Kn, _, b, e, B.lt, B0, a, c, hb, Kn.blk (by simp) B, hp.stab (Kn.stab fun x hx => ⟨by have := B.lt; have := hx.2; omega, by simp⟩)⟩)) ?_
  refine rm_end ?_; intro ha Ka; simp only [endM, hypF, ofE, argE, List.nil_append]
  intro v21 h21 v20 _ v19 _ v18 _ v16 _ v15 _ v14 _ v13 _
  obtain ⟨g, bi, rfl, hbg, B0, wa, wc, hbi, Bi, hPW⟩ := h21
  have hbl := Bi.lt
  have hbg2 := B0.lt
  have O := O.keep2 Ka (fun x hm => by have := hob x hm; simp)
  have KL := KL.new0 Ka
  have K := K.new0 Ka
  refine rx_seq ?_
  refine rs_w (w_app1 u_sl_keyspan_FragmentIterator info_keyspan_FragmentIterator rfl rfl rfl O rfl rfl B0 rfl (by omega) (by omega) (by omega)) rfl ?_
  rintro v6 h2 ⟨O6, K6, N6, F6⟩
  have K := K.newX K6 (fun x hm => .inr (by have := hob x hm; omega)); have Z6 := K6.1
  refine rA rfl rfl ?_
  refine rs_nil ?_
  refine q_con ?_
  refine rx_nil ?_
  refine q_blk_n ?_
  refine q_thn ?_
  refine tr_reg ?_
  refine rs_v (v_add rfl rfl (by omega) (by omega)) rfl ?_
  refine rM rfl rfl ?_
  refine rs_nil ?_
  obtain ⟨lv, hv1, hv2, hv3, hv4, hv5, hv6, hv7⟩ := mk_lev hPW hokW bi
  have hcl : cLv (Up N0 hL1 ha) ha [.iface 171 (.pointer (some ⟨bi, 0, none⟩))] ⟨lv, hL1.size⟩ := by
    refine ⟨by unfold Lev.it; rw [hv4], ?_, ?_, hv6, hv7, ?_, fun b hb hc => .inr ⟨hb, ?_⟩⟩
    · show LevS (fun b => hL1.size ≤ b ∧ b < lv.c) lv ha
      rw [hv4]; exact hv5
    · show Blk ha lv.c (itL (.slice lv.a lv.W.length lv.cc) (-1)) _
      rw [hv4, hv1, hv2, hv3]; exact Bi
    · show hL1.size ≤ lv.c
      rw [hv4]; exact hbi
    · have hc2 : b ≤ lv.c := hc
      rw [hv4] at hc2; omega
  refine q_lp (ws.length - (n + 1)) [(3, _), (6, _), (7, _), (8, _)] (by omega) ⟨rfl, rfl, rfl, rfl, trivial⟩ ⟨n + 1, v6, n + 1, ls ++ [⟨lv, hL1.size⟩], by omega, rfl, rfl, K, rfl, by rw [List.length_append, hlk]; rfl, ?_, ?_, ?_, ?_⟩
  · exact OutR.snoc cLv_st (n0low h) (Nat.le_refl _) hob hrow hF KL0 KL O6 K6 F6 rfl hcl
  · rw [List.map_append, hmap, take_snoc' hsk]
    show _ ++ [lv.W] = _
    rw [hv1]
  · rw [List.pairwise_append]
    refine ⟨hpw, List.pairwise_singleton _ _, fun x hx y hy => ?_⟩
    rw [List.mem_singleton.1 hy]
    exact (hall x hx).2
  · intro x hx
    rcases List.mem_append.1 hx with hx | hx
    · have h1 := hall x hx
      have := KL.1
      exact ⟨h1.1, by omega⟩
    · rw [List.mem_singleton.1 hx]
      refine ⟨KL0, ?_⟩
      show lv.c < _
      rw [hv4]; omega
end Go.Proofs.YtmckkklhonfmcaaGreat
namespace Go.Tess
open Go.RowKit
theorem v_slice_ah {P : Program} {χ : Chi} {ρ : Operand → Option Value} {h : Heap} {dst : Option Tmp} {ty : TypeId} {pos : String} {after : Array Edge} {guard : Option (Nat × Bool)} {x y : Operand} {t e : TypeId} {sz b o i len : Nat} {k : IntKind} {j : Int} (ht : P.underlying t = some (.array len e)) (hs : Siz P e sz)
    (hx : ρ x = some (.pointer (some ⟨b, o, none⟩))) (hy : ρ y = some (.int k j)) (hj : j = (i : Int)) (hi : i ≤ len) : OpV P χ ⟨dst, .slice t x none (some y) none, ty, pos, after, guard⟩ ρ h (.slice (some ⟨b, o, none⟩) i len) := by
  intro r d hr
  have e1 := hr x (by simp [Op.operands]) _ hx
  have e2 := hr y (by simp [Op.operands]) _ hy
  subst hj
  have hl : P.arrayLen t = len := by simp [Program.arrayLen, ht]
  have he : P.elem t = e := by simp [Program.elem, ht]
  have h1 := run_sliceAt_array_h (w := mkw χ h d) t ⟨b, o, none⟩ (by rw [hl, he]; exact ht) k (i : Int) (by omega) (by rw [hl]; omega)
  rw [hl, he, hs, Result.andThen_ok] at h1
  have h2 : slicedAt ⟨b, o, none⟩ 0 (Int.toNat (i : Int)) len sz = .slice (some ⟨b, o, none⟩) i len := by
    simp only [slicedAt, Nat.zero_mul, Nat.sub_zero, Int.toNat_natCast]
    congr 1
    split
    · rfl
    · rw [addr_add0]
  rw [h2] at h1
  simp [execOp, e1, e2, h1]
end Go.Tess
namespace Go.Proofs.YtmckkklhonfmcaaGreat
open Go.Tess Go.RowKit
set_option maxRecDepth 100000
set_option maxHeartbeats 1000000
theorem u_arrL : Tryz.prog.underlying 100 = some (.array 10 99) := by kernel_rfl
theorem u_arrI : Tryz.prog.underlying 104 = some (.array 10 103) := by kernel_rfl
def zLv : LvD := ⟨.nilIface, 0, .slice none 0 0, .pointer none⟩
def zTl : List Value := (List.replicate 10 [Value.pointer none, Value.int .i64 0]).flatten
def Lz (vs : List Lev) (k : Nat) : List LvD := (List.range 10).map (fun i => if i < k then (match vs[i]? with | some v => v.at 0 | none => zLv) else zLv)
theorem Lz_len (vs : List Lev) (k : Nat) : (Lz vs k).length = 10 := by simp [Lz]
theorem Lz_at {vs : List Lev} {k i : Nat} {v : Lev} (hk : i < k) (hi : i < 10) (hv : vs[i]? = some v) : (Lz vs k)[i]? = some (v.at 0) := by
  unfold Lz
  rw [List.getElem?_map, List.getElem?_range hi, Option.map_some, if_pos hk, hv]
theorem Lz_zero (vs : List Lev) : Lz vs 0 = List.replicate 10 zLv := by
  apply List.ext_getElem
  · simp [Lz]
  · intro i h1 h2
    rw [List.getElem_replicate]
    simp only [Lz, List.getElem_map]
    exact if_neg (Nat.not_lt_zero _)
theorem Lz_set {vs : List Lev} {k : Nat} {v : Lev} (hv : vs[k]? = some v) (hk : k < 10) : (Lz vs k).set k (v.at 0) = Lz vs (k + 1) := by
  apply List.ext_getElem
  · simp [Lz]
  · intro i h1 h2
    rw [List.getElem_set]
    by_cases e : k = i
    · subst e; simp [Lz, hv]
    · rw [if_neg e]
      simp only [Lz, List.getElem_map, List.getElem_range]
      by_cases e2 : i < k
      · rw [if_pos e2, if_pos (by omega)]
      · rw [if_neg e2, if_neg (by omega)]
theorem at_zero (v : Lev) : v.at 0 = ⟨v.it, 0, .slice none 0 0, .pointer none⟩ := Lev.at0 (by unfold Lev.ok; omega)
theorem mi_setL4 {mi : Nat} {hd tl : List Value} {L : List LvD} {q : List Nat} {i : Nat} (l : LvD) (h10 : hd.length = 10) (hi : i < L.length) : putRow (miC mi hd L q tl) (10 + i * 4) l.cells = miC mi hd (L.set i l) q tl := by
  unfold miC
  rw [show hd ++ lvC L ++ itC mi q ++ tl = hd ++ lvC L ++ (itC mi q ++ tl) from by simp, ← h10, putRow_app _ _ _ _ _ (by rw [lvC_len]; simp [LvD.cells]; omega)]
  rw [show putRow (lvC L) (i * 4) l.cells = lvC (L.set i l) from flat_set (f := LvD.cells) (sz := 4) (fun _ => rfl) L hi l]
  simp
theorem c_MInit {χ : Chi} {bf mi sb : Nat} {vs : List Lev} {ai : Option Addr} {ci : Nat} {h : Heap} (B1 : Blk h mi [.pointer none, .slice none 0 0, .slice none 0 0, .nilIface, .slice none 0 0, .slice none 0 0, .slice none 0 0, .int .i8 0, .nilIface, .int .i8 0, .nilIface, .int .i8 0, .slice none 0 0, .pointer none, .nilIface, .int .i8 0, .slice none 0 0, .pointer none, .nilIface, .int .i8 0, .slice none 0 0, .pointer none, .nilIface, .int .i8 0, .slice none 0 0, .pointer none, .nilIface, .int .i8 0, .slice none 0 0, .pointer none, .nilIface, .int .i8 0, .slice none 0 0, .pointer none, .nilIface, .int .i8 0, .slice none 0 0, .pointer none, .nilIface, .int .i8 0, .slice none 0 0, .pointer none, .nilIface, .int .i8 0, .slice none 0 0, .pointer none, .nilIface, .int .i8 0, .slice none 0 0, .pointer none, .pointer none, .int .i64 0, .pointer none, .int .i64 0, .pointer none, .int .i64 0, .pointer none, .int .i64 0, .pointer none, .int .i64 0, .pointer none, .int .i64 0, .pointer none, .int .i64 0, .pointer none, .int .i64 0, .pointer none, .int .i64 0, .pointer none, .int .i64 0] 107) (B2 : Blk h bf [.slice none 0 0, .slice none 0 0, .nilFunc, .bool false, .slice none 0 0, .slice none 0 0] 116) (hne : bf ≠ mi) (hvl : vs.length ≤ 10)
    (hit : ∀ (i : Nat) v, vs[i]? = some v → ∃ b o, ai = some ⟨b, o, none⟩ ∧ cellH h b (o + i * 1) = some v.it ∧ b ≠ mi ∧ b ≠ bf) :
    Cl Tryz.prog χ 59 #[.pointer (some ⟨mi, 0, none⟩), cmpF, (.iface 188 (visF sb)), .pointer (some ⟨bf, 0, none⟩), .slice ai vs.length ci] h (fun r h' => r = .tuple #[] ∧ Blk h' bf [.slice none 0 0, .slice (some ⟨mi, 10, none⟩) vs.length 10, cmpF, .bool false, .slice (some ⟨mi, 50, none⟩) 0 10, .slice none 0 0] 116 ∧ MB mi (hdC bf (.slice none 0 0) (.slice none 0 0) (.iface 188 (visF sb)) (.slice none 0 0) (.slice none 0 0) (.slice none 0 0) (.int .i8 0) 0) (Lz vs vs.length) [] zTl h' ∧ Keep [mi, bf] h h') := by
  unfold cmpF visF
  refine cl_intro Tryz.func59 rfl rfl rfl ?_
  have K : Keep [mi, bf] h h := Keep.refl _ _
  refine rG <| rM rfl rfl <| rM rfl rfl <| rM rfl rfl <| rs_v (v_build2 rfl rfl (bld_keyspan_MergingIter_0_3 _ _ _)) rfl ?_
  refine rC rfl rfl <| rs_w0 (w_put siz_keyspan_MergingIter rfl rfl rfl rfl B1 rfl) ?_
  rintro _ h1 ⟨B9, K1⟩
  have K := K.trans (K1.sub (by simp))
  have M : MB mi (hdC bf (.slice none 0 0) (.slice none 0 0) (.iface 188 (visF sb)) (.slice none 0 0) (.slice none 0 0) (.slice none 0 0) (.int .i8 0) 0) (List.replicate 10 zLv) [] zTl h1 := ⟨B9, rfl, rfl, rfl⟩
  have B2 := K1.blk (by simpa using hne) B2
  refine rN <| rG <| rM rfl rfl <| rC rfl rfl <| rF fa_keyspan_MergingIter_0 rfl rfl <| rs_v (v_load one_p_keyspan_MergingBuffers rfl (by exact M.b2.cell 0 rfl)) rfl ?_
  refine rM rfl rfl <| rC rfl rfl <| rF fa_keyspan_MergingBuffers_2 rfl rfl <| rF fa_keyspan_mergingIterHeap_0 rfl rfl <| rs_w0 (w_put siz_base_Compare rfl rfl rfl rfl B2 rfl) ?_
  rintro _ h2 ⟨B2, K2⟩
  have K := K.trans (K2.sub (by simp))
  have M := M.keep K2 (by simpa using fun e => hne e.symm)
  refine rN ?_
  refine tr_seq ?_
  refine tr_quiet (by kernel_rfl) (by kernel_rfl) ?_
  refine rq_v (v_move rfl) <| rq_v (v_nilCheck_ptr rfl) <| rq_v (v_fieldAddr fa_keyspan_MergingIter_0 rfl) <| rq_v (v_load one_p_keyspan_MergingBuffers rfl (by exact M.b2.cell 0 rfl)) ?_
  refine rq_v (v_nilCheck_ptr rfl) <| rq_v (v_fieldAddr fa_keyspan_MergingBuffers_1 rfl) <| rq_v (v_load one_sl_keyspan_mergingIterLevel rfl (by exact B2.cell 1 rfl)) ?_
  refine rq_v (v_move rfl) <| rq_v (v_nilCheck_ptr rfl) <| rq_v (v_fieldAddr fa_keyspan_MergingIter_0 rfl) <| rq_v (v_load one_p_keyspan_MergingBuffers rfl (by exact M.b2.cell 0 rfl)) ?_
  refine rq_v (v_nilCheck_ptr rfl) <| rq_v (v_fieldAddr fa_keyspan_MergingBuffers_2 rfl) <| rq_v (v_fieldAddr fa_keyspan_mergingIterHeap_2 rfl) <| rq_v (v_load one_sl_keyspan_mergingIterItem rfl (by exact B2.cell 4 rfl)) ?_
  refine rq_v (v_assign rfl) <| rq_v (v_assign rfl) ?_
  refine rm_end ?_; simp only [endM, hypF, ofE, argE]
  refine q_thn ?_
  refine tr_seq ?_
  refine rG <| rM rfl rfl <| rs_v (v_len u_sl_keyspan_FragmentIterator rfl) rfl ?_
  refine rs_v (v_le rfl rfl) rfl ?_
  refine rN <| tr_if_t (lkb (decide_eq_true (by omega))) ?_
  refine tr_seq ?_
  refine tr_draw [(true, 11), (false, 3)] _ (by kernel_rfl) (by kernel_rfl) (by kernel_rfl) ?_
  refine rx_any Same same_pre ?_
  refine rq_v (v_move rfl) <| rq_v (v_nilCheck_ptr rfl) <| rq_v (v_fieldAddr fa_keyspan_MergingIter_0 rfl) <| rq_v (v_load one_p_keyspan_MergingBuffers rfl (by exact M.b2.cell 0 rfl)) ?_
  refine rq_v (v_move rfl) <| rq_v (v_nilCheck_ptr rfl) <| rq_v (v_fieldAddr fa_keyspan_MergingIter_7 rfl) <| rq_v (v_fieldAddr fa_struct_levels_10_keyspan_mergingIterLeve_165_0 rfl) <| rq_v (v_move rfl) <| rq_v (v_len u_sl_keyspan_FragmentIterator rfl) ?_
  refine rq_v (v_slice_ah (i := vs.length) u_arrL siz_keyspan_mergingIterLevel rfl rfl rfl hvl) ?_
  refine rm_end ?_; intro ha3 Ka3; simp only [endM, hypF, ofE, argE, List.nil_append]
  have Ka3 : h2 = ha3 := Eq.symm Ka3
  subst Ka3
  refine rx_seq ?_
  refine rC rfl rfl <| rF fa_keyspan_MergingBuffers_1 rfl rfl <| rs_w0 (w_put siz_sl_keyspan_mergingIterLevel rfl rfl rfl rfl B2 rfl) ?_
  rintro _ h4 ⟨B2, K4⟩
  have K := K.trans (K4.sub (by simp))
  have M := M.keep K4 (by simpa using fun e => hne e.symm)
  refine rs_nil ?_
  refine q_con ?_
  refine rx_nil ?_
  refine q_thn ?_
  refine tr_draw [(true, 9), (false, 4)] _ (by kernel_rfl) (by kernel_rfl) (by kernel_rfl) ?_
  refine rx_any Same same_pre ?_
  refine rq_v (v_move rfl) <| rq_v (v_nilCheck_ptr rfl) <| rq_v (v_fieldAddr fa_keyspan_MergingIter_0 rfl) <| rq_v (v_load one_p_keyspan_MergingBuffers rfl (by exact M.b2.cell 0 rfl)) ?_
  refine rq_v (v_move rfl) <| rq_v (v_nilCheck_ptr rfl) <| rq_v (v_fieldAddr fa_keyspan_MergingIter_7 rfl) <| rq_v (v_fieldAddr fa_struct_levels_10_keyspan_mergingIterLeve_165_1 rfl) <| rq_v (v_slice_ah (i := 0) u_arrI siz_keyspan_mergingIterItem rfl rfl rfl (Nat.zero_le _)) ?_
  refine rm_end ?_; intro ha5 Ka5; simp only [endM, hypF, ofE, argE, List.nil_append]
  have Ka5 : h4 = ha5 := Eq.symm Ka5
  subst Ka5
  refine rx_seq ?_
  refine rC rfl rfl <| rF fa_keyspan_MergingBuffers_2 rfl rfl <| rF fa_keyspan_mergingIterHeap_2 rfl rfl <| rs_w0 (w_put siz_sl_keyspan_mergingIterItem rfl rfl rfl rfl B2 rfl) ?_
  rintro _ h6 ⟨B2, K6⟩
  have K := K.trans (K6.sub (by simp))
  have M := M.keep K6 (by simpa using fun e => hne e.symm)
  refine rs_nil ?_
  refine q_con ?_
  refine rx_nil ?_
  refine q_thn ?_
  refine rG <| rM rfl rfl <| rC rfl rfl <| rF fa_keyspan_MergingIter_0 rfl rfl <| rs_v (v_load one_p_keyspan_MergingBuffers rfl (by exact M.b2.cell 0 rfl)) rfl ?_
  refine rC rfl rfl <| rF fa_keyspan_MergingBuffers_1 rfl rfl <| rs_v (v_load one_sl_keyspan_mergingIterLevel rfl (by exact B2.cell 1 rfl)) rfl ?_
  refine rs_v (v_len u_sl_keyspan_mergingIterLevel rfl) rfl ?_
  refine rM rfl rfl <| rN <| tr_block ?_
  refine tr_loop (fun m E h' => ∃ k, k ≤ vs.length ∧ m = vs.length - k ∧ E = [(0, .pointer (some ⟨mi, 0, none⟩)), (4, .slice ai vs.length ci), (119, .int .i64 (vs.length : Int)), (120, .int .i64 (k : Int))] ∧ Blk h' bf [.slice none 0 0, .slice (some ⟨mi, 10, none⟩) vs.length 10, .func (.func 79) #[] #[], .bool false, .slice (some ⟨mi, 50, none⟩) 0 10, .slice none 0 0] 116 ∧ MB mi (hdC bf (.slice none 0 0) (.slice none 0 0) (.iface 188 (visF sb)) (.slice none 0 0) (.slice none 0 0) (.slice none 0 0) (.int .i8 0) 0) (Lz vs k) [] zTl h' ∧ Keep [mi, bf] h h') vs.length [(0, _), (4, _), (119, _), (120, _)] ⟨rfl, rfl, rfl, rfl, trivial⟩ ⟨0, Nat.zero_le _, rfl, rfl, B2, by rw [Lz_zero]; exact M, K⟩ ?_
  rintro m E hL7 ⟨k, hk, rfl, rfl, B2, M, K⟩
  refine rG <| rs_v (v_lt rfl rfl) rfl ?_
  refine rN ?_
  refine tr_seq ?_
  refine tr_ifn rfl (fun hif => ?_) (fun hif => ?_)
  · -- no
    simp only [dT, dF] at hif
    refine tr_exit <| q_thn_exit ?_
    refine q_lp_exit ?_
    refine q_blk_hit ?_
    refine q_end (res_none rfl) ?_
    rw [show k = vs.length from by omega] at M
    exact ⟨rfl, B2, M, K⟩
  -- yes
  simp only [dT, dF] at hif
  obtain ⟨v, hv⟩ := ex_get (L := vs) (k := k) (by omega)
  obtain ⟨b, o, rfl, hcl, hb1, hb2⟩ := hit k v hv
  have hcell : cellH hL7 b (o + k * 1) = some (.iface 171 (.pointer (some ⟨v.c, 0, none⟩))) := (K.cells (by simp [hb1, hb2]) (CellsAt.one hcl)) 0 _ rfl
  refine tr_skip ?_
  refine q_thn ?_
  refine tr_seq ?_
  refine tr_block <| rG <| rM rfl rfl <| rA rfl rfl <| rN ?_
  refine tr_draw [(true, 13), (false, 2)] _ (by kernel_rfl) (by kernel_rfl) (by kernel_rfl) ?_
  refine rx_any Same same_pre ?_
  refine rq_v (v_move rfl) <| rq_v (v_nilCheck_ptr rfl) <| rq_v (v_fieldAddr fa_keyspan_MergingIter_0 rfl) <| rq_v (v_load one_p_keyspan_MergingBuffers rfl (by exact M.b2.cell 0 rfl)) ?_
  refine rq_v (v_nilCheck_ptr rfl) <| rq_v (v_fieldAddr fa_keyspan_MergingBuffers_1 rfl) <| rq_v (v_load one_sl_keyspan_mergingIterLevel rfl (by exact B2.cell 1 rfl)) ?_
  refine rq_v (v_move rfl) <| rq_v (v_move rfl) <| rq_v (v_move rfl) <| rq_v (v_indexAddrE (i := k) u_sl_keyspan_FragmentIterator siz_keyspan_FragmentIterator rfl rfl rfl (by omega)) ?_
  refine rq_v (v_load one_keyspan_FragmentIterator rfl (by exact hcell)) ?_
  refine rq_v (v_build1 rfl (bld_keyspan_mergingIterLevel_0 _ _)) ?_
  refine rm_end ?_; intro ha8 Ka8; simp only [endM, hypF, ofE, argE, List.nil_append]
  have Ka8 : hL7 = ha8 := Eq.symm Ka8
  subst Ka8
  refine rx_seq ?_
  refine rs_v (v_indexAddrE (i := k) u_sl_keyspan_mergingIterLevel siz_keyspan_mergingIterLevel rfl rfl rfl (by omega)) rfl ?_
  refine rs_w0 (w_store siz_keyspan_mergingIterLevel rfl rfl rfl rfl M.b2 (by rw [M.len]; show _ + 4 ≤ 70; omega)) ?_
  rintro _ h9 ⟨B9, K9⟩
  have K := K.trans (K9.sub (by simp))
  have B2 := K9.blk (by simpa using hne) B2
  have M2 : MB mi (hdC bf (.slice none 0 0) (.slice none 0 0) (.iface 188 (visF sb)) (.slice none 0 0) (.slice none 0 0) (.slice none 0 0) (.int .i8 0) 0) (Lz vs (k + 1)) [] zTl h9 := ⟨by rw [← Lz_set hv (by omega), ← mi_setL4 (v.at 0) rfl (by rw [Lz_len]; omega), at_zero]; exact B9, rfl, Lz_len _ _, rfl⟩
  refine rs_nil ?_
  refine q_con ?_
  refine rx_nil ?_
  refine q_blk_n ?_
  refine q_thn ?_
  refine tr_reg ?_
  refine rs_v (v_add rfl rfl (by omega) (by omega)) rfl ?_
  refine rM rfl rfl ?_
  refine rs_nil ?_
  refine q_lp (vs.length - (k + 1)) [(0, _), (4, _), (119, _), (120, _)] (by omega) ⟨rfl, rfl, rfl, rfl, trivial⟩ ⟨k + 1, by omega, rfl, rfl, B2, M2, K⟩
set_option maxHeartbeats 1000000
theorem flat_le {α : Type} {n : Nat} : ∀ (l : List (List α)), (∀ x, x ∈ l → x.length ≤ n) → l.flatten.length ≤ l.length * n
  | [], _ => by simp
  | x :: l, h => by
    have h1 := h x (by simp)
    have h2 := flat_le l (fun y hy => h y (by simp [hy]))
    rw [List.flatten_cons, List.length_append, List.length_cons, Nat.add_mul]; omega
theorem catX_len {vs : List Lev} {x : ByteArray} (hvl : vs.length ≤ 10) (hk : ∀ v, v ∈ vs → ∀ s, (v.kt s).length ≤ 10000) : (catX vs x).length ≤ 100000 := by
  unfold catX
  refine Nat.le_trans (flat_le (n := 10000) _ fun c hc => ?_) ?_
  · obtain ⟨i, _, rfl⟩ := List.mem_map.1 hc
    cases hv : vs[i]? with
    | none => simp
    | some v => exact hk v (List.mem_of_getElem? hv) _
  · rw [List.length_map]
    exact Nat.le_trans (Nat.mul_le_mul_right _ (Nat.le_trans (List.length_filter_le _ _) (by rw [List.length_range]; exact hvl))) (by decide)
theorem kfM_len {vs : List Lev} {snap : Nat} {x : ByteArray} (hvl : vs.length ≤ 10) (hk : ∀ v, v ∈ vs → ∀ s, (v.kt s).length ≤ 10000) : (kfM vs snap x).length ≤ 100000 := by
  unfold kfM
  rw [List.length_map]
  refine Nat.le_trans (List.length_filter_le _ _) ?_
  rw [(sortKT_perm _).length_eq]
  exact catX_len hvl hk
theorem mrgW_len {vs : List Lev} {snap : Nat} {B : List ByteArray} (hvl : vs.length ≤ 10) (hk : ∀ v, v ∈ vs → ∀ s, (v.kt s).length ≤ 10000) : ∀ s, s ∈ mrgW vs snap B → s.ks.length ≤ 100000 := fun s hs => by
  unfold mrgW at hs
  obtain ⟨x, hx, hf⟩ := List.mem_filterMap.1 hs
  have := covF_same hf
  subst this
  obtain ⟨i, hi, e⟩ := List.mem_iff_getElem.1 hx
  obtain ⟨_, e2⟩ := segs_inv (show (sgM vs snap B)[i]? = some s by rw [List.getElem?_eq_getElem hi, e])
  rw [e2]; exact kfM_len hvl hk
def lvA (ls : List LvR) (b : Nat) : Prop := ∃ x, x ∈ ls ∧ x.lo ≤ b ∧ b < x.v.c
theorem lvr_at {ls : List LvR} {i : Nat} {v : Lev} (h : (ls.map LvR.v)[i]? = some v) : ∃ x, ls[i]? = some x ∧ x.v = v := by
  rw [List.getElem?_map] at h
  cases hx : ls[i]? with
  | none => rw [hx] at h; cases h
  | some x => rw [hx] at h; cases h; exact ⟨x, rfl, rfl⟩
theorem pw_at {ls : List LvR} (hp : ls.Pairwise (fun x y => x.v.c < y.lo)) {i j : Nat} {x y : LvR} (hij : i < j) (hx : ls[i]? = some x) (hy : ls[j]? = some y) : x.v.c < y.lo := by
  rw [List.pairwise_iff_getElem] at hp
  obtain ⟨h1, rfl⟩ := List.getElem?_eq_some_iff.1 hx
  obtain ⟨h2, rfl⟩ := List.getElem?_eq_some_iff.1 hy
  exact hp i j h1 h2 hij
theorem mq_start {bf mi sb lo : Nat} {ls : List LvR} {snap : Nat} {B : List ByteArray} {F G : Nat → Prop} {h : Heap} (hpw : ls.Pairwise (fun x y => x.v.c < y.lo)) (hlv : ∀ x, x ∈ ls → LvX G h x ∧ lo ≤ x.lo) (hlen : ls.length ≤ 10) (h1 : mi < sb) (h2 : sb < bf) (h3 : bf < lo)
    (B1 : Blk h bf [.slice none 0 0, .slice (some ⟨mi, 10, none⟩) (ls.map LvR.v).length 10, cmpF, .bool false, .slice (some ⟨mi, 50, none⟩) 0 10, .slice none 0 0] 116) (M : MB mi (hdC bf (.slice none 0 0) (.slice none 0 0) (.iface 188 (visF sb)) (.slice none 0 0) (.slice none 0 0) (.slice none 0 0) (.int .i8 0) 0) (Lz (ls.map LvR.v) (ls.map LvR.v).length) [] zTl h) (BS : Blk h sb [.int .u64 (snap : Int)] 35)
    (hB : Bnds (ls.map (fun x => x.v.W)) B) (hbl : ∀ x, x ∈ B → x.data.toList.length ≤ 100000000000) (hF : ∀ b, mi ≤ b → b < h.size → F b) (hFl : Low F h) :
    MC (lvA ls) bf mi sb (ls.map LvR.v) B ∧ MQ (lvA ls) bf mi sb (ls.map LvR.v) snap B .nowhere F h := by
  have hws : wsO (ls.map LvR.v) = ls.map (fun x => x.v.W) := by simp [wsO]
  have hmem : ∀ v, v ∈ ls.map LvR.v → ∃ (i : Nat) (x : LvR), ls[i]? = some x ∧ x.v = v := fun v hv => by
    obtain ⟨x, hx, rfl⟩ := List.mem_map.1 hv
    obtain ⟨i, hi, e⟩ := List.mem_iff_getElem.1 hx
    exact ⟨i, x, by rw [List.getElem?_eq_getElem hi, e], rfl⟩
  have hc : ∀ (i : Nat) x, ls[i]? = some x → LvX G h x ∧ lo ≤ x.v.c := fun i x hx => by
    obtain ⟨h4, h5⟩ := hlv x (List.mem_of_getElem? hx)
    exact ⟨h4, Nat.le_trans h5 h4.2.2.2.2.1⟩
  have hnA : ∀ (i : Nat) x, ls[i]? = some x → ¬ lvA ls x.v.c := fun i x hx ⟨y, hy, h4, h5⟩ => by
    obtain ⟨j, hj, e⟩ := List.mem_iff_getElem.1 hy
    have hy2 : ls[j]? = some y := by rw [List.getElem?_eq_getElem hj, e]
    rcases Nat.lt_trichotomy i j with h6 | h6 | h6
    · have := pw_at hpw h6 hx hy2; omega
    · subst h6; rw [hx] at hy2; cases hy2; omega
    · have := pw_at hpw h6 hy2 hx
      have := (hc i x hx).1.2.2.2.2.1; omega
  have hAlow : Low (lvA ls) h := fun b ⟨y, hy, h4, h5⟩ => by
    have := (hlv y hy).1.2.1.lt; omega
  have hAlo : ∀ b, lvA ls b → lo ≤ b := fun b ⟨y, hy, h4, h5⟩ => by have := (hlv y hy).2; omega
  have hvl : (ls.map LvR.v).length ≤ 10 := by rw [List.length_map]; exact hlen
  have hsb := BS.lt
  have hbf := B1.lt
  have hcl : ∀ (i : Nat) x, ls[i]? = some x → x.v.c < h.size := fun i x hx => (hc i x hx).1.2.1.lt
  refine ⟨⟨by rw [hws]; exact hB, by omega, by omega, fun e => by have := hAlo sb e; omega, fun v hv => ?_, fun v hv => ?_, fun v hv => ?_, hbl⟩, fun b hb => ?_, hFl, fun _ => 0, false, 0, [], .slice none 0 0, .slice none 0 0, .slice none 0 0, ⟨_, _, _, _, _, _, _, [], [], ⟨B1, M, fun i v hv => ?_, fun v hv => ?_, fun i j v w hij hv hw => ?_, by omega, hAlow, ⟨fun e => by have := hAlo bf e; omega, fun e => by have := hAlo mi e; omega⟩, hvl⟩, ⟨[], Own.nil _ _ _ _, RowsR.nil _ _, by simp [Value.ownBlock]⟩, ⟨Own.nil _ _ _ _, by simp [Value.ownBlock]⟩, BS, by simp [Value.ownBlock], by simp [Value.ownBlock], by simp [Value.ownBlock], by simp⟩, ?_, ?_, trivial⟩
  · obtain ⟨i, x, hx, rfl⟩ := hmem v hv
    have := (hc i x hx).2; omega
  · obtain ⟨i, x, hx, rfl⟩ := hmem v hv
    exact (hc i x hx).1.2.2.1
  · obtain ⟨i, x, hx, rfl⟩ := hmem v hv
    exact (hc i x hx).1.2.2.2.1
  · rcases hb with hb | rfl | rfl | rfl | ⟨v, hv, rfl⟩
    · exact hF b (by have := hAlo b hb; omega) (hAlow b hb)
    · exact hF _ (by omega) hbf
    · exact hF _ (Nat.le_refl _) (by omega)
    · exact hF _ (by omega) hsb
    · obtain ⟨i, x, hx, rfl⟩ := hmem v hv
      exact hF _ (by have := (hc i x hx).2; omega) (hcl i x hx)
  · obtain ⟨x, hx, rfl⟩ := lvr_at hv
    have hi : i < (ls.map LvR.v).length := (List.getElem?_eq_some_iff.1 hv).1
    exact ⟨Lz_at hi (by omega) hv, ⟨-1, (hc i x hx).1.2.1, by unfold lvX; split; exact .inl rfl; rw [if_pos rfl]⟩, by omega⟩
  · obtain ⟨i, x, hx, rfl⟩ := hmem v hv
    have h5 := (hc i x hx).2
    exact ⟨(hc i x hx).1.1.mono (fun b hb => ⟨x, List.mem_of_getElem? hx, hb.1, hb.2⟩), by omega, by omega, hnA i x hx, hcl i x hx⟩
  · obtain ⟨x, hx, rfl⟩ := lvr_at hv
    obtain ⟨y, hy, rfl⟩ := lvr_at hw
    rcases Nat.lt_trichotomy i j with h6 | h6 | h6
    · have := pw_at hpw h6 hx hy
      have := (hc j y hy).1.2.2.2.2.1; omega
    · exact absurd h6 hij
    · have := pw_at hpw h6 hy hx
      have := (hc i x hx).1.2.2.2.2.1; omega
  · have : validQ (ls.map LvR.v) (fun _ => 0) (ls.map LvR.v).length = [] := by
      unfold validQ
      rw [List.filter_eq_nil_iff]
      intro i hi
      unfold okb
      cases hv : (ls.map LvR.v)[i]? with
      | none => simp
      | some v => simp [Lev.ok]
    rw [this]
  · intro k _ h2; simp at h2
theorem c_implSpanMerged (χ : Chi) (h : Heap) (A : Nat → Prop) (hA : Low A h) (v sv : Value) (ws : List (List SpanD)) (snap : Nat) (steps : List StepD) (B : List ByteArray) (hW : RLevels A h v ws) (hn : ws.length ≤ 10) (hok : ∀ W, W ∈ ws → WOK W) (hm : ∀ W, W ∈ ws → ∀ s, s ∈ W → SpanD.small s)
    (hB : Bnds ws B) (hbl : ∀ x, x ∈ B → x.data.toList.length ≤ 100000000000) (hS : RSteps A h sv steps) (hsn : steps.length ≤ 1000) (hz : ∀ s, s ∈ steps → s.key.size ≤ 9223372036854775807) :
    Cl Tryz.prog χ 22 #[v, .int .u64 (snap : Int), sv] h (fun r h' => (∃ vs : List Lev, vs.map Lev.W = ws ∧ (∀ v, v ∈ vs → ∀ (s : Nat) x, v.W[s]? = some x → (v.kt s).map KT.k = x.ks) ∧ RAnss (Up N0 h h') h' r (walkP (mrgW vs snap B) .nowhere steps)) ∧ Keep [] h h') := by
  refine cl_intro Tryz.func22 rfl rfl rfl ?_
  have K : Keep [] h h := Keep.refl _ _
  refine rG <| rA rfl rfl <| rN <| rG <| rs_w (w_call (vs := []) ok_base_DefaultComparer rfl trivial (c_DefaultComparer χ _)) rfl ?_
  rintro _ h1 ⟨rfl, ⟨rest, Bq⟩, K1⟩
  have K := K.new0 K1; have Z1 := K1.1
  refine rC rfl rfl <| rF fa_base_Comparer_0 rfl rfl <| rs_v (v_load one_base_Compare rfl (by exact Bq.cell _ rfl)) rfl ?_
  refine rA rfl rfl <| rN <| rG <| rs_w (w_new zero_keyspan_MergingIter) rfl ?_
  rintro _ h2 ⟨rfl, B2, K2, Z2⟩
  have S2 := K.1; have K := K.new0 K2
  refine rN <| rG <| rM rfl rfl <| rM rfl rfl <| rs_w (w_call (vs := [_]) ok_keyspan_VisibleTransform rfl ⟨rfl, trivial⟩ (c_VisibleTransform)) rfl ?_
  rintro _ h3 ⟨rfl, BS, K3⟩
  have hsb9 := BS.lt
  have B2 := K3.blk (by simp) B2
  have K := K.new0 K3; have Z3 := K3.1
  refine rs_w (w_new zero_keyspan_MergingBuffers) rfl ?_
  rintro _ h4 ⟨rfl, B4, K4, Z4⟩
  have B2 := K4.blk (by simp) B2
  have BS := (K4).blk (by simp) BS
  have S4 := K.1; have K := K.new0 K4
  refine rM rfl rfl <| rs_w (w_call (vs := [_]) ok_impl_fragments rfl ⟨rfl, trivial⟩ (c_fragments χ _ A (hA.mono (by omega)) v ws (hW.stab (K.st hA)) hn hok hm)) rfl ?_
  rintro r5 h5 ⟨ls, hls, hmap, hpw, hall, K5⟩
  obtain ⟨hll, ai, ci, rfl, hx⟩ := hls
  have hlsn : ls.length = ws.length := by rw [← hmap, List.length_map]
  have hlm : (ls.map LvR.v).length = ls.length := by simp
  rw [← hlm]
  have hb2 := B2.lt
  have hb4 := B4.lt
  have hit : ∀ (i : Nat) v, (ls.map LvR.v)[i]? = some v → ∃ b o, ai = some ⟨b, o, none⟩ ∧ cellH h5 b (o + i * 1) = some v.it ∧ b ≠ h1.size ∧ b ≠ h3.size := fun i v hv => by
    obtain ⟨x, hxi, rfl⟩ := lvr_at hv
    obtain ⟨b, o, ea, hU, hc, _⟩ := hx i x hxi
    refine ⟨b, o, ea, hc 0 _ rfl, ?_, ?_⟩
    · rcases hU with hU | hU
      · exact hU.elim
      · omega
    · rcases hU with hU | hU
      · exact hU.elim
      · omega
  have B2 := K5.blk (by simp) B2
  have B4 := K5.blk (by simp) B4
  have BS := (K5).blk (by simp) BS
  have K := K.new0 K5; have Z5 := K5.1
  refine rs_w (w_call (vs := [_, _, _, _, _]) ok_keyspan_MergingIter_Init rfl ⟨rfl, rfl, rfl, rfl, rfl, trivial⟩ (c_MInit (vs := ls.map LvR.v) B2 B4 (by omega) (by rw [List.length_map, hlsn]; exact hn) hit)) rfl ?_
  rintro _ h6 ⟨rfl, B4, M6, K6⟩
  have hsb3 : h2.size < h5.size := by omega
  have BS := K6.blk (by simp; omega) BS
  have hlv6 : ∀ x, x ∈ ls → LvX (Up N0 h4 h5) h6 x ∧ h4.size ≤ x.lo := fun x hxm => by
    obtain ⟨i, hi, e⟩ := List.mem_iff_getElem.1 hxm
    obtain ⟨b, o, ea, hU, hc, hX⟩ := hx i x (by rw [List.getElem?_eq_getElem hi, e])
    exact ⟨hX.stab (K6.stab fun b hb => by
      rcases hb with hb | hb
      · exact hb.elim
      · exact ⟨hb.2, by simp; omega⟩), (hall x hxm).1⟩
  have K := K.newX K6 (fun x hm => .inr (by simp at hm; omega))
  have Z6 := K6.1
  have hws : ls.map (fun x => x.v.W) = ws := hmap
  have hMvl : (ls.map LvR.v).length ≤ 10 := by omega
  obtain ⟨hMC, hMQ⟩ := mq_start (F := fun b => h1.size ≤ b ∧ b < h6.size) (lo := h4.size) hpw hlv6 (by omega) (by omega) (by omega) (by omega) B4 M6 BS (by rw [hws]; exact hB) hbl (fun b h1 h2 => ⟨h1, h2⟩) (fun b hb => hb.2)
  have hkeys : ∀ v, v ∈ ls.map LvR.v → ∀ (s : Nat) x, v.W[s]? = some x → (v.kt s).map KT.k = x.ks := fun v hv s x hs => by
    obtain ⟨y, hy, rfl⟩ := List.mem_map.1 hv
    exact ((hlv6 y hy).1.1.keys s x hs).2
  refine rN <| rG <| rs_v (v_makeIface u_p_keyspan_MergingIter rfl) rfl ?_
  refine rM rfl rfl ?_
  refine rs_w (w_call (vs := [_, _]) ok_impl_walkSpans rfl ⟨rfl, rfl, trivial⟩ (c_walkSpans χ h6 A (hA.mono K.1) (mrgW (ls.map LvR.v) snap B) _ _ _ (mi_ok χ hMC) (fun b => h1.size ≤ b ∧ b < h6.size) ⟨_, hMQ, trivial⟩
    (fun b hb hf => by have := hA b hb; have := hf.1; omega) sv steps (hS.stab (K.st hA)) hsn hz (mrgW_len hMvl hMC.kl))) rfl ?_
  rintro r9 h7 ⟨hans, KP⟩
  refine rA rfl rfl <| rN <| tr_ret <| q_ret (res_tmp rfl rfl) ?_
  have h60 := K.1
  exact ⟨⟨ls.map LvR.v, by rw [List.map_map]; exact hws, hkeys, hans.mono (n0up h60 (Nat.le_refl _))⟩, keep_of_p K KP (fun b hb => by have := hb.1; omega)⟩
end Go.Proofs.YtmckkklhonfmcaaGreat
namespace Go.Tess
open Go.RowKit
section
variable {P : Program} {χ : Chi} {ρ : Operand → Option Value} {h : Heap} {ty : TypeId} {pos : String} {after : Array Edge} {guard : Option (Nat × Bool)} {dst : Option Tmp} {x y : Operand} {t t2 e : TypeId}
theorem v_slice_lo {sz b o m c i : Nat} {k : IntKind} {j : Int} (ht : P.underlying t = some (.slice e)) (hs : Siz P e sz)
    (hx : ρ x = some (.slice (some ⟨b, o, none⟩) m c)) (hy : ρ y = some (.int k j)) (hj : j = (i : Int)) (hi : i ≤ m) (hc : m ≤ c) :
    OpV P χ ⟨dst, .slice t x (some y) none none, ty, pos, after, guard⟩ ρ h (.slice (some ⟨b, if c = i then o else o + i * sz, none⟩) (m - i) (c - i)) := by
  intro r d hr
  have e1 := hr x (by simp [Op.operands]) _ hx
  have e2 := hr y (by simp [Op.operands]) _ hy
  subst hj
  have he := elem_of ht
  have h1 := run_slice_l (w := mkw χ h d) t (some ⟨b, o, none⟩) m c (by rw [he]; exact ht) k (i : Int) (by omega) (by omega)
  rw [he, hs, Result.andThen_ok] at h1
  have h2 : sliced (some ⟨b, o, none⟩) (Int.toNat (i : Int)) m c sz = .slice (some ⟨b, if c = i then o else o + i * sz, none⟩) (m - i) (c - i) := by
    simp only [sliced, Int.toNat_natCast]
    split
    · rfl
    · simp only [Option.map_some, addr_add]
  rw [h2] at h1
  simp [execOp, e1, e2, run_sliceAt_slice (mkw χ h d) t _ _ _ _ (by rw [he]; exact ht), h1]
end
end Go.Tess
namespace Go.Proofs.YtmckkklhonfmcaaGreat
open Go.Tess Go.RowKit
set_option maxRecDepth 100000
set_option maxHeartbeats 1000000
set_option maxHeartbeats 1000000
def idxB (l : List ByteArray) (key : ByteArray) : Nat → Nat
  | 0 => 0
  | n + 1 => if slt (atB l n) key then n + 1 else idxB l key n
def addB (l : List ByteArray) (key : ByteArray) : List ByteArray :=
  if idxB l key l.length < l.length ∧ atB l (idxB l key l.length) = key then l else l.take (idxB l key l.length) ++ key :: l.drop (idxB l key l.length)
theorem idxB_le (l : List ByteArray) (key : ByteArray) : ∀ n, idxB l key n ≤ n
  | 0 => Nat.le_refl _
  | n + 1 => by unfold idxB; split; exact Nat.le_refl _; have := idxB_le l key n; omega
theorem own_some {h : Heap} {base : Nat} {e : TypeId} {sz n c : Nat} {a : Option Addr} {xs : List Value} (O : Own h base e sz (.slice a n c) n xs) (hn : 0 < n) : ∃ g, a = some ⟨g, 0, none⟩ := by
  rcases O.form with ⟨_, e2, _⟩ | ⟨g, cap, e1, _⟩
  · omega
  · cases e1; exact ⟨g, rfl⟩
theorem own_room {h : Heap} {base : Nat} {e : TypeId} {sz n c : Nat} {a : Option Addr} {xs : List Value} (O : Own h base e sz (.slice a n c) n xs) : n ≤ c := by
  rcases O.form with ⟨e1, e2, _⟩ | ⟨g, cap, e1, _, _, _, h1, _⟩
  · omega
  · cases e1; exact h1
set_option maxHeartbeats 1000000
def bndF (W : List SpanD) : List ByteArray := W.foldl (fun l s => addB (addB l s.s) s.e) []
end Go.Proofs.YtmckkklhonfmcaaGreat
namespace Go.Tess
open Go.RowKit
end Go.Tess
namespace Go.Proofs.YtmckkklhonfmcaaGreat
open Go.Tess Go.RowKit
set_option maxRecDepth 100000
set_option maxHeartbeats 1000000
def visSp (n : Nat) (s : SpanD) : SpanD := ⟨s.s, s.e, s.ks.filter (visK n)⟩
set_option maxHeartbeats 2000000
def covK (W : List SpanD) (a b : ByteArray) : List KeyD := ((W.filter (fun x => sle x.s a && sle b x.e)).map SpanD.ks).flatten
def fragP (B : List ByteArray) (W : List SpanD) (j : Nat) : Option SpanD := if covK W (atB B j) (atB B (j + 1)) = [] then none else some ⟨atB B j, atB B (j + 1), canonF (covK W (atB B j) (atB B (j + 1)))⟩
def fragF (W : List SpanD) : List SpanD := (List.range ((bndF W).length - 1)).filterMap (fragP (bndF W) W)
set_option maxHeartbeats 1000000
def fit3 (l : List (List SpanD)) : Bool := decide (l.length ≤ MX) && l.all fit4
def levB (ws : List (List SpanD)) (n : Int) : Bool := ws.all (fun W => mostB W n && wellB W) && decide ((ws.length : Int) ≤ 6)
def mergF (ws : List (List SpanD)) (n : Nat) : List SpanD := (fragF ws.flatten).map (visSp n)
theorem RLevels.kk {h h' : Heap} {v : Value} {W : List (List SpanD)} (hr : RLevels (All h) h v W) (K : Keep [] h h') : RLevels (All h') h' v W := (RLevels.stab hr (all_st K)).mono (all_up K)
theorem all_false {α : Type} {L : List α} {k : Nat} {x : α} {f : α → Bool} (h : L[k]? = some x) (hf : f x = false) : L.all f = false := by
  rw [List.all_eq_false]
  exact ⟨x, List.mem_of_getElem? h, by rw [hf]; decide⟩
theorem take_all' {α : Type} {L : List α} {k : Nat} {x : α} {f : α → Bool} (h : L[k]? = some x) : (L.take (k + 1)).all f = ((L.take k).all f && f x) := by rw [take_snoc' h, List.all_append]; simp
theorem c_zzFits3 (χ : Chi) (h : Heap) (A : Nat → Prop) (hA : Low A h) (v : Value) (ws : List (List SpanD)) (hW : RLevels A h v ws) :
    Cl Tryz.prog χ 11 #[v] h (fun r h' => r = .bool (fit3 ws) ∧ Keep [] h h') := by
  obtain ⟨hlen, a, c, rfl, hx⟩ := hW.form
  refine cl_intro Tryz.func11 rfl rfl rfl ?_
  have K : Keep [] h h := Keep.refl _ _
  refine rG <| rA rfl rfl <| rN ?_
  refine tr_seq ?_
  refine rG <| rM rfl rfl <| rs_v (v_len u_sl_sl_spec_Span rfl) rfl ?_
  refine rs_v (v_gt rfl rfl) rfl ?_
  refine rN ?_
  refine tr_if rfl (fun hif => ?_) (fun hif => ?_)
  · -- yes
    simp only [dT, dF] at hif
    refine rG <| rA rfl rfl <| rN <| tr_ret <| q_thn_ret <| q_ret (res_tmp rfl rfl) ?_
    refine ⟨?_, K⟩
    simp only [fit3, ofNat_gt hif, Bool.false_and]
  -- no
  simp only [dT, dF] at hif
  have hmx := ofNat_le hif
  clear hif
  refine tr_skip ?_
  refine q_thn ?_
  refine tr_seq ?_
  refine rG <| rM rfl rfl <| rs_v (v_len u_sl_sl_spec_Span rfl) rfl ?_
  refine rM rfl rfl <| rN <| tr_block ?_
  refine tr_loop (fun m E h' => ∃ k, k ≤ ws.length ∧ m = ws.length - k ∧ E = [(8, .slice a ws.length c), (9, .int .i64 (ws.length : Int)), (10, .int .i64 (k : Int))] ∧ Keep [] h h' ∧ (ws.take k).all fit4 = true) ws.length [(8, _), (9, _), (10, _)] ⟨rfl, rfl, rfl, trivial⟩ ⟨0, Nat.zero_le _, rfl, rfl, K, rfl⟩ ?_
  rintro m E hL1 ⟨k, hk, rfl, rfl, K, hall⟩
  refine rG <| rs_v (v_lt rfl rfl) rfl ?_
  refine rN ?_
  refine tr_seq ?_
  refine tr_ifn rfl (fun hif => ?_) (fun hif => ?_)
  · -- no
    simp only [dT, dF] at hif
    have hkk : k = ws.length := by omega
    subst hkk
    refine tr_exit <| q_thn_exit ?_
    refine q_lp_exit ?_
    refine q_blk_hit ?_
    refine q_thn ?_
    refine rG <| rA rfl rfl <| rN <| tr_ret <| q_ret (res_tmp rfl rfl) ?_
    refine ⟨?_, K⟩
    rw [List.take_length] at hall
    simp only [fit3, hall, hmx, Bool.true_and]
  -- yes
  simp only [dT, dF] at hif
  rcases hx with rfl | ⟨b, o, rfl, hAb, hR⟩
  · simp at hif; omega
  obtain ⟨W, hsk⟩ := ex_get (L := ws) (k := k) (by omega)
  obtain ⟨kv, hcc, hkx⟩ := hR k W hsk
  obtain ⟨ka, kc, rfl⟩ := SlR.form2 hkx
  have hcells := K.cells (by simp) hcc
  have hWS := hkx.stab (K.st hA)
  refine tr_skip ?_
  refine q_thn ?_
  refine tr_seq ?_
  refine tr_block <| rG <| rs_v (v_indexAddrN u_sl_sl_spec_Span siz_sl_spec_Span rfl rfl (by omega)) rfl ?_
  refine rs_v (v_load one_sl_spec_Span rfl (by exact hcells 0 _ rfl)) rfl ?_
  refine rA rfl rfl <| rN <| rG <| rM rfl rfl <| rs_w (w_call (vs := [_]) ok_laws_zzFits4 rfl ⟨rfl, trivial⟩ (c_zzFits4 χ _ A (hA.mono K.1) _ W hWS)) rfl ?_
  rintro _ h2 ⟨rfl, K2⟩
  have K := K.new0 K2; have Z2 := K2.1
  refine rs_v (v_not rfl) rfl ?_
  refine rN ?_
  refine tr_if rfl (fun hif => ?_) (fun hif => ?_)
  · -- yes
    have hf : fit4 W = false := by simpa using hif
    refine rG <| rA rfl rfl <| rN <| tr_ret <| q_blk_ret <| q_thn_ret ?_
    refine q_lp_ret ?_
    refine q_blk_ret <| q_thn_ret <| q_ret (res_tmp rfl rfl) ?_
    refine ⟨?_, K⟩
    simp only [fit3, all_false hsk hf, Bool.and_false]
  -- no
  have hf : fit4 W = true := by simpa using hif
  refine tr_skip <| q_blk_n ?_
  refine q_thn ?_
  refine tr_reg ?_
  refine rs_v (v_add rfl rfl (by omega) (by omega)) rfl ?_
  refine rM rfl rfl ?_
  refine rs_nil ?_
  refine q_lp (ws.length - (k + 1)) [(8, _), (9, _), (10, _)] (by omega) ⟨rfl, rfl, rfl, trivial⟩ ⟨k + 1, by omega, rfl, rfl, K, ?_⟩
  rw [take_all' hsk, hall, hf]
  rfl
theorem c_spanLevels (χ : Chi) (h : Heap) (A : Nat → Prop) (hA : Low A h) (v : Value) (ws : List (List SpanD)) (n : Int) (hW : RLevels A h v ws) :
    Cl Tryz.prog χ 12 #[v, .int .i64 n] h (fun r h' => r = .bool (levB ws n) ∧ Keep [] h h') := by
  obtain ⟨hlen, a, c, rfl, hx⟩ := hW.form
  refine cl_intro Tryz.func12 rfl rfl rfl ?_
  have K : Keep [] h h := Keep.refl _ _
  refine rG <| rA rfl rfl <| rN ?_
  refine tr_seq ?_
  refine rG <| rM rfl rfl <| rs_v (v_len u_sl_sl_spec_Span rfl) rfl ?_
  refine rM rfl rfl <| rN <| tr_block ?_
  refine tr_loop (fun m E h' => ∃ k, k ≤ ws.length ∧ m = ws.length - k ∧ E = [(0, .slice a ws.length c), (1, .int .i64 n), (7, .slice a ws.length c), (8, .int .i64 (ws.length : Int)), (9, .int .i64 (k : Int))] ∧ Keep [] h h' ∧ (ws.take k).all (fun W => mostB W n && wellB W) = true) ws.length [(0, _), (1, _), (7, _), (8, _), (9, _)] ⟨rfl, rfl, rfl, rfl, rfl, trivial⟩ ⟨0, Nat.zero_le _, rfl, rfl, K, rfl⟩ ?_
  rintro m E hL1 ⟨k, hk, rfl, rfl, K, hall⟩
  refine rG <| rs_v (v_lt rfl rfl) rfl ?_
  refine rN ?_
  refine tr_seq ?_
  refine tr_ifn rfl (fun hif => ?_) (fun hif => ?_)
  · -- no
    simp only [dT, dF] at hif
    have hkk : k = ws.length := by omega
    subst hkk
    refine tr_exit <| q_thn_exit ?_
    refine q_lp_exit ?_
    refine q_blk_hit ?_
    refine q_thn ?_
    refine rG <| rM rfl rfl <| rs_v (v_len u_sl_sl_spec_Span rfl) rfl ?_
    refine rs_v (v_le rfl rfl) rfl ?_
    refine rA rfl rfl <| rN <| tr_ret <| q_ret (res_tmp rfl rfl) ?_
    refine ⟨?_, K⟩
    rw [List.take_length] at hall
    simp only [levB, hall, Bool.true_and]
  -- yes
  simp only [dT, dF] at hif
  rcases hx with rfl | ⟨b, o, rfl, hAb, hR⟩
  · simp at hif; omega
  obtain ⟨W, hsk⟩ := ex_get (L := ws) (k := k) (by omega)
  obtain ⟨kv, hcc, hkx⟩ := hR k W hsk
  obtain ⟨ka, kc, rfl⟩ := SlR.form2 hkx
  have hcells := K.cells (by simp) hcc
  have hWS := hkx.stab (K.st hA)
  refine tr_skip ?_
  refine q_thn ?_
  refine tr_seq ?_
  refine tr_block <| rG <| rs_v (v_indexAddrN u_sl_sl_spec_Span siz_sl_spec_Span rfl rfl (by omega)) rfl ?_
  refine rs_v (v_load one_sl_spec_Span rfl (by exact hcells 0 _ rfl)) rfl ?_
  refine rA rfl rfl <| rN <| rG <| rM rfl rfl <| rM rfl rfl <| rs_w (w_call (vs := [_, _]) ok_laws_spanWell rfl ⟨rfl, rfl, trivial⟩ (c_spanWell χ _ A (hA.mono K.1) _ W n hWS)) rfl ?_
  rintro _ h2 ⟨rfl, K2⟩
  have K := K.new0 K2; have Z2 := K2.1
  refine rs_v (v_not rfl) rfl ?_
  refine rN ?_
  refine tr_if rfl (fun hif => ?_) (fun hif => ?_)
  · -- yes
    rw [Bool.not_eq_true'] at hif
    have hf := hif
    refine rG <| rA rfl rfl <| rN <| tr_ret <| q_blk_ret <| q_thn_ret ?_
    refine q_lp_ret ?_
    refine q_blk_ret <| q_thn_ret <| q_ret (res_tmp rfl rfl) ?_
    refine ⟨?_, K⟩
    simp only [levB, all_false (f := fun W => mostB W n && wellB W) hsk hf, Bool.false_and]
  -- no
  rw [Bool.not_eq_false'] at hif
  have hf := hif
  refine tr_skip <| q_blk_n ?_
  refine q_thn ?_
  refine tr_reg ?_
  refine rs_v (v_add rfl rfl (by omega) (by omega)) rfl ?_
  refine rM rfl rfl ?_
  refine rs_nil ?_
  refine q_lp (ws.length - (k + 1)) [(0, _), (1, _), (7, _), (8, _), (9, _)] (by omega) ⟨rfl, rfl, rfl, rfl, rfl, trivial⟩ ⟨k + 1, by omega, rfl, rfl, K, ?_⟩
  rw [take_all' hsk, hall, hf]
  rfl
set_option maxHeartbeats 1000000
theorem kle_iff (a b : KeyD) : keyLess b a = false ↔ (b.tr < a.tr ∨ (a.tr = b.tr ∧ (slt a.suf b.suf = true ∨ (a.suf = b.suf ∧ sle a.val b.val = true)))) := by
  unfold keyLess
  by_cases e : b.tr = a.tr
  · rw [if_pos e]
    by_cases e2 : b.suf = a.suf
    · rw [if_pos (seq'_eq.2 e2), not_slt]
      constructor
      · intro h; exact .inr ⟨e.symm, .inr ⟨e2.symm, h⟩⟩
      · rintro (h | ⟨_, h | ⟨_, h⟩⟩)
        · omega
        · rw [e2, slt_irr] at h; cases h
        · exact h
    · rw [if_neg (fun h => e2 (seq'_eq.1 h)), not_slt]
      constructor
      · intro h; exact .inr ⟨e.symm, .inl (slt_of_sle_ne h (fun h2 => e2 h2.symm))⟩
      · rintro (h | ⟨_, h | ⟨h, _⟩⟩)
        · omega
        · exact slt_sle h
        · exact absurd h.symm e2
  · rw [if_neg e, decide_eq_false_iff_not]
    constructor
    · intro h; exact .inl (by omega)
    · rintro (h | ⟨h, _⟩)
      · omega
      · exact absurd h.symm e
theorem kle_anti {a b : KeyD} (h1 : keyLess b a = false) (h2 : keyLess a b = false) : a = b := by
  rcases (kle_iff a b).1 h1 with h | ⟨e, h⟩ <;> rcases (kle_iff b a).1 h2 with g | ⟨e2, g⟩
  · omega
  · omega
  · omega
  · rcases h with h | ⟨h, h'⟩ <;> rcases g with g | ⟨g, g'⟩
    · have := slt_tr h g; rw [slt_irr] at this; cases this
    · rw [g, slt_irr] at h; cases h
    · rw [h, slt_irr] at g; cases g
    · have h9 := sle_anti h' g'
      obtain ⟨t, s, v⟩ := a
      obtain ⟨t2, s2, v2⟩ := b
      simp only at e h h9
      subst e; subst h; subst h9; rfl
theorem kle_trans {a b c : KeyD} (h1 : keyLess b a = false) (h2 : keyLess c b = false) : keyLess c a = false := by
  rw [kle_iff] at *
  rcases h1 with h | ⟨e, h⟩ <;> rcases h2 with g | ⟨e2, g⟩
  · exact .inl (by omega)
  · exact .inl (by omega)
  · exact .inl (by omega)
  · refine .inr ⟨by omega, ?_⟩
    rcases h with h | ⟨h, h'⟩ <;> rcases g with g | ⟨g, g'⟩
    · exact .inl (slt_tr h g)
    · exact .inl (by rw [← g]; exact h)
    · exact .inl (by rw [h]; exact g)
    · exact .inr ⟨h.trans g, sle_trans h' g'⟩
theorem kless_asymm {a b : KeyD} (h : keyLess a b = true) : keyLess b a = false := by
  cases e : keyLess b a with
  | false => rfl
  | true =>
    exfalso
    have h1 : keyLess a b = false := (kle_iff b a).2 (by
      unfold keyLess at e
      by_cases e1 : b.tr = a.tr
      · rw [if_pos e1] at e
        by_cases e2 : b.suf = a.suf
        · rw [if_pos (seq'_eq.2 e2)] at e; exact .inr ⟨e1, .inr ⟨e2, slt_sle e⟩⟩
        · rw [if_neg (fun h => e2 (seq'_eq.1 h))] at e; exact .inr ⟨e1, .inl e⟩
      · rw [if_neg e1] at e; exact .inl (of_decide_eq_true e))
    rw [h1] at h; cases h
theorem swap_ap (A C : List KeyD) (a x : KeyD) : swapAt (A ++ a :: x :: C) A.length = A ++ x :: a :: C := by
  unfold swapAt
  have h1 : (A ++ a :: x :: C)[A.length + 1]? = some x := by rw [List.getElem?_append_right (by omega), show A.length + 1 - A.length = 1 from by omega]; rfl
  have h2 : (A ++ a :: x :: C)[A.length]? = some a := by rw [List.getElem?_append_right (by omega), Nat.sub_self]; rfl
  rw [h1, h2]
  simp only
  rw [List.set_append, if_neg (by omega), show A.length + 1 - A.length = 1 from by omega, List.set_append, if_neg (by omega), Nat.sub_self]
  rfl
theorem insW_form (x : KeyD) : ∀ (n : Nat) (A : List KeyD), A.length = n → A.Pairwise (fun a b => keyLess b a = false) → ∀ C, ∃ A1 A2, A = A1 ++ A2 ∧ insW (A ++ x :: C) n = A1 ++ x :: A2 ++ C ∧ (∀ a, a ∈ A2 → keyLess x a = true) ∧ ∀ a, a ∈ A1 → keyLess x a = false
  | 0, A, hA, _, C => ⟨[], [], by simpa using hA, by
    have : A = [] := List.eq_nil_of_length_eq_zero hA
    subst this; rfl, by simp, by simp⟩
  | n + 1, A, hA, hp, C => by
    obtain ⟨A', a, rfl⟩ : ∃ A' a, A = A' ++ [a] := by
      rcases List.eq_nil_or_concat A with e | ⟨A', a, e⟩
      · subst e; simp at hA
      · exact ⟨A', a, by simpa using e⟩
    have hA' : A'.length = n := by simpa using hA
    have hl : lessAt (A' ++ [a] ++ x :: C) (n + 1) = keyLess x a := by
      unfold lessAt
      have e0 : A' ++ [a] ++ x :: C = A' ++ a :: x :: C := by simp
      have h1 : (A' ++ a :: x :: C)[n + 1]? = some x := by rw [← hA', List.getElem?_append_right (by omega), show A'.length + 1 - A'.length = 1 from by omega]; rfl
      have h2 : (A' ++ a :: x :: C)[n]? = some a := by rw [← hA', List.getElem?_append_right (by omega), Nat.sub_self]; rfl
      rw [e0]
      simp only [h1, h2]
    rw [List.pairwise_append] at hp
    cases e : keyLess x a with
    | true =>
      rw [insW_go (by rw [hl]; exact e)]
      have e0 : A' ++ [a] ++ x :: C = A' ++ a :: x :: C := by simp
      have hs := swap_ap A' C a x
      rw [hA'] at hs
      rw [e0, hs]
      obtain ⟨A1, A2, h1, h2, h3, h4⟩ := insW_form x n A' hA' hp.1 (a :: C)
      refine ⟨A1, A2 ++ [a], by rw [h1]; simp, by rw [h2]; simp, fun b hb => ?_, h4⟩
      rcases List.mem_append.1 hb with hb | hb
      · exact h3 b hb
      · rw [List.mem_singleton.1 hb]; exact e
    | false =>
      rw [insW_stop (by rw [hl]; exact e)]
      refine ⟨A' ++ [a], [], by simp, by simp, by simp, fun b hb => ?_⟩
      rcases List.mem_append.1 hb with hb | hb
      · exact kle_trans (hp.2.2 b hb a (by simp)) e
      · rw [List.mem_singleton.1 hb]; exact e
theorem canonF_ok (l : List KeyD) : ∀ k, k ≤ l.length → (canonF (l.take k)).Perm (l.take k) ∧ (canonF (l.take k)).Pairwise (fun a b => keyLess b a = false)
  | 0, _ => by simp [canonF]
  | k + 1, hk => by
    obtain ⟨hp, hs⟩ := canonF_ok l k (by omega)
    obtain ⟨x, hx⟩ := ex_get (L := l) (k := k) (by omega)
    rw [take_snoc' hx, canonF_snoc]
    obtain ⟨A1, A2, h1, h2, h3, h4⟩ := insW_form x _ (canonF (l.take k)) rfl hs []
    rw [h2, List.append_nil]
    refine ⟨?_, ?_⟩
    · refine List.Perm.trans List.perm_middle ?_
      rw [← h1]
      exact (hp.cons x).trans (List.perm_append_singleton x _).symm
    · rw [h1, List.pairwise_append] at hs
      rw [List.pairwise_append, List.pairwise_cons]
      refine ⟨hs.1, ⟨fun a ha => kless_asymm (h3 a ha), hs.2.1⟩, fun a ha b hb => ?_⟩
      rcases List.mem_cons.1 hb with rfl | hb
      · exact h4 a ha
      · exact hs.2.2 a ha b hb
theorem canonF_perm (l : List KeyD) : (canonF l).Perm l := by have := (canonF_ok l l.length (Nat.le_refl _)).1; rwa [List.take_length] at this
theorem canonF_srt (l : List KeyD) : (canonF l).Pairwise (fun a b => keyLess b a = false) := by have := (canonF_ok l l.length (Nat.le_refl _)).2; rwa [List.take_length] at this
theorem srt_unique : ∀ (l1 l2 : List KeyD), l1.Perm l2 → l1.Pairwise (fun a b => keyLess b a = false) → l2.Pairwise (fun a b => keyLess b a = false) → l1 = l2
  | [], l2, hp, _, _ => by rw [List.nil_perm.1 hp]
  | a :: l1, [], hp, _, _ => by have := hp.length_eq; simp at this
  | a :: l1, b :: l2, hp, h1, h2 => by
    rw [List.pairwise_cons] at h1 h2
    have hab : a = b := by
      have m1 : a ∈ b :: l2 := hp.mem_iff.1 (by simp)
      have m2 : b ∈ a :: l1 := hp.mem_iff.2 (by simp)
      rcases List.mem_cons.1 m1 with e | m1
      · exact e
      · rcases List.mem_cons.1 m2 with e | m2
        · exact e.symm
        · exact kle_anti (h1.1 b m2) (h2.1 a m1)
    subst hab
    rw [srt_unique l1 l2 (List.Perm.cons_inv hp) h1.2 h2.2]
theorem canonF_congr {l1 l2 : List KeyD} (h : l1.Perm l2) : canonF l1 = canonF l2 :=
  srt_unique _ _ ((canonF_perm l1).trans (h.trans (canonF_perm l2).symm)) (canonF_srt l1) (canonF_srt l2)

inductive Alk : List SpanD → List SpanD → Prop
  | nil : Alk [] []
  | cons {a b : SpanD} {l1 l2 : List SpanD} : a.s = b.s → a.e = b.e → canonF a.ks = canonF b.ks → descB a.ks = true → few a → few b → Alk l1 l2 → Alk (a :: l1) (b :: l2)
section
variable {W1 W2 : List SpanD}
theorem Alk.len (h : Alk W1 W2) : W1.length = W2.length := by induction h with | nil => rfl | cons _ _ _ _ _ _ _ ih => simp [ih]
theorem Alk.ge (h : Alk W1 W2) (k : ByteArray) : geI W1 k = geI W2 k := by induction h with | nil => rfl | cons _ he _ _ _ _ _ ih => simp only [geI, he, ih]
theorem Alk.lt (h : Alk W1 W2) (k : ByteArray) : ltI W1 k = ltI W2 k := by induction h with | nil => rfl | cons hs _ _ _ _ _ _ ih => simp only [ltI, hs, ih]
theorem Alk.at (h : Alk W1 W2) : ∀ (i : Nat), (W1[i]? = none ∧ W2[i]? = none) ∨ ∃ a b, W1[i]? = some a ∧ W2[i]? = some b ∧ Like [a] [b] ∧ few a ∧ few b := by
  induction h with
  | nil => intro i; exact .inl ⟨by simp, by simp⟩
  | @cons a b l1 l2 hs he hc hd f1 f2 _ ih =>
    intro i
    cases i with
    | zero => exact .inr ⟨a, b, rfl, rfl, ⟨by simp [canonS, hs, he, hc], by simpa using hd⟩, f1, f2⟩
    | succ i => simpa using ih i
theorem Alk.step (h : Alk W1 W2) (p : Pos) (s : StepD) : stepP W1 p s = stepP W2 p s := by
  have hl := h.len
  have e2 : pFirst W1 = pFirst W2 := by unfold pFirst; rw [hl]
  have e3 : pLast W1 = pLast W2 := by unfold pLast; rw [hl]
  have e4 : pNext W1 p = pNext W2 p := by cases p <;> simp [pNext, hl]
  have e5 : pPrev W1 p = pPrev W2 p := by cases p <;> simp [pPrev, hl]
  have e6 : pGE W1 s.key = pGE W2 s.key := by unfold pGE; rw [h.ge, hl]
  have e7 : pLT W1 s.key = pLT W2 s.key := by unfold pLT; rw [h.lt]
  unfold stepP
  rw [e2, e3, e4, e5, e6, e7]
theorem Alk.ans (h : Alk W1 W2) (q : Option Pos) : (ansOf W1 q).done = (ansOf W2 q).done ∧ (ansOf W1 q).ok = (ansOf W2 q).ok ∧ ((ansOf W1 q).ok = true → Like [(ansOf W1 q).sp] [(ansOf W2 q).sp] ∧ few (ansOf W1 q).sp ∧ few (ansOf W2 q).sp) := by
  cases q with
  | none => exact ⟨rfl, rfl, fun h => by cases h⟩
  | some p =>
    cases p with
    | pt i =>
      rcases h.at i with ⟨h1, h2⟩ | ⟨a, b, h1, h2, h3⟩
      · simp [ansOf, cur, h1, h2]
      · simp only [ansOf, cur, h1, h2]
        exact ⟨trivial, rfl, fun _ => h3⟩
    | ahead => exact ⟨rfl, rfl, fun h => by cases h⟩
    | behind => exact ⟨rfl, rfl, fun h => by cases h⟩
    | nowhere => exact ⟨rfl, rfl, fun h => by cases h⟩
theorem walkP_len {W : List SpanD} : ∀ (l : List StepD) (p : Pos), (walkP W p l).length = l.length
  | [], p => rfl
  | s :: l, p => by simp [walkP, walkP_len l]
theorem Alk.walk (h : Alk W1 W2) : ∀ (l : List StepD) (p : Pos), AnsLike (walkP W1 p l) (walkP W2 p l)
  | [], p => ⟨rfl, fun i a b ha _ => by simp [walkP] at ha⟩
  | s :: l, p => by
    refine ⟨by rw [walkP_len, walkP_len], fun i a b ha hb => ?_⟩
    cases i with
    | zero =>
      simp only [walkP, List.getElem?_cons_zero, Option.some.injEq] at ha hb
      subst ha; subst hb
      rw [h.step]
      exact h.ans _
    | succ i =>
      simp only [walkP, List.getElem?_cons_succ] at ha hb
      rw [h.step] at ha
      exact (Alk.walk h l _).2 i a b ha hb
theorem alk_fm {α : Type} {f g : α → Option SpanD} : ∀ (L : List α), (∀ j, j ∈ L → (f j = none ∧ g j = none) ∨ ∃ a b, f j = some a ∧ g j = some b ∧ a.s = b.s ∧ a.e = b.e ∧ canonF a.ks = canonF b.ks ∧ descB a.ks = true ∧ few a ∧ few b) → Alk (L.filterMap f) (L.filterMap g)
  | [], _ => Alk.nil
  | x :: L, h => by
    have ih := alk_fm L fun j hj => h j (by simp [hj])
    rcases h x (by simp) with ⟨h1, h2⟩ | ⟨a, b, h1, h2, h3, h4, h5, h6, h7, h8⟩
    · rw [List.filterMap_cons, List.filterMap_cons, h1, h2]; exact ih
    · rw [List.filterMap_cons, List.filterMap_cons, h1, h2]; exact Alk.cons h3 h4 h5 h6 h7 h8 ih
end
set_option maxHeartbeats 1000000
def sB (a b : ByteArray) : Prop := slt a b = true
section
variable {l : List ByteArray} {key : ByteArray}
theorem idxB_hi : ∀ (n j : Nat), idxB l key n ≤ j → j < n → slt (atB l j) key = false
  | 0, j, _, h => by omega
  | n + 1, j, h1, h2 => by
    unfold idxB at h1
    by_cases e : slt (atB l n) key = true
    · rw [if_pos e] at h1; omega
    · rw [if_neg e] at h1
      by_cases e2 : j = n
      · subst e2; simpa using e
      · exact idxB_hi n j h1 (by omega)
theorem idxB_lo : ∀ (n : Nat), idxB l key n ≠ 0 → slt (atB l (idxB l key n - 1)) key = true
  | 0, h => absurd rfl h
  | n + 1, h => by
    unfold idxB at h ⊢
    by_cases e : slt (atB l n) key = true
    · rw [if_pos e]; exact e
    · rw [if_neg e] at h ⊢; exact idxB_lo n h
theorem pw_atB (hp : l.Pairwise sB) {i j : Nat} (hij : i < j) (hj : j < l.length) : slt (atB l i) (atB l j) = true := by
  rw [List.pairwise_iff_getElem] at hp
  have h1 := hp i j (by omega) hj hij
  rw [atB_some (List.getElem?_eq_getElem (by omega)), atB_some (List.getElem?_eq_getElem hj)]
  exact h1
theorem addB_ok (hp : l.Pairwise sB) : (addB l key).Pairwise sB ∧ ∀ x, x ∈ addB l key ↔ (x ∈ l ∨ x = key) := by
  have hle := idxB_le l key l.length
  unfold addB
  by_cases e : idxB l key l.length < l.length ∧ atB l (idxB l key l.length) = key
  · rw [if_pos e]
    refine ⟨hp, fun x => ⟨.inl, fun h => h.elim id fun h => ?_⟩⟩
    rw [h, ← e.2]
    exact List.mem_of_getElem? (atB_get e.1)
  · rw [if_neg e]
    constructor
    · rw [List.pairwise_append, List.pairwise_cons]
      have hta : ∀ a, a ∈ l.take (idxB l key l.length) → slt a key = true := fun a ha => by
        obtain ⟨j, hj, rfl⟩ := List.mem_iff_getElem.1 ha
        rw [List.length_take] at hj
        have h1 := idxB_lo (l := l) (key := key) l.length (by omega)
        rw [List.getElem_take]
        have h2 : l[j]'(by omega) = atB l j := (atB_some (List.getElem?_eq_getElem (by omega))).symm
        rw [h2]
        by_cases e2 : j = idxB l key l.length - 1
        · rw [e2]; exact h1
        · exact slt_tr (pw_atB hp (by omega) (by omega)) h1
      have hdr : ∀ a, a ∈ l.drop (idxB l key l.length) → slt key a = true := fun a ha => by
        obtain ⟨j, hj, rfl⟩ := List.mem_iff_getElem.1 ha
        rw [List.length_drop] at hj
        rw [List.getElem_drop]
        have h2 : l[idxB l key l.length + j]'(by omega) = atB l (idxB l key l.length + j) := (atB_some (List.getElem?_eq_getElem (by omega))).symm
        rw [h2]
        have h0 : slt key (atB l (idxB l key l.length)) = true := slt_of_sle_ne (not_slt.1 (idxB_hi l.length _ (Nat.le_refl _) (by omega))) (fun h => e ⟨by omega, h.symm⟩)
        by_cases e2 : j = 0
        · subst e2; exact h0
        · exact slt_tr h0 (pw_atB hp (by omega) (by omega))
      refine ⟨hp.sublist (List.take_sublist _ _), ⟨hdr, hp.sublist (List.drop_sublist _ _)⟩, fun a ha b hb => ?_⟩
      rcases List.mem_cons.1 hb with rfl | hb
      · exact hta a ha
      · exact slt_tr (hta a ha) (hdr b hb)
    · intro x
      have h1 : (x ∈ l.take (idxB l key l.length) ∨ x ∈ l.drop (idxB l key l.length)) ↔ x ∈ l := by
        rw [← List.mem_append, List.take_append_drop]
      rw [List.mem_append, List.mem_cons, ← h1]
      constructor
      · rintro (h | h | h)
        · exact .inl (.inl h)
        · exact .inr h
        · exact .inl (.inr h)
      · rintro ((h | h) | h)
        · exact .inl h
        · exact .inr (.inr h)
        · exact .inr (.inl h)
theorem bndF_ok : ∀ (W : List SpanD) (l : List ByteArray), l.Pairwise sB → (W.foldl (fun l s => addB (addB l s.s) s.e) l).Pairwise sB ∧ ∀ x, x ∈ W.foldl (fun l s => addB (addB l s.s) s.e) l ↔ (x ∈ l ∨ ∃ s, s ∈ W ∧ (x = s.s ∨ x = s.e))
  | [], l, h => ⟨h, fun x => by simp⟩
  | s :: W, l, h => by
    rw [List.foldl_cons]
    have h1 := addB_ok (key := s.s) h
    have h2 := addB_ok (key := s.e) h1.1
    have ih := bndF_ok W _ h2.1
    refine ⟨ih.1, fun x => ?_⟩
    rw [ih.2, h2.2, h1.2]
    constructor
    · rintro (((h | h) | h) | ⟨t, ht, h⟩)
      · exact .inl h
      · exact .inr ⟨s, by simp, .inl h⟩
      · exact .inr ⟨s, by simp, .inr h⟩
      · exact .inr ⟨t, by simp [ht], h⟩
    · rintro (h | ⟨t, ht, h⟩)
      · exact .inl (.inl (.inl h))
      · rcases List.mem_cons.1 ht with rfl | ht
        · rcases h with h | h
          · exact .inl (.inl (.inr h))
          · exact .inl (.inr h)
        · exact .inr ⟨t, ht, h⟩
end
theorem bndF_mem {W : List SpanD} {x : ByteArray} : x ∈ bndF W ↔ ∃ s, s ∈ W ∧ (x = s.s ∨ x = s.e) := by
  have := (bndF_ok W [] List.Pairwise.nil).2 x
  simpa [bndF] using this
theorem bnds_of {ws : List (List SpanD)} (hO : ∀ W, W ∈ ws → Tess.Ord W) : Bnds ws (bndF ws.flatten) := by
  refine ⟨hO, fun i j x y hij hx hy => ?_, fun W r hW h1 h2 => ?_, fun x hx => ?_⟩
  · have hp : (bndF ws.flatten).Pairwise sB := (bndF_ok ws.flatten [] List.Pairwise.nil).1
    have hj := (List.getElem?_eq_some_iff.1 hy).1
    have := pw_atB hp hij hj
    rw [atB_some hx, atB_some hy] at this; exact this
  · rw [bndF_mem]
    by_cases e : r % 2 = 1
    · obtain ⟨t, ht⟩ := ex_get (L := W) (k := (r - 1) / 2) (by omega)
      have h3 := bkW_s ht
      rw [show 2 * ((r - 1) / 2) + 1 = r from by omega] at h3
      exact ⟨t, List.mem_flatten.2 ⟨W, hW, List.mem_of_getElem? ht⟩, .inl h3⟩
    · obtain ⟨t, ht⟩ := ex_get (L := W) (k := r / 2 - 1) (by omega)
      have h3 := bkW_e ht
      rw [show 2 * (r / 2 - 1) + 2 = r from by omega] at h3
      exact ⟨t, List.mem_flatten.2 ⟨W, hW, List.mem_of_getElem? ht⟩, .inr h3⟩
  · obtain ⟨s, hs, h⟩ := bndF_mem.1 hx
    obtain ⟨W, hW, hsW⟩ := List.mem_flatten.1 hs
    obtain ⟨i, hi, e⟩ := List.mem_iff_getElem.1 hsW
    have hi2 : W[i]? = some s := by rw [List.getElem?_eq_getElem hi, e]
    rcases h with rfl | rfl
    · exact ⟨W, hW, 2 * i + 1, by omega, by omega, bkW_s hi2⟩
    · exact ⟨W, hW, 2 * i + 2, by omega, by omega, bkW_e hi2⟩
theorem filter_one {α : Type} {p : α → Bool} : ∀ (W : List α) (m : Nat), (∀ (i : Nat) x, W[i]? = some x → (p x = true ↔ i = m)) → W.filter p = (W[m]?).toList
  | [], m, _ => by simp
  | x :: W, m, h => by
    have h0 := h 0 x rfl
    cases m with
    | zero =>
      rw [List.filter_cons_of_pos (h0.2 rfl)]
      have : W.filter p = [] := List.filter_eq_nil_iff.2 fun y hy e => by
        obtain ⟨i, hi, e2⟩ := List.mem_iff_getElem.1 hy
        have := (h (i + 1) y (by rw [List.getElem?_cons_succ, List.getElem?_eq_getElem hi, e2])).1 e
        omega
      rw [this]; rfl
    | succ m =>
      rw [List.filter_cons_of_neg (fun e => by have := h0.1 e; omega), filter_one W m fun i y hy => by
        have := h (i + 1) y (by simpa using hy)
        exact this.trans (by omega)]
      simp
def lvK (W : List SpanD) (x : ByteArray) : List KeyD := if cE W x % 2 = 1 then ((W[cE W x / 2]?).map SpanD.ks).getD [] else []
theorem cov_lv {ws : List (List SpanD)} {B : List ByteArray} (h : Bnds ws B) {W : List SpanD} (hW : W ∈ ws) {j : Nat} (hj : j + 1 < B.length) :
    ((W.filter (fun x => sle x.s (atB B j) && sle (atB B (j + 1)) x.e)).map SpanD.ks).flatten = lvK W (atB B j) := by
  have hO := h.ord W hW
  have hc := cE_cL h hW hj
  have hle := cE_le W (atB B j)
  have key : ∀ (i : Nat) x, W[i]? = some x → ((sle x.s (atB B j) && sle (atB B (j + 1)) x.e) = true ↔ cE W (atB B j) = 2 * i + 1) := fun i x hx => by
    have hi := (List.getElem?_eq_some_iff.1 hx).1
    have h1 := cE_iff hO (k := atB B j) (r := 2 * i + 1) (by omega) (by omega)
    have h2 := cL_iff hO (k := atB B (j + 1)) (r := 2 * i + 2) (by omega) (by omega)
    rw [bkW_s hx] at h1
    rw [bkW_e hx] at h2
    rw [Bool.and_eq_true, ← h1, ← not_slt, ← Bool.not_eq_true, ← h2, ← hc]
    omega
  unfold lvK
  by_cases e : cE W (atB B j) % 2 = 1
  · rw [if_pos e, filter_one W (cE W (atB B j) / 2) fun i x hx => by rw [key i x hx]; omega]
    cases hx : W[cE W (atB B j) / 2]? <;> simp
  · rw [if_neg e]
    have : W.filter (fun x => sle x.s (atB B j) && sle (atB B (j + 1)) x.e) = [] := List.filter_eq_nil_iff.2 fun x hx e2 => by
      obtain ⟨i, hi, rfl⟩ := List.mem_iff_getElem.1 hx
      have := (key i _ (List.getElem?_eq_getElem hi)).1 e2
      omega
    rw [this]; rfl
theorem covK_flat {a b : ByteArray} : ∀ (ws : List (List SpanD)), covK ws.flatten a b = (ws.map (fun W => ((W.filter (fun x => sle x.s a && sle b x.e)).map SpanD.ks).flatten)).flatten
  | [] => by simp [covK]
  | W :: ws => by
    have ih := covK_flat (a := a) (b := b) ws
    unfold covK at ih ⊢
    rw [List.flatten_cons, List.filter_append, List.map_append, List.flatten_append, ih]; rfl
theorem flat_filter {α β : Type} {p : α → Bool} {f : α → List β} : ∀ (L : List α), ((L.filter p).map f).flatten = (L.map (fun i => if p i then f i else [])).flatten
  | [] => rfl
  | x :: L => by
    have ih := flat_filter (p := p) (f := f) L
    cases e : p x
    · rw [List.filter_cons_of_neg (by rw [e]; decide), ih, List.map_cons, List.flatten_cons, e]; rfl
    · rw [List.filter_cons_of_pos e, List.map_cons, List.flatten_cons, ih, List.map_cons, List.flatten_cons, e]; rfl
theorem range_opt {α β : Type} {F : Nat → β} {g : α → β} (L : List α) (h : ∀ (i : Nat) v, L[i]? = some v → F i = g v) : (List.range L.length).map F = L.map g := by
  refine List.ext_getElem (by simp) fun i h1 h2 => ?_
  simp at h1
  rw [List.getElem_map, List.getElem_map, List.getElem_range]
  exact h i _ (List.getElem?_eq_getElem h1)
def KeysOK (vs : List Lev) : Prop := ∀ v, v ∈ vs → ∀ (s : Nat) x, v.W[s]? = some x → (v.kt s).map KT.k = x.ks
theorem catX_keys {vs : List Lev} (hk : KeysOK vs) (x : ByteArray) : (catX vs x).map KT.k = ((wsO vs).map (fun W => lvK W x)).flatten := by
  unfold catX
  rw [flat_filter, range_opt (g := fun v : Lev => if cE v.W x % 2 = 1 then v.kt (cE v.W x / 2) else []) vs (fun i v hv => by simp [hv]), List.map_flatten, List.map_map]
  unfold wsO
  rw [List.map_map]
  congr 1
  refine List.map_congr_left fun v hv => ?_
  simp only [Function.comp, lvK]
  by_cases e : cE v.W x % 2 = 1
  · rw [if_pos e, if_pos e]
    have hle := cE_le v.W x
    obtain ⟨s, hs⟩ := ex_get (L := v.W) (k := cE v.W x / 2) (by omega)
    rw [hk v hv _ s hs, hs]; rfl
  · rw [if_neg e, if_neg e]; rfl
theorem covK_cat {vs : List Lev} {B : List ByteArray} (h : Bnds (wsO vs) B) (hk : KeysOK vs) {j : Nat} (hj : j + 1 < B.length) : covK (wsO vs).flatten (atB B j) (atB B (j + 1)) = (catX vs (atB B j)).map KT.k := by
  rw [covK_flat, catX_keys hk]
  congr 1
  exact List.map_congr_left fun W hW => cov_lv h hW hj
theorem covB_ne {vs : List Lev} {B : List ByteArray} (h : Bnds (wsO vs) B) (hk : KeysOK vs) (hne : ∀ W, W ∈ wsO vs → ∀ s, s ∈ W → s.ks ≠ []) {j : Nat} (hj : j + 1 < B.length) : covB (wsO vs) (atB B j) = true ↔ covK (wsO vs).flatten (atB B j) (atB B (j + 1)) ≠ [] := by
  rw [covK_cat h hk hj, catX_keys hk]
  unfold covB
  rw [List.any_eq_true]
  constructor
  · rintro ⟨W, hW, e⟩ e2
    have e : cE W (atB B j) % 2 = 1 := by simpa using e
    have hle := cE_le W (atB B j)
    obtain ⟨s, hs⟩ := ex_get (L := W) (k := cE W (atB B j) / 2) (by omega)
    have h1 : lvK W (atB B j) = [] := List.flatten_eq_nil_iff.1 e2 _ (List.mem_map.2 ⟨W, hW, rfl⟩)
    unfold lvK at h1
    rw [if_pos e, hs] at h1
    exact hne W hW s (List.mem_of_getElem? hs) h1
  · intro hn
    cases e : (wsO vs).any (fun W => cE W (atB B j) % 2 == 1) with
    | true => exact List.any_eq_true.1 e
    | false =>
      exfalso
      apply hn
      rw [List.flatten_eq_nil_iff]
      intro l hl
      obtain ⟨W, hW, rfl⟩ := List.mem_map.1 hl
      have := List.any_eq_false.1 e W hW
      unfold lvK
      rw [if_neg (by simpa using this)]
theorem kfM_perm {vs : List Lev} {snap : Nat} {B : List ByteArray} (h : Bnds (wsO vs) B) (hk : KeysOK vs) {j : Nat} (hj : j + 1 < B.length) : (kfM vs snap (atB B j)).Perm ((canonF (covK (wsO vs).flatten (atB B j) (atB B (j + 1)))).filter (visK snap)) := by
  rw [covK_cat h hk hj]
  unfold kfM
  have h1 : ((sortKT (catX vs (atB B j))).filter (fun y => visK snap y.k)).map KT.k = ((sortKT (catX vs (atB B j))).map KT.k).filter (visK snap) := by rw [List.filter_map]; rfl
  rw [h1]
  exact (((sortKT_perm _).map KT.k).trans (canonF_perm _).symm).filter _
theorem kfM_desc {vs : List Lev} {snap : Nat} {x : ByteArray} : descB (kfM vs snap x) = true := by
  rw [desc_pair]
  unfold kfM
  rw [List.pairwise_map]
  exact (sortKT_sorted _).filter _
theorem merged_alike {vs : List Lev} {snap : Nat} {B : List ByteArray} (h : Bnds (wsO vs) B) (hk : KeysOK vs) (hne : ∀ W, W ∈ wsO vs → ∀ s, s ∈ W → s.ks ≠ []) (hB : bndF (wsO vs).flatten = B) (hfew : ∀ x, ((catX vs x).map KT.k).length ≤ 100000) : Alk (mrgW vs snap B) ((fragF (wsO vs).flatten).map (visSp snap)) := by
  unfold mrgW fragF
  rw [hB]
  unfold sgM segs
  rw [List.filterMap_map, List.map_filterMap]
  refine alk_fm _ fun j hj => ?_
  rw [List.mem_range] at hj
  have hj : j + 1 < B.length := by omega
  have hp := kfM_perm (snap := snap) h hk hj
  have hfl : (covK (wsO vs).flatten (atB B j) (atB B (j + 1))).length ≤ 100000 := by rw [covK_cat h hk hj]; exact hfew _
  simp only [Function.comp]
  by_cases e : covB (wsO vs) (atB B j) = true
  · have e2 := (covB_ne h hk hne hj).1 e
    refine .inr ⟨⟨atB B j, atB B (j + 1), kfM vs snap (atB B j)⟩, visSp snap ⟨atB B j, atB B (j + 1), canonF (covK (wsO vs).flatten (atB B j) (atB B (j + 1)))⟩, by unfold covF; exact if_pos e, by unfold fragP; rw [if_neg e2]; rfl, rfl, rfl, canonF_congr hp, kfM_desc, ?_, ?_⟩
    · unfold few
      show (kfM vs snap (atB B j)).length ≤ _
      rw [hp.length_eq]
      refine Nat.le_trans (List.length_filter_le _ _) ?_
      rw [canonF_len]; exact hfl
    · unfold few
      show ((canonF _).filter _).length ≤ _
      refine Nat.le_trans (List.length_filter_le _ _) ?_
      rw [canonF_len]; exact hfl
  · have e2 : covK (wsO vs).flatten (atB B j) (atB B (j + 1)) = [] := Classical.byContradiction fun h2 => e ((covB_ne h hk hne hj).2 h2)
    exact .inl ⟨by unfold covF; exact if_neg e, by unfold fragP; rw [if_pos e2]; rfl⟩
set_option maxHeartbeats 1000000
def KRng (W : List SpanD) : Prop := ∀ s, s ∈ W → ∀ k, k ∈ s.ks → 0 ≤ k.tr ∧ k.tr < 18446744073709551616
theorem lev_good {ws : List (List SpanD)} {n : Int} (hf : fit3 ws = true) (hn : n ≤ 40) (h : levB ws n = true) : (∀ W, W ∈ ws → Good W) ∧ ws.length ≤ 6 ∧ ∀ W, W ∈ ws → (W.length : Int) ≤ n := by
  simp only [fit3, levB, Bool.and_eq_true, List.all_eq_true, decide_eq_true_eq] at hf h
  refine ⟨fun W hW => (good_of hn (hf.2 W hW) (by rw [Bool.and_eq_true]; exact h.1 W hW)).1, by omega, fun W hW => (good_of hn (hf.2 W hW) (by rw [Bool.and_eq_true]; exact h.1 W hW)).2⟩
theorem good_wok {W : List SpanD} (h : Good W) (hr : KRng W) : WOK W := ⟨by have := h.len; omega, h.ord, fun s hs => ⟨by have := (h.full s hs).2.2.2; omega, hr s hs⟩⟩
theorem bnd_small {ws : List (List SpanD)} (hf : fit3 ws = true) : ∀ x, x ∈ bndF ws.flatten → x.data.toList.length ≤ 100000000000 := fun x hx => by
  obtain ⟨s, hs, h⟩ := bndF_mem.1 hx
  obtain ⟨W, hW, hsW⟩ := List.mem_flatten.1 hs
  simp only [fit3, Bool.and_eq_true, List.all_eq_true, decide_eq_true_eq] at hf
  have h4 := hf.2 W hW
  simp only [fit4, Bool.and_eq_true, List.all_eq_true, decide_eq_true_eq] at h4
  have h5 := h4.2 s hsW
  simp only [fit5, Bool.and_eq_true, decide_eq_true_eq, MX] at h5
  have e : x.data.toList.length = x.size := Array.length_toList
  rw [e]
  rcases h with rfl | rfl <;> omega
theorem lvK_len {W : List SpanD} {n : Nat} (h : ∀ s, s ∈ W → s.ks.length ≤ n) (x : ByteArray) : (lvK W x).length ≤ n := by
  unfold lvK
  split
  · cases hs : W[cE W x / 2]? with
    | none => simp
    | some s => exact h s (List.mem_of_getElem? hs)
  · simp
open Go.Tess Go.ChangeShapes Go.WideShapes Go.ChangeAt Go.RowKit
def KRng1 (k : KeyD) : Prop := 0 ≤ k.tr ∧ k.tr < 18446744073709551616
theorem wf64 {n : Int} (h : (Lit.int .u64 n).wf = true) : 0 ≤ n ∧ n < 18446744073709551616 := by
  simp [Lit.wf, IntKind.min, IntKind.max, IntKind.bits, IntKind.signed] at h; omega
section
variable {H : Type} {enc : TypeId × Value → H} {χ : Chi} {h : Heap} {d : Nat} {sp : Nat → Bool} {hd : Bool}
theorem open_keyR {n : Nat} {cs : List Value} {x : DataW H × List MemPlace} (hx : DataW.trod enc Tryz.prog (mkw χ h d) 0 sp hd n 42 cs = some x) : ∃ k : KeyD, cs = k.cells ∧ KRng1 k := by
  have hl := struct_len st_key hx (sz := 3) (by kernel_rfl)
  match cs, hl with
  | [c0, c1, c2], _ =>
    obtain ⟨_, _, y0⟩ := field_open st_key hx 0 35 0 1 (by kernel_rfl) (by kernel_rfl)
    obtain ⟨_, _, y1⟩ := field_open st_key hx 1 9 1 1 (by kernel_rfl) (by kernel_rfl)
    obtain ⟨_, _, y2⟩ := field_open st_key hx 2 9 2 1 (by kernel_rfl) (by kernel_rfl)
    obtain ⟨i, e0, _, hw⟩ := DataW.trod_int u_uint64 y0
    obtain ⟨s, e1, _⟩ := DataW.trod_string u_string y1
    obtain ⟨u, e2, _⟩ := DataW.trod_string u_string y2
    cases e0; cases e1; cases e2
    exact ⟨⟨i, s, u⟩, rfl, wf64 hw⟩
theorem sl_all {α : Type} {A : Nat → Prop} {h : Heap} {sz : Nat} {R : Heap → Nat → Nat → α → Prop} {p : α → Prop} {v : Value} {xs : List α} (hs : SlR h A sz R v xs) (hp : ∀ b o a, R h b o a → p a) : ∀ a, a ∈ xs → p a := fun a ha => by
  obtain ⟨_, _, _, _, hx⟩ := hs
  obtain ⟨i, hi, e⟩ := List.mem_iff_getElem.1 ha
  obtain ⟨b, o, _, _, hr⟩ := hx i a (by rw [List.getElem?_eq_getElem hi, e])
  exact hp _ _ _ hr
theorem open_keysR {n : Nat} {v : Value} {x : DataW H × List MemPlace} (hx : DataW.trod enc Tryz.prog (mkw χ h d) 0 sp hd n 38 [v] = some x) : ∃ ks : List KeyD, RKeys (All h) h v ks ∧ ∀ k, k ∈ ks → KRng1 k := by
  obtain ⟨ks, hk⟩ := sl_open (R := fun cs (k : KeyD) => cs = k.cells ∧ KRng1 k) u_sl_spec_SpanKey (sz := 3) (by kernel_rfl) (by omega) (fun n cs x hx => open_keyR hx) hx
  exact ⟨ks, SlR.mono hk (fun _ h => h) fun b o x _ hc => by obtain ⟨cs, h1, rfl, _⟩ := hc; exact h1, sl_all hk fun b o a ⟨_, _, _, h⟩ => h⟩
theorem open_spanR {n : Nat} {cs : List Value} {x : DataW H × List MemPlace} (hx : DataW.trod enc Tryz.prog (mkw χ h d) 0 sp hd n 40 cs = some x) : ∃ s : SpanD, ∃ kv, cs = [.string s.s, .string s.e, kv] ∧ RKeys (All h) h kv s.ks ∧ ∀ k, k ∈ s.ks → KRng1 k := by
  have hl := struct_len st_span hx (sz := 3) (by kernel_rfl)
  match cs, hl with
  | [c0, c1, c2], _ =>
    obtain ⟨_, _, y0⟩ := field_open st_span hx 0 9 0 1 (by kernel_rfl) (by kernel_rfl)
    obtain ⟨_, _, y1⟩ := field_open st_span hx 1 9 1 1 (by kernel_rfl) (by kernel_rfl)
    obtain ⟨_, _, y2⟩ := field_open st_span hx 2 38 2 1 (by kernel_rfl) (by kernel_rfl)
    obtain ⟨s, e1, _⟩ := DataW.trod_string u_string y0
    obtain ⟨u, e2, _⟩ := DataW.trod_string u_string y1
    obtain ⟨ks, hk, hr⟩ := open_keysR y2
    cases e1; cases e2
    exact ⟨⟨s, u, ks⟩, _, rfl, hk, hr⟩
theorem open_spansR {n : Nat} {v : Value} {x : DataW H × List MemPlace} (hx : DataW.trod enc Tryz.prog (mkw χ h d) 0 sp hd n 25 [v] = some x) : ∃ W : List SpanD, RSpans (All h) h v W ∧ KRng W := by
  obtain ⟨W, hW⟩ := sl_open (R := fun cs (s : SpanD) => ∃ kv, cs = [.string s.s, .string s.e, kv] ∧ RKeys (All h) h kv s.ks ∧ ∀ k, k ∈ s.ks → KRng1 k) u_sl_spec_Span (sz := 3) (by kernel_rfl) (by omega) (fun n cs x hx => open_spanR hx) hx
  exact ⟨W, SlR.mono hW (fun _ h => h) fun b o x _ hc => by obtain ⟨cs, h1, kv, rfl, hk, _⟩ := hc; exact ⟨kv, h1, hk⟩, sl_all hW fun b o a ⟨_, _, _, _, _, h⟩ => h⟩
theorem open_levels {n : Nat} {v : Value} {x : DataW H × List MemPlace} (hx : DataW.trod enc Tryz.prog (mkw χ h d) 0 sp hd n 22 [v] = some x) : ∃ ws : List (List SpanD), RLevels (All h) h v ws ∧ ∀ W, W ∈ ws → KRng W := by
  obtain ⟨ws, hW⟩ := sl_open (R := fun cs (W : List SpanD) => ∃ v, cs = [v] ∧ RSpans (All h) h v W ∧ KRng W) u_sl_sl_spec_Span (sz := 1) (by kernel_rfl) (by omega) (fun n cs x hx => by
    have hcs : ∃ c0, cs = [c0] := by
      rcases DataW.trod_slice u_sl_spec_Span hx with ⟨e, _⟩ | ⟨_, _, _, _, _, _, _, e, _⟩
      · exact ⟨_, e⟩
      · exact ⟨_, e⟩
    obtain ⟨c0, rfl⟩ := hcs
    obtain ⟨W, h1, h2⟩ := open_spansR hx
    exact ⟨W, c0, rfl, h1, h2⟩) hx
  exact ⟨ws, SlR.mono hW (fun _ h => h) fun b o x _ hc => by obtain ⟨cs, h1, kv, rfl, hk, _⟩ := hc; exact ⟨kv, h1, hk⟩, sl_all hW fun b o a ⟨_, _, _, _, _, h⟩ => h⟩
end
set_option maxHeartbeats 2000000
theorem Alk.good {W1 W2 : List SpanD} (h : Alk W1 W2) : ∀ s, s ∈ W1 → descB s.ks = true ∧ few s := by
  induction h with
  | nil => simp
  | @cons a b l1 l2 hs he hc hd f1 f2 _ ih => intro s hs; rcases List.mem_cons.1 hs with rfl | hs; exact ⟨hd, f1⟩; exact ih s hs
theorem lev_first {ws : List (List SpanD)} (h1 : ¬ (ws.length : Int) = 0) (h2 : ¬ (((ws[0]?).getD []).length : Int) = 0) : ∃ W0 s r, W0 ∈ ws ∧ W0 = s :: r := by
  obtain ⟨W0, hW0⟩ := ex_get (L := ws) (k := 0) (by omega)
  rw [hW0] at h2
  cases W0 with
  | nil => simp at h2
  | cons s r => exact ⟨_, s, r, List.mem_of_getElem? hW0, rfl⟩
section
variable {vs us : List Lev} {ws : List (List SpanD)} {snap : Nat}
theorem mrg_pos {B : List ByteArray} {s : SpanD} {r : List SpanD} (hvs : vs.map Lev.W = ws) (hB : Bnds ws B) (hW : s :: r ∈ ws) : 0 < (mrgW vs snap B).length := by
  have hO := hB.ord _ hW
  have hse := hO.1 s (by simp)
  obtain ⟨j, hj, ej⟩ := hB.idx (hB.mem _ 1 hW (by omega) (by simp only [List.length_cons]; omega))
  obtain ⟨i, hi, ei⟩ := hB.idx (hB.mem _ 2 hW (by omega) (by simp only [List.length_cons]; omega))
  rw [bkW1] at ej
  rw [bkW2] at ei
  have hji := hB.idx_lt hj (show slt (atB B j) (atB B i) = true by rw [ej, ei]; exact hse)
  have hc : cE (s :: r) s.s = 1 := by
    show (if sle s.e s.s = true then cnt r _ + 2 else if sle s.s s.s = true then 1 else 0) = 1
    rw [if_neg (by rw [not_sle.2 hse]; decide), if_pos (sle_refl _)]
  have hcov : covB (wsO vs) (atB B j) = true := by
    show covB (vs.map Lev.W) _ = true
    rw [hvs, ej]
    exact List.any_eq_true.2 ⟨_, hW, by rw [hc]; rfl⟩
  have hseg := segs_at (B := B) (kf := kfM vs snap) (j := j) (by omega)
  have hm : (⟨atB B j, atB B (j + 1), kfM vs snap (atB B j)⟩ : SpanD) ∈ mrgW vs snap B := List.mem_filterMap.2 ⟨_, List.mem_of_getElem? hseg, if_pos hcov⟩
  exact List.length_pos_of_mem hm
end
set_option maxHeartbeats 1000000
theorem fm_congr {α β : Type} {f g : α → Option β} : ∀ (L : List α), (∀ x, x ∈ L → f x = g x) → L.filterMap f = L.filterMap g
  | [], _ => rfl
  | x :: L, h => by rw [List.filterMap_cons, List.filterMap_cons, h x (by simp), fm_congr L fun y hy => h y (by simp [hy])]
theorem srtB_unique : ∀ (l1 l2 : List ByteArray), l1.Pairwise sB → l2.Pairwise sB → (∀ x, x ∈ l1 ↔ x ∈ l2) → l1 = l2
  | [], [], _, _, _ => rfl
  | [], b :: l2, _, _, h => absurd ((h b).2 (by simp)) (by simp)
  | a :: l1, [], _, _, h => absurd ((h a).1 (by simp)) (by simp)
  | a :: l1, b :: l2, h1, h2, h => by
    rw [List.pairwise_cons] at h1 h2
    have hab : a = b := by
      rcases List.mem_cons.1 ((h a).1 (by simp)) with e | e
      · exact e
      · rcases List.mem_cons.1 ((h b).2 (by simp)) with e2 | e2
        · exact e2.symm
        · have := slt_tr (h1.1 b e2) (h2.1 a e); rw [slt_irr] at this; cases this
    subst hab
    rw [srtB_unique l1 l2 h1.2 h2.2 fun x => ?_]
    constructor
    · intro hx
      rcases List.mem_cons.1 ((h x).1 (by simp [hx])) with e | e
      · subst e; have := h1.1 x hx; unfold sB at this; rw [slt_irr] at this; cases this
      · exact e
    · intro hx
      rcases List.mem_cons.1 ((h x).2 (by simp [hx])) with e | e
      · subst e; have := h2.1 x hx; unfold sB at this; rw [slt_irr] at this; cases this
      · exact e
theorem bndF_srt (W : List SpanD) : (bndF W).Pairwise sB := (bndF_ok W [] List.Pairwise.nil).1
theorem bndF_congr {W W' : List SpanD} (h : ∀ x, x ∈ bndF W ↔ x ∈ bndF W') : bndF W = bndF W' := srtB_unique _ _ (bndF_srt W) (bndF_srt W') h
theorem fragF_congr {W W' : List SpanD} (h : bndF W = bndF W') (hk : ∀ j, j + 1 < (bndF W').length → (covK W (atB (bndF W') j) (atB (bndF W') (j + 1))).Perm (covK W' (atB (bndF W') j) (atB (bndF W') (j + 1)))) : fragF W = fragF W' := by
  unfold fragF
  rw [h]
  refine fm_congr _ fun j hj => ?_
  rw [List.mem_range] at hj
  have hp := hk j (by omega)
  unfold fragP
  rw [canonF_congr hp]
  by_cases e : covK W' (atB (bndF W') j) (atB (bndF W') (j + 1)) = []
  · rw [if_pos e, if_pos (by rw [e] at hp; exact List.perm_nil.1 hp)]
  · rw [if_neg e, if_neg (fun h2 => e (by rw [h2] at hp; exact List.nil_perm.1 hp))]
theorem covK_perm {W W' : List SpanD} {a b : ByteArray} (h : W.Perm W') : (covK W a b).Perm (covK W' a b) := ((h.filter _).map _).flatten
structure LG (ws : List (List SpanD)) : Prop where
  ord : ∀ W, W ∈ ws → Tess.Ord W
  ne : ∀ W, W ∈ ws → ∀ s, s ∈ W → s.ks ≠ []
  ks : ∀ W, W ∈ ws → ∀ s, s ∈ W → s.ks.length ≤ 1000
  len : ws.length ≤ 10
theorem LG.of {ws : List (List SpanD)} (hG : ∀ W, W ∈ ws → Good W) (hl : ws.length ≤ 10) : LG ws := ⟨fun W hW => (hG W hW).ord, fun W hW s hs => ((hG W hW).full s hs).2.1, fun W hW s hs => by have := ((hG W hW).full s hs).2.2.2; omega, hl⟩
theorem lg_alk {vs : List Lev} {ws : List (List SpanD)} {snap : Nat} (hvs : vs.map Lev.W = ws) (hk : KeysOK vs) (hG : LG ws) : Alk (mrgW vs snap (bndF ws.flatten)) (mergF ws snap) := by
  subst hvs
  refine merged_alike (bnds_of hG.ord) hk hG.ne rfl fun x => ?_
  rw [catX_keys hk]
  have h1 := flat_le (n := 1000) ((wsO vs).map (fun W => lvK W x)) (fun c hc => by
    obtain ⟨W, hW, rfl⟩ := List.mem_map.1 hc
    exact lvK_len (fun s hs => hG.ks W hW s hs) x)
  rw [List.length_map] at h1
  have : (wsO vs).length ≤ 10 := hG.len
  omega
theorem lg_few {vs : List Lev} {ws : List (List SpanD)} {snap : Nat} (hvs : vs.map Lev.W = ws) (hk : KeysOK vs) (hG : LG ws) : ∀ s, s ∈ mrgW vs snap (bndF ws.flatten) → few s := fun s hs => ((lg_alk hvs hk hG).good s hs).2
end Go.Proofs.YtmckkklhonfmcaaGreat
namespace Go.Tess
open Go.RowKit
section
variable {P : Program} {χ : Chi} {ρ : Operand → Option Value} {h : Heap} {ty : TypeId} {pos : String} {after : Array Edge} {guard : Option (Nat × Bool)} {dst : Option Tmp} {x y : Operand} {t t2 : TypeId}
theorem v_remN {a b r : Nat} (hx : ρ x = some (.int .i64 (a : Int))) (hy : ρ y = some (.int .i64 (b : Int))) (h2 : 0 < b) (h3 : b ≤ 1000000) (hr : a % b = r) :
    OpV P χ ⟨dst, .binOp .rem t x y t2, ty, pos, after, guard⟩ ρ h (.int .i64 (r : Int)) := by
  subst hr
  exact v_bin hx hy fun w => by
    have hb : ¬ (b : Int) = 0 := by omega
    have hm := Int.emod_nonneg (a : Int) hb
    have hm2 := Int.emod_lt_of_pos (a : Int) (show (0 : Int) < b by omega)
    have h0 : (0 : Int) ≤ a := by omega
    have h9 : -9223372036854775808 ≤ (a : Int) % (b : Int) ∧ (a : Int) % (b : Int) ≤ 9223372036854775807 := by omega
    simp [eqGuard, binOp, Op.intArith, Op.intDiv, hb, Int.tmod_eq_emod_of_nonneg h0, IntWalk.i64_in _ h9]
    intro e; omega
end
end Go.Tess
namespace Go.Proofs.YtmckkklhonfmcaaGreat
open Go.Tess Go.RowKit
set_option maxRecDepth 100000
set_option maxHeartbeats 2000000
theorem rlev_take {A : Nat → Prop} {h : Heap} {a : Option Addr} {c : Nat} {ws : List (List SpanD)} (H : RLevels A h (.slice a ws.length c) ws) {i : Nat} (hi : i ≤ ws.length) : RLevels A h (.slice a i c) (ws.take i) := by
  obtain ⟨hl, a', c', e, hx⟩ := H
  cases e
  have e : (ws.take i).length = i := by rw [List.length_take]; omega
  refine ⟨by omega, a, c, by rw [e], fun j x hj => ?_⟩
  rw [List.getElem?_take] at hj
  split at hj
  · exact hx j x hj
  · cases hj
theorem rlev_drop {A : Nat → Prop} {h : Heap} {b o c : Nat} {ws : List (List SpanD)} (H : RLevels A h (.slice (some ⟨b, o, none⟩) ws.length c) ws) {i : Nat} (hi : i ≤ ws.length) (hc : ws.length ≤ c) : RLevels A h (.slice (some ⟨b, if c = i then o else o + i * 1, none⟩) (ws.length - i) (c - i)) (ws.drop i) := by
  obtain ⟨hl, a', c', e, hx⟩ := H
  cases e
  have e : (ws.drop i).length = ws.length - i := by rw [List.length_drop]
  refine ⟨by omega, _, _, by rw [e], fun j x hj => ?_⟩
  rw [List.getElem?_drop] at hj
  have hlt := (List.getElem?_eq_some_iff.1 hj).1
  obtain ⟨b', o', e2, hA, hr⟩ := hx (i + j) x hj
  cases e2
  rw [if_neg (by omega)]
  exact ⟨b, o + i * 1, rfl, hA, by rw [show o + i * 1 + j * 1 = o + (i + j) * 1 from by omega]; exact hr⟩
theorem rlev_form {A : Nat → Prop} {h : Heap} {a : Option Addr} {c : Nat} {ws : List (List SpanD)} (H : RLevels A h (.slice a ws.length c) ws) (h0 : 0 < ws.length) : ∃ b o, a = some ⟨b, o, none⟩ := by
  obtain ⟨hl, a', c', e, hx⟩ := H
  cases e
  obtain ⟨W, hW⟩ := ex_get (L := ws) (k := 0) h0
  obtain ⟨b, o, e2, _⟩ := hx 0 W hW
  exact ⟨b, o, e2⟩
theorem lg_sub {ws us : List (List SpanD)} (h : LG ws) (hs : ∀ W, W ∈ us → W ∈ ws) (hl : us.length ≤ 10) : LG us := ⟨fun W hW => h.ord W (hs W hW), fun W hW => h.ne W (hs W hW), fun W hW => h.ks W (hs W hW), hl⟩
theorem bnd_sub {ws us : List (List SpanD)} {n : Nat} (h : ∀ x, x ∈ bndF ws.flatten → x.data.toList.length ≤ n) (hs : ∀ W, W ∈ us → W ∈ ws) : ∀ x, x ∈ bndF us.flatten → x.data.toList.length ≤ n := fun x hx => by
  obtain ⟨s, h1, h2⟩ := bndF_mem.1 hx
  obtain ⟨W, hW, h3⟩ := List.mem_flatten.1 h1
  exact h x (bndF_mem.2 ⟨s, List.mem_flatten.2 ⟨W, hs W hW, h3⟩, h2⟩)
theorem c_toLevelsN (χ : Chi) (h : Heap) (A : Nat → Prop) (hA : Low A h) (v : Value) (ws : List (List SpanD)) (hW : RLevels A h v ws) (hn : ws.length ≤ 100) (hl : ∀ W, W ∈ ws → W.length ≤ 100000) (hm : ∀ W, W ∈ ws → ∀ s, s ∈ W → s.ks.length ≤ 100000) :
    Cl Tryz.prog χ 16 #[v] h (fun r h' => (RLevels (Up A h h') h' r ws ∧ ∃ a c, r = .slice a ws.length c ∧ ws.length ≤ c) ∧ Keep [] h h') := by
  obtain ⟨hlen, a, c, rfl, hx⟩ := hW.form
  refine cl_intro Tryz.func16 rfl rfl rfl ?_
  have K : Keep [] h h := Keep.refl _ _
  refine rG <| rA rfl rfl <| rN <| rG <| rA rfl rfl <| rN ?_
  refine tr_seq ?_
  refine rG <| rM rfl rfl <| rs_v (v_len u_sl_sl_spec_Span rfl) rfl ?_
  refine rM rfl rfl <| rN <| tr_block ?_
  refine tr_loop (fun m E h' => ∃ k v n, k ≤ ws.length ∧ m = ws.length - k ∧ E = [(3, v), (6, .slice a ws.length c), (7, .int .i64 (ws.length : Int)), (8, .int .i64 (k : Int))] ∧ Keep [] h h' ∧ n = (ws.take k).length ∧ OutR A h h' h.size 29 1 cLevel v n (ws.take k)) ws.length [(3, _), (6, _), (7, _), (8, _)] ⟨rfl, rfl, rfl, rfl, trivial⟩ ⟨0, _, 0, Nat.zero_le _, rfl, rfl, K, rfl, OutR.nil _ _ _ _ _ _ _⟩ ?_
  rintro m E hL1 ⟨k, v, n, hk, rfl, rfl, K, hn2, hout⟩
  have hout0 := hout
  obtain ⟨xs, F, O, hrow, hF⟩ := hout
  have hob := own_ne O; have KL := Keep.refl [] hL1
  refine rG <| rs_v (v_lt rfl rfl) rfl ?_
  refine rN ?_
  refine tr_seq ?_
  refine tr_ifn rfl (fun hif => ?_) (fun hif => ?_)
  · -- no
    simp only [dT, dF] at hif
    have hkk : k = ws.length := by omega
    subst hkk
    refine tr_exit <| q_thn_exit ?_
    refine q_lp_exit ?_
    refine q_blk_hit ?_
    refine q_thn ?_
    refine rG <| rM rfl rfl <| rA rfl rfl <| rN <| tr_ret <| q_ret (res_tmp rfl rfl) ?_
    rw [List.take_length] at hout0 hn2
    have hn9 : n = ws.length := hn2
    obtain ⟨va, vc, rfl⟩ := Own.form3 O
    exact ⟨⟨hout0.fin cLevel_st hn2 (Nat.le_refl _) cLevel_r, _, _, by rw [hn9], by rw [← hn9]; exact own_room O⟩, K⟩
  -- yes
  simp only [dT, dF] at hif
  rcases hx with rfl | ⟨b, o, rfl, hAb, hR⟩
  · simp at hif; omega
  obtain ⟨W, hsk⟩ := ex_get (L := ws) (k := k) (by omega)
  obtain ⟨kv, hcc, hkx⟩ := hR k W hsk
  obtain ⟨ka, kc, rfl⟩ := SlR.form2 hkx
  have hcells := K.cells (by simp) hcc
  have hWS := hkx.stab (K.st hA)
  have KL0 := K.1
  have hnk : n = k := by rw [hn2, List.length_take]; omega
  have hWm := List.mem_of_getElem? hsk
  refine tr_skip ?_
  refine q_thn ?_
  refine tr_seq ?_
  refine tr_block <| rG <| rs_v (v_indexAddrN u_sl_sl_spec_Span siz_sl_spec_Span rfl rfl (by omega)) rfl ?_
  refine rs_v (v_load one_sl_spec_Span rfl (by exact hcells 0 _ rfl)) rfl ?_
  refine rA rfl rfl <| rN ?_
  refine tr_reg ?_
  refine rM rfl rfl <| rM rfl rfl <| rs_w (w_call (vs := [_]) ok_laws_toSpans rfl ⟨rfl, trivial⟩ (c_toSpans χ _ A (hA.mono K.1) _ W hWS (hl W hWm) (hm W hWm))) rfl ?_
  rintro w2 h2 ⟨hw, K2⟩
  obtain ⟨aw, cw, rfl⟩ := SlR.form2 hw
  have O := O.keep2 K2 (fun x hm => by have := hob x hm; simp; try omega)
  have K := K.new0 K2; have Z2 := K2.1; have KL := KL.new0 K2
  refine rs_w (w_new1 u_sl_sl_impl_Span siz_sl_impl_Span zero_sl_impl_Span rfl rfl rfl rfl rfl) rfl ?_
  rintro _ h3 ⟨rfl, B3, K3, Z3⟩
  have O := O.keep2 K3 (fun x hm => by have := hob x hm; simp; try omega)
  have S3 := K.1; have K := K.new0 K3; have KL := KL.new0 K3
  refine rs_w (w_app1 u_sl_sl_impl_Span info_sl_impl_Span rfl rfl rfl O rfl rfl B3 rfl (by omega) (by omega) (by omega)) rfl ?_
  rintro v4 h4 ⟨O4, K4, N4, F4⟩
  have K := K.newX K4 (fun x hm => .inr (by have := hob x hm; omega)); have Z4 := K4.1
  have B3 := K4.blk (fun hm => by first | (have := hob _ hm; omega) | exact absurd rfl (hnb _ hm)) B3
  refine rA rfl rfl ?_
  refine rs_nil ?_
  refine q_blk_n ?_
  refine q_thn ?_
  refine tr_reg ?_
  refine rs_v (v_add rfl rfl (by omega) (by omega)) rfl ?_
  refine rM rfl rfl ?_
  refine rs_nil ?_
  refine q_lp (ws.length - (k + 1)) [(3, _), (6, _), (7, _), (8, _)] (by omega) ⟨rfl, rfl, rfl, rfl, trivial⟩ ⟨k + 1, v4, n + 1, by omega, rfl, rfl, K, ?_, ?_⟩
  · rw [take_snoc' hsk]; rw [List.length_append, ← hn2]; rfl
  · rw [take_snoc' hsk]
    exact OutR.snoc cLevel_st hA (by omega) hob hrow hF KL0 KL O4 K4 F4 rfl (⟨_, rfl, (RSpans.stab hw (K3.st ((hA.mono (by omega)).up K2.1))).mono (Up.trans2 (by omega) K3.1)⟩)
end Go.Proofs.YtmckkklhonfmcaaGreat
namespace Go.Tess
open Go.RowKit
theorem w_new0 {P : Program} {χ : Chi} {ρ : Operand → Option Value} {h : Heap} {ty : TypeId} {pos : String} {after : Array Edge} {guard : Option (Nat × Bool)} {dst : Option Tmp} {t e : TypeId} {z : List Value} {base : Nat} (ht : P.underlying t = some (.slice e)) (hs : Siz P e 1) (hz : Zero P e z) (hzl : z.length = 1) (hb : base ≤ h.size) :
    OpW P χ ⟨dst, .buildSlice t 0 #[], ty, pos, after, guard⟩ ρ h (fun r h' => Own h' base e 1 r 0 [] ∧ Keep [] h h') := by
  refine OpW.mono (K := fun r h' => r = .slice (some ⟨h.size, 0, none⟩) 0 0 ∧ h' = h.push (.cells #[] e)) (w_of_run fun r d hr => ?_) fun v h' e1 => ?_
  · obtain ⟨zv, hzv, hzc⟩ := hz (mkw χ h d)
    refine ⟨_, _, d, ?_, rfl, rfl⟩
    simp [execOp, Instr.buildSlice, run_underlying ht, hs (mkw χ h d), hzv, hzc, newRow, Instr.fill]
    have hr0 : Array.range 0 = #[] := Array.ext' (by rw [Array.toList_range]; rfl)
    have hm0 : Array.map (fun (_ : Nat) => (default : Value)) (Array.range 0) = #[] := by rw [hr0]; simp
    rw [hm0]; exact ⟨rfl, rfl⟩
  · obtain ⟨e1, e2⟩ := e1
    subst e1; subst e2
    obtain ⟨B, K, _⟩ := newB_push h #[] e
    exact ⟨⟨by simp, .inr ⟨h.size, 0, #[], rfl, hb, B, Nat.le_refl _, by decide, by simp, by simp⟩⟩, K⟩
end Go.Tess
namespace Go.Proofs.YtmckkklhonfmcaaGreat
open Go.Tess Go.RowKit
set_option maxRecDepth 100000
set_option maxHeartbeats 2000000
theorem alk_join : ∀ {A B C : List SpanD}, Alk A C → Alk B C → Alk A B
  | _, _, _, .nil, .nil => .nil
  | _, _, _, .cons a1 a2 a3 a4 a5 a6 h, .cons b1 b2 b3 b4 b5 b6 k => .cons (a1.trans b1.symm) (a2.trans b2.symm) (a3.trans b3.symm) a4 a5 b5 (alk_join h k)
theorem frag_perm {W W' : List SpanD} (h : W.Perm W') : bndF W = bndF W' ∧ fragF W = fragF W' := by
  have hb : bndF W = bndF W' := bndF_congr fun x => by
    rw [bndF_mem, bndF_mem]
    exact ⟨fun ⟨s, hs, e⟩ => ⟨s, h.mem_iff.1 hs, e⟩, fun ⟨s, hs, e⟩ => ⟨s, h.mem_iff.2 hs, e⟩⟩
  exact ⟨hb, fragF_congr hb fun j _ => covK_perm h⟩
theorem turn_perm (ws : List (List SpanD)) (i : Nat) : (ws.drop i ++ ws.take i).Perm ws := by
  refine List.perm_append_comm.trans ?_
  rw [List.take_append_drop]
theorem lev_row {A : Nat → Prop} {h : Heap} {v : Value} {L : List (List SpanD)} (hL : RLevels A h v L) : ∃ a c news, v = .slice a L.length c ∧ news.length = L.length * 1 ∧ RowsR 1 (cLevel A h) news L ∧ (news = [] ∨ ∃ b o, a = some ⟨b, o, none⟩ ∧ CellsAt h b o news) ∧ ∀ u, u ∈ news → u.oneCell' = true := by
  obtain ⟨_, a, c, e, hx⟩ := SlR.form hL
  have one : ∀ (cs : List Value) (s : List SpanD), cLevel A h cs s → cs.all (fun u => u.oneCell') = true := fun cs s hc => by
    obtain ⟨kv, rfl, hk⟩ := hc
    obtain ⟨ka, kc, rfl⟩ := SlR.form2 hk
    rfl
  rcases hx with rfl | ⟨b, o, rfl, hAb, hR⟩
  · exact ⟨a, c, [], e, rfl, RowsR.nil _ _, .inl rfl, by simp⟩
  · obtain ⟨news, h1, h2⟩ := rows_of (h := h) (b := b) (o := o) (sz := 1) (R := cLevel A h) (fun i x hi => by
      obtain ⟨kv, hc, hk⟩ := hR i x hi
      exact ⟨_, rfl, hc, kv, rfl, hk⟩) (by omega)
    exact ⟨_, c, news, e, h2.len, h2, .inr ⟨b, o, rfl, h1⟩, fun u hu => List.all_eq_true.1 (h2.all1 one) u hu⟩
theorem one_first {W : List SpanD} (h : 0 < W.length) : decide (((listOf (walkP W .nowhere (fwdS 0))).length : Int) = 1) = true := by
  have e : walkP W .nowhere (fwdS 0) = [ansOf W (some (pFirst W))] := by simp [fwdS, walkP, stepP]
  have e2 : pFirst W = .pt 0 := by unfold pFirst; rw [if_neg (by omega)]
  have hc : cur W (.pt 0) = some W[0] := List.getElem?_eq_getElem h
  rw [e, e2, listOf_cons]
  simp only [ansOf, hc, Option.isSome_some, if_true]
  rfl
def TnP (lv sd sk ai : Value) : List (Nat × Nat × Value) := [(1, 53, lv), (2, 54, ai), (3, 55, sd), (5, 57, lv), (6, 58, ai), (7, 59, sk)]
structure TnI (h0 : Heap) (E0 : Env) (P : List (Nat × Nat × Value)) (n1 n2 : Nat) (nw1 nw2 : List Value) (L : Nat → Bool) (g : Nat → Option Value) (h : Heap) : Prop where
  e0 : ∀ t v, E0.lookup t = some v → g t = some v
  kb : Keep [] h0 h
  p : ∀ i d w, (i, d, w) ∈ P → L i = true → g d = some w
  a0 : L 0 = true → L 4 = false → ∃ v, g 52 = some v ∧ Own h h0.size 29 1 v 0 []
  a4 : L 4 = true → L 8 = false → ∃ v, g 56 = some v ∧ Own h h0.size 29 1 v n1 nw1
  a8 : L 8 = true → ∃ v, g 60 = some v ∧ Own h h0.size 29 1 v (n1 + n2) (nw1 ++ nw2)
  a9 : L 9 = true → g 11 = g 60
section
variable {h0 h h' : Heap} {E0 : Env} {P : List (Nat × Nat × Value)} {n1 n2 : Nat} {nw1 nw2 : List Value} {L : Nat → Bool} {g : Nat → Option Value}
theorem TnI.pure (I : TnI h0 E0 P n1 n2 nw1 nw2 L g h) {i d : Nat} {w : Value} (hi : i ≠ 0 ∧ i ≠ 4 ∧ i ≠ 8 ∧ i ≠ 9) (hd : d ≠ 52 ∧ d ≠ 56 ∧ d ≠ 60 ∧ d ≠ 11) (hE : E0.lookup d = none) (hu : ∀ j d' w', (j, d', w') ∈ P → (j = i ∧ d' = d ∧ w' = w) ∨ (j ≠ i ∧ d' ≠ d)) : TnI h0 E0 P n1 n2 nw1 nw2 (updL L i) (updG g (some d) w) h where
  e0 := e0_put I.e0 hE
  kb := I.kb
  p := fun j d' w' hm hl => by
    rcases hu j d' w' hm with ⟨rfl, rfl, rfl⟩ | ⟨h1, h2⟩
    · exact updG_eq
    · rw [updG_ne h2]; exact I.p j d' w' hm (by rw [← hl, updL_ne h1])
  a0 := fun h1 h2 => by
    rw [updL_ne (Ne.symm hi.1)] at h1; rw [updL_ne (Ne.symm hi.2.1)] at h2
    rw [updG_ne (Ne.symm hd.1)]; exact I.a0 h1 h2
  a4 := fun h1 h2 => by
    rw [updL_ne (Ne.symm hi.2.1)] at h1; rw [updL_ne (Ne.symm hi.2.2.1)] at h2
    rw [updG_ne (Ne.symm hd.2.1)]; exact I.a4 h1 h2
  a8 := fun h1 => by
    rw [updL_ne (Ne.symm hi.2.2.1)] at h1
    rw [updG_ne (Ne.symm hd.2.2.1)]; exact I.a8 h1
  a9 := fun h1 => by
    rw [updL_ne (Ne.symm hi.2.2.2)] at h1
    rw [updG_ne (Ne.symm hd.2.2.2), updG_ne (Ne.symm hd.2.2.1)]; exact I.a9 h1
def PFar (P : List (Nat × Nat × Value)) : Prop := ∀ j d w, (j, d, w) ∈ P → j ≠ 0 ∧ j ≠ 4 ∧ j ≠ 8 ∧ j ≠ 9 ∧ d ≠ 52 ∧ d ≠ 56 ∧ d ≠ 60 ∧ d ≠ 11
theorem TnI.s0 (I : TnI h0 E0 P n1 n2 nw1 nw2 L g h) (hP : PFar P) {v : Value} (hE : E0.lookup 52 = none) (O : Own h' h0.size 29 1 v 0 []) (K : Keep [] h h') : TnI h0 E0 P n1 n2 nw1 nw2 (updL L 0) (updG g (some 52) v) h' where
  e0 := e0_put I.e0 hE
  kb := I.kb.new0 K
  p := fun j d' w' hm hl => by
    have := hP j d' w' hm
    rw [updG_ne this.2.2.2.2.1]; exact I.p j d' w' hm (by rw [← hl, updL_ne this.1])
  a0 := fun _ _ => ⟨v, updG_eq, O⟩
  a4 := fun h1 h2 => by
    rw [updG_ne (by decide)]
    obtain ⟨u, e, o⟩ := I.a4 (by rw [← h1, updL_ne (by decide)]) (by rw [← h2, updL_ne (by decide)])
    exact ⟨u, e, o.keep2 K (by simp)⟩
  a8 := fun h1 => by
    rw [updG_ne (by decide)]
    obtain ⟨u, e, o⟩ := I.a8 (by rw [← h1, updL_ne (by decide)])
    exact ⟨u, e, o.keep2 K (by simp)⟩
  a9 := fun h1 => by
    rw [updG_ne (by decide), updG_ne (by decide)]; exact I.a9 (by rw [← h1, updL_ne (by decide)])
theorem TnI.s4 (I : TnI h0 E0 P n1 n2 nw1 nw2 L g h) (hP : PFar P) {v u : Value} (hE : E0.lookup 56 = none) (O0 : Own h h0.size 29 1 u 0 []) (O : Own h' h0.size 29 1 v n1 nw1) (K : Keep u.ownBlock.toList h h') (h8 : L 8 = false) (h9 : L 9 = false) : TnI h0 E0 P n1 n2 nw1 nw2 (updL L 4) (updG g (some 56) v) h' where
  e0 := e0_put I.e0 hE
  kb := I.kb.newX K (fun x hm => .inr (own_ne O0 x hm).1)
  p := fun j d' w' hm hl => by
    have := hP j d' w' hm
    rw [updG_ne this.2.2.2.2.2.1]; exact I.p j d' w' hm (by rw [← hl, updL_ne this.2.1])
  a0 := fun _ h2 => by rw [updL_eq] at h2; cases h2
  a4 := fun _ _ => ⟨v, updG_eq, O⟩
  a8 := fun h1 => by rw [updL_ne (by decide), h8] at h1; cases h1
  a9 := fun h1 => by rw [updL_ne (by decide), h9] at h1; cases h1
theorem TnI.s8 (I : TnI h0 E0 P n1 n2 nw1 nw2 L g h) (hP : PFar P) {v u : Value} (hE : E0.lookup 60 = none) (O0 : Own h h0.size 29 1 u n1 nw1) (O : Own h' h0.size 29 1 v (n1 + n2) (nw1 ++ nw2)) (K : Keep u.ownBlock.toList h h') (h4 : L 4 = true) (h9 : L 9 = false) : TnI h0 E0 P n1 n2 nw1 nw2 (updL L 8) (updG g (some 60) v) h' where
  e0 := e0_put I.e0 hE
  kb := I.kb.newX K (fun x hm => .inr (own_ne O0 x hm).1)
  p := fun j d' w' hm hl => by
    have := hP j d' w' hm
    rw [updG_ne this.2.2.2.2.2.2.1]; exact I.p j d' w' hm (by rw [← hl, updL_ne this.2.2.1])
  a0 := fun _ h2 => by rw [updL_ne (by decide), h4] at h2; cases h2
  a4 := fun _ h2 => by rw [updL_eq] at h2; cases h2
  a8 := fun _ => ⟨v, updG_eq, O⟩
  a9 := fun h1 => by rw [updL_ne (by decide), h9] at h1; cases h1
theorem TnI.s9 (I : TnI h0 E0 P n1 n2 nw1 nw2 L g h) (hP : PFar P) {v : Value} (hE : E0.lookup 11 = none) (hv : g 60 = some v) : TnI h0 E0 P n1 n2 nw1 nw2 (updL L 9) (updG g (some 11) v) h where
  e0 := e0_put I.e0 hE
  kb := I.kb
  p := fun j d' w' hm hl => by
    have := hP j d' w' hm
    rw [updG_ne this.2.2.2.2.2.2.2]; exact I.p j d' w' hm (by rw [← hl, updL_ne this.2.2.2.1])
  a0 := fun h1 h2 => by
    rw [updG_ne (by decide)]; exact I.a0 (by rw [← h1, updL_ne (by decide)]) (by rw [← h2, updL_ne (by decide)])
  a4 := fun h1 h2 => by
    rw [updG_ne (by decide)]; exact I.a4 (by rw [← h1, updL_ne (by decide)]) (by rw [← h2, updL_ne (by decide)])
  a8 := fun h1 => by
    rw [updG_ne (by decide)]; exact I.a8 (by rw [← h1, updL_ne (by decide)])
  a9 := fun _ => by rw [updG_eq, updG_ne (by decide), hv]
theorem tnp_far {lv sd sk ai : Value} : PFar (TnP lv sd sk ai) := fun j d w hm => by
  simp only [TnP, List.mem_cons, Prod.mk.injEq, List.not_mem_nil, or_false] at hm
  rcases hm with ⟨rfl, rfl, rfl⟩ | ⟨rfl, rfl, rfl⟩ | ⟨rfl, rfl, rfl⟩ | ⟨rfl, rfl, rfl⟩ | ⟨rfl, rfl, rfl⟩ | ⟨rfl, rfl, rfl⟩ <;> decide
end
end Go.Proofs.YtmckkklhonfmcaaGreat
