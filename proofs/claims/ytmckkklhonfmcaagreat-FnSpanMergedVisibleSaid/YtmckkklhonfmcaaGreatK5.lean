/- Texts W106 to W134, as far as the statement reaches them, laid together by a program of ours. Conditions: those that each theorem names. -/
import Derived.Test.YtmckkklhonfmcaaGreatK4
set_option linter.unusedVariables false
set_option linter.unusedSimpArgs false
set_option linter.unusedSectionVars false
namespace Go.Proofs.YtmckkklhonfmcaaGreat
open Go.Tess Go.RowKit
set_option maxRecDepth 100000
set_option maxHeartbeats 4000000
theorem c_MSeekGE {χ : Chi} {A : Nat → Prop} {bf mi sb : Nat} {vs : List Lev} {snap : Nat} {B : List ByteArray} {F : Nat → Prop} {rs : Nat → Nat} {rev : Bool} {dir : Int} {q : List Nat} {st en bv : Value} {h : Heap} {kv0 : Value} {key : ByteArray} (C : MC A bf mi sb vs B) (hbad : ∀ b, badB A bf mi sb vs b → F b) (hl : Low F h) (X : MXt A bf mi sb vs snap F rs rev dir q st en bv h) (hkey : RBytes (fun b => ¬ F b) h kv0 key) :
    Cl Tryz.prog χ 179 #[.pointer (some ⟨mi, 0, none⟩), kv0] h (MPost A bf mi sb vs snap B F h (fwdP (covF (wsO vs)) (sgM vs snap B) (pGE (sgM vs snap B) key))) := by
  obtain ⟨s0, s1, s2, s3, kv1, L, tl, lk1, lb1, H, O⟩ := X
  have hkey0 := RBytes.lowen hkey
  refine cl_intro Tryz.func179 rfl rfl rfl ?_
  have K : Keep [] h h := Keep.refl _ _
  refine rG <| rA rfl rfl <| rN <| rG <| rM rfl rfl <| rs_w (w_call (vs := [_]) ok_keyspan_MergingIter_invalidate rfl ⟨rfl, trivial⟩ (c_invalidate H)) rfl ?_
  rintro _ h1 ⟨rfl, H, K1⟩
  have KP : KeepP F h h1 := kp_mi C hbad K1
  have O := O.keep K1 C.kmi
  refine rN ?_
  refine tr_seq ?_
  refine rG <| rM rfl rfl <| rC rfl rfl <| rF fa_keyspan_MergingIter_0 rfl rfl <| rs_v (v_load one_p_keyspan_MergingBuffers rfl (by exact H.mb.b2.cell 0 rfl)) rfl ?_
  refine rC rfl rfl <| rF fa_keyspan_MergingBuffers_1 rfl rfl <| rs_v (v_load one_sl_keyspan_mergingIterLevel rfl (by exact H.b1.cell 1 rfl)) rfl ?_
  refine rs_v (v_len u_sl_keyspan_mergingIterLevel rfl) rfl ?_
  refine rM rfl rfl <| rN <| tr_block ?_
  refine tr_loop (fun m E h' => ∃ k L1, k ≤ vs.length ∧ m = vs.length - k ∧ E = [(0, .pointer (some ⟨mi, 0, none⟩)), (1, kv0), (4, .pointer none), (19, .int .i64 (vs.length : Int)), (20, .int .i64 (k : Int))] ∧ MG A bf mi vs (rK (fun W => tS W key) vs rs k) kv1 bv rev (hdC bf st en (.iface 188 (visF sb)) s0 s1 s2 s3 dir) L1 q tl h' ∧ MO A bf mi sb vs snap F kv1 bv lk1 lb1 h' ∧ KeepP F h h') vs.length [(0, _), (1, _), (4, _), (19, _), (20, _)] ⟨rfl, rfl, rfl, rfl, rfl, trivial⟩ ⟨0, L, Nat.zero_le _, rfl, rfl, H.congr (fun j _ => rfl), O, KP⟩ ?_
  rintro m E hL2 ⟨k, L1, hk, rfl, rfl, H, O, KP⟩
  refine rG <| rs_v (v_lt rfl rfl) rfl ?_
  refine rN ?_
  refine tr_seq ?_
  refine tr_ifn rfl (fun hif => ?_) (fun hif => ?_)
  · -- no
    simp only [dT, dF] at hif
    have H := H.congr (rs' := rT (fun W => tS W key) vs) (fun j hj => rK_all (by omega))
    have hrs1 : ∀ (i : Nat) W, (wsO vs)[i]? = some W → rT (fun W => tS W key) vs i = tS W key := fun i W hW => rT_at hW
    generalize rT (fun W => tS W key) vs = rs1 at H hrs1
    have hrb : ∀ (i : Nat) v, vs[i]? = some v → rs1 i ≤ 2 * v.W.length := fun i v hv => by rw [hrs1 i v.W (wsO_at hv)]; exact tS_le _ _
    refine tr_exit <| q_thn_exit ?_
    refine q_lp_exit ?_
    refine q_blk_hit ?_
    refine q_thn ?_
    refine rG <| rM rfl rfl <| rs_w (w_call (vs := [_]) ok_keyspan_MergingIter_initMaxHeap rfl ⟨rfl, trivial⟩ (c_initMaxHeap H)) rfl ?_
    rintro _ h3 ⟨rfl, q1, tl1, H, hp, hH, K3⟩
    have KP := KeepP.newX KP K3 (fun y hy => .inl (hbad y (C.kmb y hy).1))
    have O := (O.keep K3 C.kmb).ent (F1 := (fun b => F b ∨ h.size ≤ b)) (fun b hb => .inl hb)
    have hq1 := q_lt hp
    refine rN ?_
    refine tr_seq ?_
    refine rG <| rM rfl rfl <| rC rfl rfl <| rF fa_keyspan_MergingIter_5 rfl rfl <| rs_v (v_load one_error rfl (by exact H.mb.b2.cell 8 rfl)) rfl ?_
    refine rs_v (v_ine_nil isi_error rfl rfl) rfl ?_
    refine rN <| tr_if_f rfl ?_
    refine rG <| rM rfl rfl <| rC rfl rfl <| rF fa_keyspan_MergingIter_0 rfl rfl <| rs_v (v_load one_p_keyspan_MergingBuffers rfl (by exact H.mb.b2.cell 0 rfl)) rfl ?_
    refine rC rfl rfl <| rF fa_keyspan_MergingBuffers_2 rfl rfl <| rF fa_keyspan_mergingIterHeap_2 rfl rfl <| rs_v (v_load one_sl_keyspan_mergingIterItem rfl (by exact H.b1.cell 4 rfl)) rfl ?_
    refine rs_v (v_len u_sl_keyspan_mergingIterItem rfl) rfl ?_
    refine rs_v (v_eq rfl rfl) rfl ?_
    refine rN ?_
    refine tr_if rfl (fun hif => ?_) (fun hif => ?_)
    · -- yes
      have hq0 : q1 = [] := List.eq_nil_of_length_eq_zero (by have := of_decide_eq_true hif; omega)
      subst hq0
      have hts0 : ∀ (i : Nat) W, (wsO vs)[i]? = some W → tS W key = 0 := fun i W hW => by
        have h1 := q_none hp rfl i W hW
        rw [hrs1 i W hW] at h1
        have := tS_le W key; omega
      have hFN : FNk (wsO vs) B 0 (fun j => rs1 j + 1) := fn_cut C.hB (p := fun _ => false) (fun _ _ _ e => e) (cut_none B) (fun i W hW => by show rs1 i + 1 = _; rw [hrs1 i W hW, hts0 i W hW, cut_none_cnt C.hB (p := fun _ => false) (fun _ _ _ e => e) (List.mem_of_getElem? hW) (cut_none B)])
      refine rG <| rM rfl rfl <| rs_w (w_call (vs := [_]) ok_keyspan_MergingIter_switchToMinHeap rfl ⟨rfl, trivial⟩ (c_switchToMinHeap H hrb)) rfl ?_
      rintro _ h4 ⟨rfl, L3, q3, tl3, H, hp3, hH3, K4⟩
      have KP := KeepP.newX KP K4 (fun y hy => .inl (hbad y (C.kall y hy).1))
      have O := O.keep K4 C.kall
      refine rN <| rG <| rM rfl rfl <| rs_w (w_call (vs := [_]) ok_keyspan_MergingIter_findNextFragmentSet rfl ⟨rfl, trivial⟩ (c_findNextFragmentSet (F := FU F h _) C (fun b hb => .inl (hbad b hb)) (fu_low hl KP) (MXt.fu ⟨_, _, _, _, _, _, _, _, _, H, O⟩) hp3 hH3 (Nat.zero_le _) hFN)) rfl ?_
      rintro r h5 hP
      refine rA rfl rfl <| rN <| tr_ret <| q_thn_ret <| q_ret (res_tmp rfl rfl) ?_
      rw [pGE_none C.hB hts0]
      exact mpost_trans hl KP (fun b hb => hb) hP
    -- no
    obtain ⟨x, q2, rfl⟩ : ∃ x q2, q1 = x :: q2 := by
      cases q1 with
      | nil => exact absurd rfl (of_decide_eq_false hif)
      | cons a b => exact ⟨a, b, rfl⟩
    obtain ⟨v, hv, hok⟩ := root_ok hp
    have hvm := List.mem_of_getElem? hv
    obtain ⟨a5, n5, c5, ek5⟩ := at_nn (H.sv v hvm).1 hok
    have hlen : (bkW v.W (rs1 x)).data.toList.length ≤ 100000000000 := C.bl _ (C.hB.mem v.W (rs1 x) (List.mem_of_getElem? (wsO_at hv)) hok.1 hok.2)
    have hit := (H.hs hq1).item (i := 0) (x := x) rfl
    have hlv := H.mb.lev (H.lv x v hv).1
    have hkey : cellH h3 mi (10 + x * 4 + 1 + 1) = some (.slice (some a5) n5 c5) := by rw [← ek5]; exact hlv 2 _ rfl
    have hkb : RBytes A h3 (.slice (some a5) n5 c5) (bkW v.W (rs1 x)) := by rw [← ek5]; exact bk_key (H.sv v (List.mem_of_getElem? hv)).1 _
    refine tr_skip ?_
    refine q_thn ?_
    refine rG <| rM rfl rfl <| rM rfl rfl <| rC rfl rfl <| rF fa_keyspan_MergingIter_0 rfl rfl <| rs_v (v_load one_p_keyspan_MergingBuffers rfl (by exact H.mb.b2.cell 0 rfl)) rfl ?_
    refine rC rfl rfl <| rF fa_keyspan_MergingBuffers_2 rfl rfl <| rF fa_keyspan_mergingIterHeap_2 rfl rfl <| rs_v (v_load one_sl_keyspan_mergingIterItem rfl (by exact H.b1.cell 4 rfl)) rfl ?_
    refine rs_v (v_indexAddrE (i := 0) u_sl_keyspan_mergingIterItem siz_keyspan_mergingIterItem rfl rfl rfl (Nat.succ_pos _)) rfl ?_
    refine rF fa_keyspan_mergingIterItem_0 rfl rfl <| rs_v (v_load one_p_keyspan_boundKey rfl (by exact hit 0 _ rfl)) rfl ?_
    refine rC rfl rfl <| rF fa_keyspan_boundKey_1 rfl rfl <| rs_v (v_load one_sl_uint8 rfl (by exact hkey)) rfl ?_
    refine rC rfl rfl <| rF fa_keyspan_MergingIter_1 rfl rfl <| rs_w0 (w_store siz_sl_uint8 rfl rfl rfl rfl H.mb.b2 (by rw [H.mb.len]; omega)) ?_
    rintro _ h6 ⟨B9, K6⟩
    have KP := KeepP.newX KP K6 (fun y hy => .inl (hbad y (C.kmi y hy).1))
    have H := H.hdr (hd' := hdC bf (.slice (some a5) n5 c5) en (.iface 188 (visF sb)) s0 s1 s2 s3 (-1)) (by rw [mi_putH (show (2 : Nat) ≤ 10 by omega)] at B9; exact B9) rfl K6
    have O := O.keep K6 C.kmi
    have hit := (H.hs hq1).item (i := 0) (x := x) rfl
    have hlv := H.mb.lev (H.lv x v hv).1
    have hkey : cellH h6 mi (10 + x * 4 + 1 + 1) = some (.slice (some a5) n5 c5) := by rw [← ek5]; exact hlv 2 _ rfl
    have hkb : RBytes A h6 (.slice (some a5) n5 c5) (bkW v.W (rs1 x)) := by rw [← ek5]; exact bk_key (H.sv v (List.mem_of_getElem? hv)).1 _
    refine rN ?_
    refine tr_cut (fun E h' => ∃ st2 bv2, E = [(0, .pointer (some ⟨mi, 0, none⟩)), (1, kv0), (4, .pointer none)] ∧ MXt A bf mi sb vs snap (fun b => F b ∨ h.size ≤ b) rs1 true (-1) (x :: q2) st2 en bv2 h' ∧ RBytes (fun b => A b ∨ b ∈ bv2.ownBlock.toList) h' st2 (bkW v.W (rs1 x)) ∧ NN st2 ∧ KeepP F h h') ?_ ?_
    ·
      refine rG <| rM rfl rfl <| rC rfl rfl <| rF fa_keyspan_MergingIter_0 rfl rfl <| rs_v (v_load one_p_keyspan_MergingBuffers rfl (by exact H.mb.b2.cell 0 rfl)) rfl ?_
      refine rC rfl rfl <| rF fa_keyspan_MergingBuffers_2 rfl rfl <| rF fa_keyspan_mergingIterHeap_2 rfl rfl <| rs_v (v_load one_sl_keyspan_mergingIterItem rfl (by exact H.b1.cell 4 rfl)) rfl ?_
      refine rs_v (v_indexAddrE (i := 0) u_sl_keyspan_mergingIterItem siz_keyspan_mergingIterItem rfl rfl rfl (Nat.succ_pos _)) rfl ?_
      refine rF fa_keyspan_mergingIterItem_0 rfl rfl <| rs_v (v_load one_p_keyspan_boundKey rfl (by exact hit 0 _ rfl)) rfl ?_
      refine rC rfl rfl <| rF fa_keyspan_boundKey_0 rfl rfl <| rs_v (v_load one_keyspan_boundKind rfl (by exact hlv 1 _ rfl)) rfl ?_
      refine rs_v (v_eq rfl rfl) rfl ?_
      refine rN ?_
      refine tr_if rfl (fun hif => ?_) (fun hif => ?_)
      · -- yes
        have hkd : (v.at (rs1 x)).kind = 2 := of_decide_eq_true hif
        obtain ⟨ab, cb, rfl⟩ := O.b.slice
        have O0 := O
        refine tr_seq ?_
        have hmiX : mi ∉ (.slice ab lb1.length cb : Value).ownBlock.toList := fun hx => O.b.2 _ hx (.inr (.inr (.inl rfl)))
        have hbfX : bf ∉ (.slice ab lb1.length cb : Value).ownBlock.toList := fun hx => O.b.2 _ hx (.inr (.inl rfl))
        refine tr_draw [(true, 17), (false, 3)] _ (by kernel_rfl) (by kernel_rfl) (by kernel_rfl) ?_
        refine rx_big (Keep []) (Keep (.slice ab lb1.length cb : Value).ownBlock.toList) (keep_pre _) (keep_pre _) (fun _ _ k => k.any) ?_
        refine rb_v (keep_pre _) (fun h' hk => v_move rfl) ?_
        refine rb_v (keep_pre _) (fun h' hk => v_nilCheck_ptr rfl) ?_
        refine rb_v (keep_pre _) (fun h' hk => v_fieldAddr fa_keyspan_MergingIter_0 rfl) ?_
        refine rb_v (keep_pre _) (fun h' hk => v_load one_p_keyspan_MergingBuffers rfl (Blk.cell (hk.blk hmiX H.mb.b2) 0 rfl)) ?_
        refine rb_v (keep_pre _) (fun h' hk => v_move rfl) ?_
        refine rb_v (keep_pre _) (fun h' hk => v_nilCheck_ptr rfl) ?_
        refine rb_v (keep_pre _) (fun h' hk => v_fieldAddr fa_keyspan_MergingIter_0 rfl) ?_
        refine rb_v (keep_pre _) (fun h' hk => v_load one_p_keyspan_MergingBuffers rfl (Blk.cell (hk.blk hmiX H.mb.b2) 0 rfl)) ?_
        refine rb_v (keep_pre _) (fun h' hk => v_nilCheck_ptr rfl) ?_
        refine rb_v (keep_pre _) (fun h' hk => v_fieldAddr fa_keyspan_MergingBuffers_3 rfl) ?_
        refine rb_v (keep_pre _) (fun h' hk => v_load one_sl_uint8 rfl (Blk.cell (hk.blk hbfX H.b1) 5 rfl)) ?_
        refine rb_v (keep_pre _) (fun h' hk => v_slice_h u_sl_uint8 siz_uint8 (i := 0) rfl rfl rfl (Nat.zero_le _)) ?_
        refine rb_v (keep_pre _) (fun h' hk => v_move rfl) ?_
        refine rb_v (keep_pre _) (fun h' hk => v_nilCheck_ptr rfl) ?_
        refine rb_v (keep_pre _) (fun h' hk => v_fieldAddr fa_keyspan_MergingIter_1 rfl) ?_
        refine rb_v (keep_pre _) (fun h' hk => v_load one_sl_uint8 rfl (Blk.cell (hk.blk hmiX H.mb.b2) 1 rfl)) ?_
        refine rb_big (fun v' h' => BW (badB A bf mi sb vs) v' (bkW v.W (rs1 x)).data.toList h' ∧ (v'.ownBlock = (.slice ab lb1.length cb : Value).ownBlock ∨ ∃ z, v'.ownBlock = some z ∧ h6.size ≤ z)) (fun v _ _ k1 k2 hr => ⟨hr.1.keep k2 (by simp), hr.2⟩)
          (fun h' hk => OpW.mono (w_appBW rfl rfl (O.b.cut.keep hk (by simp)) (hkb.stab (hk.st H.low)) hlen (fun y hy => Nat.lt_of_lt_of_le (H.bad_lt O.s.lt y hy) hk.1)) (fun v h'' hv => ⟨by rw [own_block0 (m2 := lb1.length) (c2 := cb)] at hv; exact hv.2.1, hv.1, by
            rw [own_block0 (m2 := lb1.length) (c2 := cb)] at hv
            exact hv.2.2.imp id (fun e => ⟨_, e, hk.1⟩)⟩)) ?_
        refine rb_end ?_; intro ha Ka; simp only [endM, hypF, ofE, argE, List.nil_append]
        rintro v57 ⟨H3, he⟩
        obtain ⟨ab2, cb2, rfl⟩ := H3.slice
        have H := H.keep Ka (fun y hy => ⟨fun e => O.b.2 y hy (.inl e), fun e => O.b.2 y hy (.inr (.inl e)), fun e => O.b.2 y hy (.inr (.inr (.inl e))), fun v hv e => O.b.2 y hy (.inr (.inr (.inr (.inr ⟨v, hv, e⟩))))⟩)
        have O := O.app C Ka H3 (fun y hy => by
          rcases he with e | ⟨z, e, hz⟩
          · rw [e] at hy; exact .inl hy
          · rw [e] at hy; simp at hy; exact .inr (by omega)) (fun y hy => .inr (by have := KP.1; omega))
        have KP := KeepP.newX KP Ka (fun y hy => O0.ob y hy)
        refine rx_seq ?_
        refine rC rfl rfl <| rF fa_keyspan_MergingBuffers_3 rfl rfl <| rs_w0 (w_put siz_sl_uint8 rfl rfl rfl rfl H.b1 rfl) ?_
        rintro _ h7 ⟨B, K9⟩
        have KP := KeepP.newX KP K9 (fun y hy => .inl (hbad y (C.kbf y hy).1))
        have H := H.both (q' := x :: q2) (tl' := tl1) (kv' := kv1) (rev' := true) B (K9.blk (by simpa using fun e => H.ne e.symm) H.mb.b2) H.mb.hdl H.mb.ql (K9.sub (by simp))
        have O := O.keep K9 C.kbf
        refine rs_nil ?_
        refine q_con ?_
        refine rx_nil ?_
        refine q_thn ?_
        refine tr_reg ?_
        refine rM rfl rfl <| rM rfl rfl <| rC rfl rfl <| rF fa_keyspan_MergingIter_0 rfl rfl <| rs_v (v_load one_p_keyspan_MergingBuffers rfl (by exact H.mb.b2.cell 0 rfl)) rfl ?_
        refine rC rfl rfl <| rF fa_keyspan_MergingBuffers_3 rfl rfl <| rs_v (v_load one_sl_uint8 rfl (by exact H.b1.cell 5 rfl)) rfl ?_
        refine rC rfl rfl <| rF fa_keyspan_MergingIter_1 rfl rfl <| rs_w0 (w_store siz_sl_uint8 rfl rfl rfl rfl H.mb.b2 (by rw [H.mb.len]; omega)) ?_
        rintro _ h8 ⟨B9, K8⟩
        have KP := KeepP.newX KP K8 (fun y hy => .inl (hbad y (C.kmi y hy).1))
        have H := H.hdr (hd' := hdC bf (.slice ab2 (bkW v.W (rs1 x)).data.toList.length cb2) en (.iface 188 (visF sb)) s0 s1 s2 s3 (-1)) (by rw [mi_putH (show (2 : Nat) ≤ 10 by omega)] at B9; exact B9) rfl K8
        have O := O.keep K8 C.kmi
        have hst9 : RBytes (fun b => A b ∨ b ∈ (.slice ab2 (bkW v.W (rs1 x)).data.toList.length cb2 : Value).ownBlock.toList) h8 (.slice ab2 (bkW v.W (rs1 x)).data.toList.length cb2) (bkW v.W (rs1 x)) := O.b.bytes (by omega) (fun y hy => .inr hy)
        refine rs_nil ?_
        exact q_cut [(0, _), (1, _), (4, _)] ⟨rfl, rfl, rfl, trivial⟩ ⟨_, _, rfl, ⟨_, _, _, _, _, _, _, _, _, H, O⟩, hst9, (end_pos (C.ord v hvm) hok hkd hst9), KP⟩
      -- no
      skip
      refine tr_skip ?_
      exact q_cut [(0, _), (1, _), (4, _)] ⟨rfl, rfl, rfl, trivial⟩ ⟨_, _, rfl, ⟨_, _, _, _, _, _, _, _, _, H, O⟩, hkb.mono (fun b hb => .inl hb), ⟨_, _, _, rfl⟩, KP⟩
    rintro E h98 ⟨st2, bv2, rfl, X, hst, hstn, KP⟩
    obtain ⟨s0, s1, s2, s3, kv2, L2, tl2, lk2, lb2, H, O⟩ := X
    obtain ⟨a7, n7, c7, rfl⟩ := hstn
    refine rG <| rM rfl rfl <| rs_w (w_call (vs := [_]) ok_keyspan_MergingIter_switchToMinHeap rfl ⟨rfl, trivial⟩ (c_switchToMinHeap H hrb)) rfl ?_
    rintro _ h10 ⟨rfl, L3, q4, tl3, H', hp4, hH4, K10⟩
    have hst := st_keep H O hst K10 C.kall H.nAall
    have H := H'
    have KP := KeepP.newX KP K10 (fun y hy => .inl (hbad y (C.kall y hy).1))
    have O := O.keep K10 C.kall
    have hq4 := q_lt hp4
    generalize hrs4e : (fun j => rs1 j + 1) = rs4 at H hp4 hH4
    have hrs4 : ∀ (i : Nat) W, (wsO vs)[i]? = some W → rs4 i = tS W key + 1 := fun i W hW => by
      have h1 := hrs1 i W hW
      rw [← hrs4e]
      show rs1 i + 1 = _
      omega
    have hkyb := hkey0.stab (fun b hb => KP.2 b hb.2 hb.1)
    refine rN ?_
    refine tr_seq ?_
    refine rG <| rM rfl rfl <| rC rfl rfl <| rF fa_keyspan_MergingIter_5 rfl rfl <| rs_v (v_load one_error rfl (by exact H.mb.b2.cell 8 rfl)) rfl ?_
    refine rs_v (v_ine_nil isi_error rfl rfl) rfl ?_
    refine rN <| tr_if_f rfl ?_
    refine rG <| rM rfl rfl <| rC rfl rfl <| rF fa_keyspan_MergingIter_0 rfl rfl <| rs_v (v_load one_p_keyspan_MergingBuffers rfl (by exact H.mb.b2.cell 0 rfl)) rfl ?_
    refine rC rfl rfl <| rF fa_keyspan_MergingBuffers_2 rfl rfl <| rF fa_keyspan_mergingIterHeap_2 rfl rfl <| rs_v (v_load one_sl_keyspan_mergingIterItem rfl (by exact H.b1.cell 4 rfl)) rfl ?_
    refine rs_v (v_len u_sl_keyspan_mergingIterItem rfl) rfl ?_
    refine rs_v (v_eq rfl rfl) rfl ?_
    refine rN ?_
    refine tr_if rfl (fun hif => ?_) (fun hif => ?_)
    · -- yes
      have hq0 : q4 = [] := List.eq_nil_of_length_eq_zero (by have := of_decide_eq_true hif; omega)
      subst hq0
      have hts0 : ∀ (i : Nat) W, (wsO vs)[i]? = some W → tS W key = 2 * W.length := fun i W hW => by
        have h1 := q_none hp4 rfl i W hW
        rw [hrs4 i W hW] at h1
        have := tS_le W key; omega
      refine rG <| rA rfl rfl <| rN <| tr_ret <| q_thn_ret <| q_ret (res_tmp rfl rfl) ?_
      rw [pGE_all C.hB hts0]
      exact mpost_behind hbad hl KP ⟨_, _, _, _, _, _, _, _, _, H, O⟩ hp4 hH4 (fun i W hW => by rw [hrs4 i W hW, hts0 i W hW]) rfl
    -- no
    obtain ⟨y, q5, rfl⟩ : ∃ y q5, q4 = y :: q5 := by
      cases q4 with
      | nil => exact absurd rfl (of_decide_eq_false hif)
      | cons a b => exact ⟨a, b, rfl⟩
    obtain ⟨w, hw, how⟩ := root_ok hp4
    obtain ⟨a6, n6, c6, ek6⟩ := at_nn (H.sv w (List.mem_of_getElem? hw)).1 how
    have hit6 := (H.hs hq4).item (i := 0) (x := y) rfl
    have hlv6 := H.mb.lev (H.lv y w hw).1
    have hkey6 : cellH h10 mi (10 + y * 4 + 1 + 1) = some (.slice (some a6) n6 c6) := by rw [← ek6]; exact hlv6 2 _ rfl
    have hkb6 : RBytes A h10 (.slice (some a6) n6 c6) (bkW w.W (rs4 y)) := by rw [← ek6]; exact bk_key (H.sv w (List.mem_of_getElem? hw)).1 _
    refine tr_skip ?_
    refine q_thn ?_
    refine tr_seq ?_
    refine tr_cut (fun E h' => h10 = h' ∧ ∃ b : Bool, E = [(0, .pointer (some ⟨mi, 0, none⟩)), (1, kv0), (4, .pointer none), (204, .bool b)] ∧ (b = true → ((w.at (rs4 y)).kind = 1 ∧ bkW w.W (rs4 y) = key)) ∧ (b = false → ¬ ((w.at (rs4 y)).kind = 1 ∧ bkW w.W (rs4 y) = key))) ?_ ?_
    ·
      rcases Bool.eq_false_or_eq_true (decide ((w.at (rs4 y)).kind = 1)) with g1 | g1
      · skip
        refine tr_reg ?_
        refine rM rfl rfl <| rC rfl rfl <| rF fa_keyspan_MergingIter_0 rfl rfl <| rs_v (v_load one_p_keyspan_MergingBuffers rfl (by exact H.mb.b2.cell 0 rfl)) rfl ?_
        refine rC rfl rfl <| rF fa_keyspan_MergingBuffers_2 rfl rfl <| rF fa_keyspan_mergingIterHeap_2 rfl rfl <| rs_v (v_load one_sl_keyspan_mergingIterItem rfl (by exact H.b1.cell 4 rfl)) rfl ?_
        refine rs_v (v_indexAddrE (i := 0) u_sl_keyspan_mergingIterItem siz_keyspan_mergingIterItem rfl rfl rfl (Nat.succ_pos _)) rfl ?_
        refine rF fa_keyspan_mergingIterItem_0 rfl rfl <| rs_v (v_load one_p_keyspan_boundKey rfl (by exact hit6 0 _ rfl)) rfl ?_
        refine rC rfl rfl <| rF fa_keyspan_boundKey_0 rfl rfl <| rs_v (v_load one_keyspan_boundKind rfl (by exact hlv6 1 _ rfl)) rfl ?_
        refine rs_v (v_eq rfl rfl) rfl ?_
        refine rM rfl rfl <| rs_gv rfl (lkb g1) (v_move rfl) rfl <| rs_gv rfl (lkb g1) (v_move rfl) rfl <| rs_gv rfl (lkb g1) (v_nilCheck_ptr rfl) rfl ?_
        refine rs_gv rfl (lkb g1) (v_fieldAddr fa_keyspan_MergingIter_0 rfl) rfl ?_
        refine rs_gv rfl (lkb g1) (v_load one_p_keyspan_MergingBuffers rfl (by exact H.mb.b2.cell 0 rfl)) rfl ?_
        refine rs_gv rfl (lkb g1) (v_nilCheck_ptr rfl) rfl ?_
        refine rs_gv rfl (lkb g1) (v_fieldAddr fa_keyspan_MergingBuffers_2 rfl) rfl ?_
        refine rs_gv rfl (lkb g1) (v_fieldAddr fa_keyspan_mergingIterHeap_2 rfl) rfl ?_
        refine rs_gv rfl (lkb g1) (v_load one_sl_keyspan_mergingIterItem rfl (by exact H.b1.cell 4 rfl)) rfl ?_
        refine rs_gv rfl (lkb g1) (v_indexAddrE (i := 0) u_sl_keyspan_mergingIterItem siz_keyspan_mergingIterItem rfl rfl rfl (Nat.succ_pos _)) rfl ?_
        refine rs_gv rfl (lkb g1) (v_fieldAddr fa_keyspan_mergingIterItem_0 rfl) rfl ?_
        refine rs_gv rfl (lkb g1) (v_load one_p_keyspan_boundKey rfl (by exact hit6 0 _ rfl)) rfl ?_
        refine rs_gv rfl (lkb g1) (v_nilCheck_ptr rfl) rfl ?_
        refine rs_gv rfl (lkb g1) (v_fieldAddr fa_keyspan_boundKey_1 rfl) rfl ?_
        refine rs_gv rfl (lkb g1) (v_load one_sl_uint8 rfl (by exact hkey6)) rfl ?_
        refine rs_gv rfl (lkb g1) (v_move rfl) rfl ?_
        refine rs_gw rfl (lkb g1) (w_call (vs := [_, _, _]) ok_keyspan_MergingIter_cmp rfl ⟨rfl, rfl, rfl, trivial⟩ (c_mcmp H (RBytes.by hkb6) (RBytes.by hkyb))) rfl ?_
        rintro _ h11 ⟨rfl, hsame⟩; have hsame := hsame.symm; subst hsame
        refine rs_gv rfl (lkb g1) (v_eq rfl rfl) rfl ?_
        refine rs_v (v_pick_t (lkb g1) rfl) rfl ?_
        refine rs_nil ?_
        exact q_cut [(0, _), (1, _), (4, _), (204, _)] ⟨rfl, rfl, rfl, rfl, trivial⟩ ⟨rfl, _, rfl, fun e => ⟨of_decide_eq_true g1, cmpB_eq (of_decide_eq_true e)⟩, fun e e2 => of_decide_eq_false e (by rw [e2.2]; exact cmpB_refl _)⟩
      · skip
        refine tr_reg ?_
        refine rM rfl rfl <| rC rfl rfl <| rF fa_keyspan_MergingIter_0 rfl rfl <| rs_v (v_load one_p_keyspan_MergingBuffers rfl (by exact H.mb.b2.cell 0 rfl)) rfl ?_
        refine rC rfl rfl <| rF fa_keyspan_MergingBuffers_2 rfl rfl <| rF fa_keyspan_mergingIterHeap_2 rfl rfl <| rs_v (v_load one_sl_keyspan_mergingIterItem rfl (by exact H.b1.cell 4 rfl)) rfl ?_
        refine rs_v (v_indexAddrE (i := 0) u_sl_keyspan_mergingIterItem siz_keyspan_mergingIterItem rfl rfl rfl (Nat.succ_pos _)) rfl ?_
        refine rF fa_keyspan_mergingIterItem_0 rfl rfl <| rs_v (v_load one_p_keyspan_boundKey rfl (by exact hit6 0 _ rfl)) rfl ?_
        refine rC rfl rfl <| rF fa_keyspan_boundKey_0 rfl rfl <| rs_v (v_load one_keyspan_boundKind rfl (by exact hlv6 1 _ rfl)) rfl ?_
        refine rs_v (v_eq rfl rfl) rfl ?_
        refine rM rfl rfl <| rs_gs rfl (lkb g1) rfl rfl <| rs_gs rfl (lkb g1) rfl rfl <| rs_gs rfl (lkb g1) rfl rfl <| rs_gs rfl (lkb g1) rfl rfl <| rs_gs rfl (lkb g1) rfl rfl <| rs_gs rfl (lkb g1) rfl rfl <| rs_gs rfl (lkb g1) rfl rfl <| rs_gs rfl (lkb g1) rfl rfl <| rs_gs rfl (lkb g1) rfl rfl <| rs_gs rfl (lkb g1) rfl rfl <| rs_gs rfl (lkb g1) rfl rfl <| rs_gs rfl (lkb g1) rfl rfl <| rs_gs rfl (lkb g1) rfl rfl <| rs_gs rfl (lkb g1) rfl rfl <| rs_gs rfl (lkb g1) rfl rfl <| rs_gs rfl (lkb g1) rfl rfl <| rs_gs rfl (lkb g1) rfl rfl <| rs_gs rfl (lkb g1) rfl rfl <| rs_v (v_pick_f (lkb g1) rfl) rfl ?_
        refine rs_nil ?_
        exact q_cut [(0, _), (1, _), (4, _), (204, _)] ⟨rfl, rfl, rfl, rfl, trivial⟩ ⟨rfl, _, rfl, fun e => (by cases e), fun _ e2 => of_decide_eq_false g1 e2.1⟩
    rintro E h94 ⟨hh, b, rfl, hb1, hb0⟩
    subst hh
    refine tr_if rfl (fun hif => ?_) (fun hif => ?_)
    · -- yes
      have hyes := hb1 hif
      obtain ⟨k, hkl, hFN, hpe⟩ := seek_yesE (kf := kfM vs snap) C.hB hw how hrs4 hyes.2
      refine rG <| rM rfl rfl <| rs_w (w_call (vs := [_]) ok_keyspan_MergingIter_findNextFragmentSet rfl ⟨rfl, trivial⟩ (c_findNextFragmentSet (F := FU F h _) C (fun b hb => .inl (hbad b hb)) (fu_low hl KP) (MXt.fu ⟨_, _, _, _, _, _, _, _, _, H, O⟩) hp4 hH4 hkl hFN)) rfl ?_
      rintro r h13 hP
      refine rA rfl rfl <| rN <| tr_ret <| q_thn_ret <| q_ret (res_tmp rfl rfl) ?_
      rw [hpe]
      exact mpost_trans hl KP (fun b hb => hb) hP
    -- no
    have hall := seek_noE C.ord hp4 hH4 hw hrs4 (hb0 hif)
    obtain ⟨k, hc⟩ := cut_at C.hB (down_le key)
    have hFN : FNk (wsO vs) B k rs4 := fn_cut C.hB (down_le key) hc (fun i W hW => by rw [hrs4 i W hW, hall i W hW]; rfl)
    have hFP : FPk (wsO vs) B k rs1 := fp_cut C.hB (down_le key) hc (fun i W hW => by rw [hrs1 i W hW, hall i W hW]; rfl)
    obtain ⟨hkB2, hκ2⟩ := fn_root' C.hB hFN hp4 hH4 hw
    obtain ⟨hk0, hκ1⟩ := fp_root' C.hB hFP hp hH hv
    obtain ⟨j, rfl⟩ : ∃ j, k = j + 1 := ⟨k - 1, by omega⟩
    rw [Nat.add_sub_cancel] at hκ1
    rw [hκ1] at hst
    have hdone : ∀ (i : Nat) W, (wsO vs)[i]? = some W → rs4 i = cE W (atB B j) + 1 := fun i W hW => by
      rw [hrs4 i W hW, hall i W hW]
      exact congrArg (· + 1) (cut_cE C.hB (down_le key) (List.mem_of_getElem? hW) hc)
    refine tr_skip ?_
    refine q_thn ?_
    refine rG <| rM rfl rfl <| rM rfl rfl <| rC rfl rfl <| rF fa_keyspan_MergingIter_0 rfl rfl <| rs_v (v_load one_p_keyspan_MergingBuffers rfl (by exact H.mb.b2.cell 0 rfl)) rfl ?_
    refine rC rfl rfl <| rF fa_keyspan_MergingBuffers_2 rfl rfl <| rF fa_keyspan_mergingIterHeap_2 rfl rfl <| rs_v (v_load one_sl_keyspan_mergingIterItem rfl (by exact H.b1.cell 4 rfl)) rfl ?_
    refine rs_v (v_indexAddrE (i := 0) u_sl_keyspan_mergingIterItem siz_keyspan_mergingIterItem rfl rfl rfl (Nat.succ_pos _)) rfl ?_
    refine rF fa_keyspan_mergingIterItem_0 rfl rfl <| rs_v (v_load one_p_keyspan_boundKey rfl (by exact hit6 0 _ rfl)) rfl ?_
    refine rC rfl rfl <| rF fa_keyspan_boundKey_1 rfl rfl <| rs_v (v_load one_sl_uint8 rfl (by exact hkey6)) rfl ?_
    refine rC rfl rfl <| rF fa_keyspan_MergingIter_2 rfl rfl <| rs_w0 (w_store siz_sl_uint8 rfl rfl rfl rfl H.mb.b2 (by rw [H.mb.len]; omega)) ?_
    rintro _ h14 ⟨B9, K14⟩
    have KP := KeepP.newX KP K14 (fun y hy => .inl (hbad y (C.kmi y hy).1))
    have hst := st_keep H O hst K14 C.kmi H.nAm
    have H := H.hdr (hd' := hdC bf (.slice (some a7) n7 c7) (.slice (some a6) n6 c6) (.iface 188 (visF sb)) s0 s1 s2 s3 1) (by rw [mi_putH (show (3 : Nat) ≤ 10 by omega)] at B9; exact B9) rfl K14
    have O := O.keep K14 C.kmi
    have hit6 := (H.hs hq4).item (i := 0) (x := y) rfl
    have hlv6 := H.mb.lev (H.lv y w hw).1
    have hkey6 : cellH h14 mi (10 + y * 4 + 1 + 1) = some (.slice (some a6) n6 c6) := by rw [← ek6]; exact hlv6 2 _ rfl
    have hkb6 : RBytes A h14 (.slice (some a6) n6 c6) (bkW w.W (rs4 y)) := by rw [← ek6]; exact bk_key (H.sv w (List.mem_of_getElem? hw)).1 _
    obtain ⟨ak, ck, rfl⟩ := O.k.slice
    refine rN ?_
    refine tr_seq ?_
    refine rG <| rM rfl rfl <| rs_w (w_call (vs := [_, _]) ok_keyspan_MergingIter_synthesizeKeys rfl ⟨rfl, rfl, trivial⟩ (c_synthP H O.k O.s C.nb C.nm C.kl2 (C.kr2))) rfl ?_
    rintro _ h15 ⟨rfl, ka, kc, nd, l8, H8, HK8, hl8, htk, hnd8, hown, BS8, K15⟩
    have O0 := O
    have hX8 : ∀ y, y ∈ mi :: bf :: (.slice ak lk2.length ck : Value).ownBlock.toList → ¬ A y ∧ y ∉ bv2.ownBlock.toList := fun y hy => syn_out H O y hy
    have hst := st_keep0 H O hst K15 hX8
    have hkb8 := hkb6.stab (K15.stab fun y hy => ⟨H.low y hy, fun hm => (hX8 y hm).1 hy⟩)
    have hcat := cat_P hdone
    rw [hcat.1] at htk hnd8
    have hrb : ∀ y, y ∈ (sortKT (catX vs (atB B j))).filter (fun y => visK snap y.k) → RBytes A h15 (.slice y.a1 y.n1 y.c1) y.k.suf ∧ RBytes A h15 (.slice y.a2 y.n2 y.c2) y.k.val := fun y hy => catK_rb (D := 2) H8 (by decide) (by rw [hcat.1]; exact (sortKT_perm _).mem_iff.1 (List.mem_filter.1 hy).1)
    have O := O.syn C (fun y hy => .inr (by have := KP.1; omega)) HK8 hl8 hown BS8 K15
    have KP := KeepP.newX KP K15 (syn_kp hbad O0)
    have H := H8
    have hspan : PSpan (FU F h h15) h15 mi 4 ⟨atB B j, atB B (j + 1), kfM vs snap (atB B j)⟩ := by
      have hF9 : ∀ b, A b → FU F h h15 b := fun b hb => .inl (hbad b (.inl hb))
      have hst9 : ∀ b, A b ∨ b ∈ bv2.ownBlock.toList → FU F h h15 b := fun b hb => hb.elim (hF9 b) (fun e => (O.ob b e).imp id (fun e2 => ⟨e2, own_lt O.b.1 b e⟩))
      refine ⟨_, _, _, 0, H.mb.b2.sub 4 4 rfl, hst.mono hst9, ?_, ?_⟩
      · have := hkb8.mono hF9; rw [hκ2] at this; exact this
      · exact pkeys_of HK8 htk hnd8 hl8 hF9 (fun y hy => (O.ok y hy).imp id (fun e2 => ⟨e2, HK8.lt y hy⟩)) hrb
    refine rM rfl rfl <| rs_v (v_extract rfl rfl) rfl ?_
    refine rs_v (v_extract rfl rfl) rfl ?_
    refine rA rfl rfl <| rA rfl rfl <| rN ?_
    refine tr_cut (fun E h' => h15 = h' ∧ ∃ b : Bool, E = [(0, .pointer (some ⟨mi, 0, none⟩)), (1, kv0), (4, .pointer none), (9, .pointer (some ⟨mi, 4, none⟩)), (233, .bool b)] ∧ b = covB (wsO vs) (atB B j)) ?_ ?_
    ·
      rcases Bool.eq_false_or_eq_true (anyK 2 vs rs4 vs.length) with g1 | g1
      · skip
        refine tr_reg ?_
        refine rM rfl rfl <| rM rfl rfl <| rs_gv rfl (lkb g1) (v_move rfl) rfl <| rs_gv rfl (lkb g1) (v_pne u_p_keyspan_Span rfl rfl) rfl ?_
        refine rs_v (v_pick_t (lkb g1) rfl) rfl ?_
        refine rs_nil ?_
        exact q_cut [(0, _), (1, _), (4, _), (9, _), (233, _)] ⟨rfl, rfl, rfl, rfl, rfl, trivial⟩ ⟨rfl, _, rfl, by rw [← hcat.2, g1]; rfl⟩
      · skip
        refine tr_reg ?_
        refine rM rfl rfl <| rM rfl rfl <| rs_gs rfl (lkb g1) rfl rfl <| rs_gs rfl (lkb g1) rfl rfl <| rs_v (v_pick_f (lkb g1) rfl) rfl ?_
        refine rs_nil ?_
        exact q_cut [(0, _), (1, _), (4, _), (9, _), (233, _)] ⟨rfl, rfl, rfl, rfl, rfl, trivial⟩ ⟨rfl, _, rfl, by rw [← hcat.2, g1]⟩
    rintro E h95 ⟨hh, b, rfl, hcv⟩
    subst hh
    refine tr_if rfl (fun hif => ?_) (fun hif => ?_)
    · -- yes
      skip
      refine rG <| rM rfl rfl <| rA rfl rfl <| rN <| tr_ret <| q_thn_ret <| q_ret (res_tmp rfl rfl) ?_
      have hcov : covB (wsO vs) (atB B j) = true := by rw [← hcv]; exact hif
      exact mpost_pt hbad hl KP ⟨_, _, _, _, _, _, _, _, _, H, O⟩ hp4 hH4 ⟨hkB2, ⟨_, _, _, rfl⟩, ⟨_, _, _, rfl⟩, .inl ⟨rfl, rfl, hdone⟩⟩ (by rw [pGE_cut hc, Nat.add_sub_cancel]; exact (fwdF_yes hkB2 hcov).2) hspan
    -- no
    have hcov : covB (wsO vs) (atB B j) = false := by rw [← hcv]; exact hif
    refine tr_skip ?_
    refine q_thn ?_
    refine rG <| rM rfl rfl <| rs_w (w_call (vs := [_]) ok_keyspan_MergingIter_findNextFragmentSet rfl ⟨rfl, trivial⟩ (c_findNextFragmentSet (F := FU F h _) C (fun b hb => .inl (hbad b hb)) (fu_low hl KP) (MXt.fu ⟨_, _, _, _, _, _, _, _, _, H, O⟩) hp4 hH4 (by omega) hFN)) rfl ?_
    rintro r h17 hP
    refine rA rfl rfl <| rN <| tr_ret <| q_ret (res_tmp rfl rfl) ?_
    rw [pGE_cut hc, Nat.add_sub_cancel]
    rw [fwdF_no hkB2 hcov]
    exact mpost_trans hl KP (fun b hb => hb) hP
  -- yes
  simp only [dT, dF] at hif
  obtain ⟨v, hv⟩ := ex_get (L := vs) (k := k) (by omega)
  obtain ⟨hlx, hI, hrx⟩ := H.lv k v hv
  obtain ⟨hS, hne, hnb, hAc, hlt⟩ := H.sv v (List.mem_of_getElem? hv)
  have hlv := H.mb.lev hlx
  have hvl := H.vl
  have hit0 : cellH hL2 mi (10 + k * 4 + 0) = some v.it := by rw [← at_it v _]; exact hlv 0 _ rfl
  have hOv := C.ord v (List.mem_of_getElem? hv)
  have hgl := geI_le v.W key
  have hll := ltI_le v.W key
  have hky := (hkey0.stab (fun b hb => KP.2 b hb.2 hb.1)).mono (fun b hb => show b ≠ v.c from fun e => hb.1 (by rw [e]; exact hbad _ (C.kc hv _ (by simp)).1))
  refine tr_skip ?_
  refine q_thn ?_
  refine tr_seq ?_
  refine tr_block <| rG <| rM rfl rfl <| rA rfl rfl <| rN <| rG <| rM rfl rfl <| rC rfl rfl <| rF fa_keyspan_MergingIter_0 rfl rfl <| rs_v (v_load one_p_keyspan_MergingBuffers rfl (by exact H.mb.b2.cell 0 rfl)) rfl ?_
  refine rC rfl rfl <| rF fa_keyspan_MergingBuffers_1 rfl rfl <| rs_v (v_load one_sl_keyspan_mergingIterLevel rfl (by exact H.b1.cell 1 rfl)) rfl ?_
  refine rM rfl rfl <| rs_v (v_indexAddrE (i := k) u_sl_keyspan_mergingIterLevel siz_keyspan_mergingIterLevel rfl rfl rfl (by omega)) rfl ?_
  refine rA rfl rfl <| rN <| rG <| rM rfl rfl <| rC rfl rfl <| rF fa_keyspan_mergingIterLevel_0 rfl rfl <| rs_v (v_load one_keyspan_FragmentIterator rfl (by exact hit0)) rfl ?_
  refine rM rfl rfl <| rs_w (w_mcall (vs := [_]) (lv_SeekLT hS H.low hAc hI hky) rfl ⟨rfl, trivial⟩) rfl ?_
  rintro r h18 ⟨hr, hI1, hI1b, K18⟩
  have hS1 := hS.stab (H.stab K18 (by simpa using hAc))
  obtain ⟨p, hrp, hpc⟩ := seek_form hS1 (c := ltI v.W key = 0) (ltI v.W key - 1) (fun h0 => by omega)
  rw [hrp] at hr; subst hr
  have M := H.mb.keep K18 (by simpa using fun e => hne e.symm)
  have B1 := K18.blk (by simpa using fun e => hnb e.symm) H.b1
  have Kc := K18
  have KP := KeepP.newX KP K18 (fun y hy => .inl (hbad y (C.kc hv y hy).1))
  have O := O.keep K18 (C.kc hv)
  have hky2 := hkey0.stab (fun b hb => KP.2 b hb.2 hb.1)
  refine rA rfl rfl <| rN <| rG <| rM rfl rfl <| rs_v (v_peq u_p_keyspan_Span rfl rfl) rfl ?_
  refine rN ?_
  refine tr_if rfl (fun hif => ?_) (fun hif => ?_)
  · -- yes
    obtain ⟨rfl, hc0⟩ : p = none ∧ ltI v.W key = 0 := by
      rcases hpc with e | ⟨b, o, x, rfl, _⟩
      · exact e
      · cases hif
    have hts := (tS_lt hOv key).1 hc0
    have hI9 : LevI v (tS v.W key) h18 := by rw [hts]; rw [hc0] at hI1; exact hI1
    refine tr_reg ?_
    refine rM rfl rfl <| rs_v (v_build1 rfl (bld_keyspan_boundKey_0 _)) rfl ?_
    refine rC rfl rfl <| rF fa_keyspan_mergingIterLevel_1 rfl rfl <| rs_w0 (w_store siz_keyspan_boundKey rfl rfl rfl rfl M.b2 (by rw [M.len]; omega)) ?_
    rintro _ h19 ⟨B9, K19⟩
    have M2 := M.setL (it := v.it) hlx (at_it _ _) B9
    have hI2 := hI9.keep K19 (by simpa using hne)
    have KP := KeepP.newX KP K19 (fun y hy => .inl (hbad y (C.kmi y hy).1))
    have O := O.keep K19 C.kmi
    have H := H.step hv (r := tS v.W key) (by rw [hts, Lev.at0 (by unfold Lev.ok; omega)]; exact M2) hI2 (by have := tS_le v.W key; omega) ((Kc.sub (by simp)).trans (K19.sub (by simp)))
    refine rs_nil ?_
    refine q_blk_n ?_
    refine q_thn ?_
    refine tr_reg ?_
    refine rs_v (v_add rfl rfl (by omega) (by omega)) rfl ?_
    refine rM rfl rfl ?_
    refine rs_nil ?_
    refine q_lp (vs.length - (k + 1)) [(0, _), (1, _), (4, _), (19, _), (20, _)] (by omega) ⟨rfl, rfl, rfl, rfl, rfl, trivial⟩ ⟨k + 1, _, by omega, rfl, rfl, H.congr (fun j _ => rK_step (f := (fun W => tS W key)) hv j), O, KP⟩
  -- no
  obtain ⟨b, o, x, rfl, hc0, hx, hsp, hAb, hcs, hr1, hr2⟩ : ∃ b o x, p = some ⟨b, o, none⟩ ∧ ¬ ltI v.W key = 0 ∧ v.W[ltI v.W key - 1]? = some x ∧ v.sp (ltI v.W key - 1) = .pointer (some ⟨b, o, none⟩) ∧ A b ∧ CellsAt h18 b o [v.sv (ltI v.W key - 1), v.ev (ltI v.W key - 1), v.kv (ltI v.W key - 1), .int .i8 0] ∧ RBytes A h18 (v.sv (ltI v.W key - 1)) x.s ∧ RBytes A h18 (v.ev (ltI v.W key - 1)) x.e := by
    rcases hpc with ⟨rfl, _⟩ | e
    · cases hif
    · exact e
  obtain ⟨a9, n9, c9, e9⟩ := (hS.nn _ x hx).1
  obtain ⟨a8, n8, c8, e8⟩ := (hS.nn _ x hx).2
  have hxl := (List.getElem?_eq_some_iff.1 hx).1
  rw [e9, e8] at hcs
  rw [e9] at hr1
  rw [e8] at hr2
  refine rG <| rM rfl rfl <| rM rfl rfl <| rC rfl rfl <| rF fa_keyspan_Span_1 rfl rfl <| rs_v (v_load one_sl_uint8 rfl (by exact hcs 1 _ rfl)) rfl ?_
  refine rM rfl rfl <| rs_w (w_call (vs := [_, _, _]) ok_keyspan_MergingIter_cmp rfl ⟨rfl, rfl, rfl, trivial⟩ (c_mcmp2 M B1 (RBytes.by hr2) (RBytes.by hky2))) rfl ?_
  rintro _ h20 ⟨rfl, hsame⟩; have hsame := hsame.symm; subst hsame
  refine rs_v (v_le rfl rfl) rfl ?_
  refine rN ?_
  refine tr_if rfl (fun hif => ?_) (fun hif => ?_)
  · -- yes
    have hle : sle x.e key = true := sle_iff.2 (of_decide_eq_true hif)
    have hts := (tS_lt hOv key).2 x hc0 hx
    rw [if_pos hle] at hts
    have hI9 : LevI v (tS v.W key) h18 := by rw [hts]; exact hI1
    refine tr_reg ?_
    refine rM rfl rfl <| rM rfl rfl <| rC rfl rfl <| rF fa_keyspan_Span_1 rfl rfl <| rs_v (v_load one_sl_uint8 rfl (by exact hcs 1 _ rfl)) rfl ?_
    refine rM rfl rfl <| rs_v (v_build3 rfl rfl rfl (bld_keyspan_boundKey_0_1_2 _ _ _ _ _)) rfl ?_
    refine rC rfl rfl <| rF fa_keyspan_mergingIterLevel_1 rfl rfl <| rs_w0 (w_store siz_keyspan_boundKey rfl rfl rfl rfl M.b2 (by rw [M.len]; omega)) ?_
    rintro _ h21 ⟨B9, K21⟩
    have M2 := M.setL (it := v.it) hlx (at_it _ _) B9
    have hI2 := hI9.keep K21 (by simpa using hne)
    have KP := KeepP.newX KP K21 (fun y hy => .inl (hbad y (C.kmi y hy).1))
    have O := O.keep K21 C.kmi
    have H := H.step hv (r := tS v.W key) (by rw [hts, show 2 * ltI v.W key = 2 * (ltI v.W key - 1) + 2 from by omega, Lev.at2 hxl, hsp, e8]; exact M2) hI2 (by have := tS_le v.W key; omega) ((Kc.sub (by simp)).trans (K21.sub (by simp)))
    refine rs_nil ?_
    refine q_blk_n ?_
    refine q_thn ?_
    refine tr_reg ?_
    refine rs_v (v_add rfl rfl (by omega) (by omega)) rfl ?_
    refine rM rfl rfl ?_
    refine rs_nil ?_
    refine q_lp (vs.length - (k + 1)) [(0, _), (1, _), (4, _), (19, _), (20, _)] (by omega) ⟨rfl, rfl, rfl, rfl, rfl, trivial⟩ ⟨k + 1, _, by omega, rfl, rfl, H.congr (fun j _ => rK_step (f := (fun W => tS W key)) hv j), O, KP⟩
  -- no
  have hle : sle x.e key = false := sle_no.2 (by have := of_decide_eq_false hif; omega)
  have hts := (tS_lt hOv key).2 x hc0 hx
  rw [if_neg (by rw [hle]; decide)] at hts
  have hI9 : LevI v (tS v.W key) h18 := by rw [hts]; exact hI1b hc0
  refine tr_reg ?_
  refine rM rfl rfl <| rM rfl rfl <| rC rfl rfl <| rF fa_keyspan_Span_0 rfl rfl <| rs_v (v_load one_sl_uint8 rfl (by exact hcs 0 _ rfl)) rfl ?_
  refine rM rfl rfl <| rs_v (v_build3 rfl rfl rfl (bld_keyspan_boundKey_0_1_2 _ _ _ _ _)) rfl ?_
  refine rC rfl rfl <| rF fa_keyspan_mergingIterLevel_1 rfl rfl <| rs_w0 (w_store siz_keyspan_boundKey rfl rfl rfl rfl M.b2 (by rw [M.len]; omega)) ?_
  rintro _ h22 ⟨B9, K22⟩
  have M2 := M.setL (it := v.it) hlx (at_it _ _) B9
  have hI2 := hI9.keep K22 (by simpa using hne)
  have KP := KeepP.newX KP K22 (fun y hy => .inl (hbad y (C.kmi y hy).1))
  have O := O.keep K22 C.kmi
  have H := H.step hv (r := tS v.W key) (by rw [hts, show 2 * ltI v.W key - 1 = 2 * (ltI v.W key - 1) + 1 from by omega, Lev.at1 hxl, hsp, e9]; exact M2) hI2 (by have := tS_le v.W key; omega) ((Kc.sub (by simp)).trans (K22.sub (by simp)))
  refine rs_nil ?_
  refine q_blk_n ?_
  refine q_thn ?_
  refine tr_reg ?_
  refine rs_v (v_add rfl rfl (by omega) (by omega)) rfl ?_
  refine rM rfl rfl ?_
  refine rs_nil ?_
  refine q_lp (vs.length - (k + 1)) [(0, _), (1, _), (4, _), (19, _), (20, _)] (by omega) ⟨rfl, rfl, rfl, rfl, rfl, trivial⟩ ⟨k + 1, _, by omega, rfl, rfl, H.congr (fun j _ => rK_step (f := (fun W => tS W key)) hv j), O, KP⟩
set_option maxHeartbeats 4000000
theorem c_MSeekLT {χ : Chi} {A : Nat → Prop} {bf mi sb : Nat} {vs : List Lev} {snap : Nat} {B : List ByteArray} {F : Nat → Prop} {rs : Nat → Nat} {rev : Bool} {dir : Int} {q : List Nat} {st en bv : Value} {h : Heap} {kv0 : Value} {key : ByteArray} (C : MC A bf mi sb vs B) (hbad : ∀ b, badB A bf mi sb vs b → F b) (hl : Low F h) (X : MXt A bf mi sb vs snap F rs rev dir q st en bv h) (hkey : RBytes (fun b => ¬ F b) h kv0 key) :
    Cl Tryz.prog χ 180 #[.pointer (some ⟨mi, 0, none⟩), kv0] h (MPost A bf mi sb vs snap B F h (bwdP (covF (wsO vs)) (sgM vs snap B) (pLT (sgM vs snap B) key))) := by
  obtain ⟨s0, s1, s2, s3, kv1, L, tl, lk1, lb1, H, O⟩ := X
  have hkey0 := RBytes.lowen hkey
  refine cl_intro Tryz.func180 rfl rfl rfl ?_
  have K : Keep [] h h := Keep.refl _ _
  refine rG <| rA rfl rfl <| rN <| rG <| rM rfl rfl <| rs_w (w_call (vs := [_]) ok_keyspan_MergingIter_invalidate rfl ⟨rfl, trivial⟩ (c_invalidate H)) rfl ?_
  rintro _ h1 ⟨rfl, H, K1⟩
  have KP : KeepP F h h1 := kp_mi C hbad K1
  have O := O.keep K1 C.kmi
  refine rN ?_
  refine tr_seq ?_
  refine rG <| rM rfl rfl <| rC rfl rfl <| rF fa_keyspan_MergingIter_0 rfl rfl <| rs_v (v_load one_p_keyspan_MergingBuffers rfl (by exact H.mb.b2.cell 0 rfl)) rfl ?_
  refine rC rfl rfl <| rF fa_keyspan_MergingBuffers_1 rfl rfl <| rs_v (v_load one_sl_keyspan_mergingIterLevel rfl (by exact H.b1.cell 1 rfl)) rfl ?_
  refine rs_v (v_len u_sl_keyspan_mergingIterLevel rfl) rfl ?_
  refine rM rfl rfl <| rN <| tr_block ?_
  refine tr_loop (fun m E h' => ∃ k L1, k ≤ vs.length ∧ m = vs.length - k ∧ E = [(0, .pointer (some ⟨mi, 0, none⟩)), (1, kv0), (4, .pointer none), (19, .int .i64 (vs.length : Int)), (20, .int .i64 (k : Int))] ∧ MG A bf mi vs (rK (fun W => tS W key + 1) vs rs k) kv1 bv rev (hdC bf st en (.iface 188 (visF sb)) s0 s1 s2 s3 dir) L1 q tl h' ∧ MO A bf mi sb vs snap F kv1 bv lk1 lb1 h' ∧ KeepP F h h') vs.length [(0, _), (1, _), (4, _), (19, _), (20, _)] ⟨rfl, rfl, rfl, rfl, rfl, trivial⟩ ⟨0, L, Nat.zero_le _, rfl, rfl, H.congr (fun j _ => rfl), O, KP⟩ ?_
  rintro m E hL2 ⟨k, L1, hk, rfl, rfl, H, O, KP⟩
  refine rG <| rs_v (v_lt rfl rfl) rfl ?_
  refine rN ?_
  refine tr_seq ?_
  refine tr_ifn rfl (fun hif => ?_) (fun hif => ?_)
  · -- no
    simp only [dT, dF] at hif
    have H := H.congr (rs' := rT (fun W => tS W key + 1) vs) (fun j hj => rK_all (by omega))
    have hrs1 : ∀ (i : Nat) W, (wsO vs)[i]? = some W → rT (fun W => tS W key + 1) vs i = tS W key + 1 := fun i W hW => rT_at hW
    generalize rT (fun W => tS W key + 1) vs = rs1 at H hrs1
    have hrb : ∀ (i : Nat) v, vs[i]? = some v → 1 ≤ rs1 i := fun i v hv => by rw [hrs1 i v.W (wsO_at hv)]; omega
    refine tr_exit <| q_thn_exit ?_
    refine q_lp_exit ?_
    refine q_blk_hit ?_
    refine q_thn ?_
    refine rG <| rM rfl rfl <| rs_w (w_call (vs := [_]) ok_keyspan_MergingIter_initMinHeap rfl ⟨rfl, trivial⟩ (c_initMinHeap H)) rfl ?_
    rintro _ h3 ⟨rfl, q1, tl1, H, hp, hH, K3⟩
    have KP := KeepP.newX KP K3 (fun y hy => .inl (hbad y (C.kmb y hy).1))
    have O := (O.keep K3 C.kmb).ent (F1 := (fun b => F b ∨ h.size ≤ b)) (fun b hb => .inl hb)
    have hq1 := q_lt hp
    refine rN ?_
    refine tr_seq ?_
    refine rG <| rM rfl rfl <| rC rfl rfl <| rF fa_keyspan_MergingIter_5 rfl rfl <| rs_v (v_load one_error rfl (by exact H.mb.b2.cell 8 rfl)) rfl ?_
    refine rs_v (v_ine_nil isi_error rfl rfl) rfl ?_
    refine rN <| tr_if_f rfl ?_
    refine rG <| rM rfl rfl <| rC rfl rfl <| rF fa_keyspan_MergingIter_0 rfl rfl <| rs_v (v_load one_p_keyspan_MergingBuffers rfl (by exact H.mb.b2.cell 0 rfl)) rfl ?_
    refine rC rfl rfl <| rF fa_keyspan_MergingBuffers_2 rfl rfl <| rF fa_keyspan_mergingIterHeap_2 rfl rfl <| rs_v (v_load one_sl_keyspan_mergingIterItem rfl (by exact H.b1.cell 4 rfl)) rfl ?_
    refine rs_v (v_len u_sl_keyspan_mergingIterItem rfl) rfl ?_
    refine rs_v (v_eq rfl rfl) rfl ?_
    refine rN ?_
    refine tr_if rfl (fun hif => ?_) (fun hif => ?_)
    · -- yes
      have hq0 : q1 = [] := List.eq_nil_of_length_eq_zero (by have := of_decide_eq_true hif; omega)
      subst hq0
      have hts0 : ∀ (i : Nat) W, (wsO vs)[i]? = some W → tS W key = 2 * W.length := fun i W hW => by
        have h1 := q_none hp rfl i W hW
        rw [hrs1 i W hW] at h1
        have := tS_le W key; omega
      have hFN : FPk (wsO vs) B B.length (fun j => rs1 j - 1) := fp_cut C.hB (p := fun _ => true) (fun _ _ _ e => e) (cut_all B) (fun i W hW => by show rs1 i - 1 = _; rw [hrs1 i W hW, hts0 i W hW, cut_all_cnt C.hB (p := fun _ => true) (fun _ _ _ e => e) (List.mem_of_getElem? hW) (cut_all B)]; rfl)
      refine rG <| rM rfl rfl <| rs_w (w_call (vs := [_]) ok_keyspan_MergingIter_switchToMaxHeap rfl ⟨rfl, trivial⟩ (c_switchToMaxHeap H hrb)) rfl ?_
      rintro _ h4 ⟨rfl, L3, q3, tl3, H, hp3, hH3, K4⟩
      have KP := KeepP.newX KP K4 (fun y hy => .inl (hbad y (C.kall y hy).1))
      have O := O.keep K4 C.kall
      refine rN <| rG <| rM rfl rfl <| rs_w (w_call (vs := [_]) ok_keyspan_MergingIter_findPrevFragmentSet rfl ⟨rfl, trivial⟩ (c_findPrevFragmentSet (F := FU F h _) C (fun b hb => .inl (hbad b hb)) (fu_low hl KP) (MXt.fu ⟨_, _, _, _, _, _, _, _, _, H, O⟩) hp3 hH3 (Nat.le_refl _) hFN)) rfl ?_
      rintro r h5 hP
      refine rA rfl rfl <| rN <| tr_ret <| q_thn_ret <| q_ret (res_tmp rfl rfl) ?_
      rw [pLT_all C.hB hts0]
      exact mpost_trans hl KP (fun b hb => hb) hP
    -- no
    obtain ⟨x, q2, rfl⟩ : ∃ x q2, q1 = x :: q2 := by
      cases q1 with
      | nil => exact absurd rfl (of_decide_eq_false hif)
      | cons a b => exact ⟨a, b, rfl⟩
    obtain ⟨v, hv, hok⟩ := root_ok hp
    have hvm := List.mem_of_getElem? hv
    obtain ⟨a5, n5, c5, ek5⟩ := at_nn (H.sv v hvm).1 hok
    have hlen : (bkW v.W (rs1 x)).data.toList.length ≤ 100000000000 := C.bl _ (C.hB.mem v.W (rs1 x) (List.mem_of_getElem? (wsO_at hv)) hok.1 hok.2)
    have hit := (H.hs hq1).item (i := 0) (x := x) rfl
    have hlv := H.mb.lev (H.lv x v hv).1
    have hkey : cellH h3 mi (10 + x * 4 + 1 + 1) = some (.slice (some a5) n5 c5) := by rw [← ek5]; exact hlv 2 _ rfl
    have hkb : RBytes A h3 (.slice (some a5) n5 c5) (bkW v.W (rs1 x)) := by rw [← ek5]; exact bk_key (H.sv v (List.mem_of_getElem? hv)).1 _
    refine tr_skip ?_
    refine q_thn ?_
    refine rG <| rM rfl rfl <| rM rfl rfl <| rC rfl rfl <| rF fa_keyspan_MergingIter_0 rfl rfl <| rs_v (v_load one_p_keyspan_MergingBuffers rfl (by exact H.mb.b2.cell 0 rfl)) rfl ?_
    refine rC rfl rfl <| rF fa_keyspan_MergingBuffers_2 rfl rfl <| rF fa_keyspan_mergingIterHeap_2 rfl rfl <| rs_v (v_load one_sl_keyspan_mergingIterItem rfl (by exact H.b1.cell 4 rfl)) rfl ?_
    refine rs_v (v_indexAddrE (i := 0) u_sl_keyspan_mergingIterItem siz_keyspan_mergingIterItem rfl rfl rfl (Nat.succ_pos _)) rfl ?_
    refine rF fa_keyspan_mergingIterItem_0 rfl rfl <| rs_v (v_load one_p_keyspan_boundKey rfl (by exact hit 0 _ rfl)) rfl ?_
    refine rC rfl rfl <| rF fa_keyspan_boundKey_1 rfl rfl <| rs_v (v_load one_sl_uint8 rfl (by exact hkey)) rfl ?_
    refine rC rfl rfl <| rF fa_keyspan_MergingIter_2 rfl rfl <| rs_w0 (w_store siz_sl_uint8 rfl rfl rfl rfl H.mb.b2 (by rw [H.mb.len]; omega)) ?_
    rintro _ h6 ⟨B9, K6⟩
    have KP := KeepP.newX KP K6 (fun y hy => .inl (hbad y (C.kmi y hy).1))
    have H := H.hdr (hd' := hdC bf st (.slice (some a5) n5 c5) (.iface 188 (visF sb)) s0 s1 s2 s3 1) (by rw [mi_putH (show (3 : Nat) ≤ 10 by omega)] at B9; exact B9) rfl K6
    have O := O.keep K6 C.kmi
    have hit := (H.hs hq1).item (i := 0) (x := x) rfl
    have hlv := H.mb.lev (H.lv x v hv).1
    have hkey : cellH h6 mi (10 + x * 4 + 1 + 1) = some (.slice (some a5) n5 c5) := by rw [← ek5]; exact hlv 2 _ rfl
    have hkb : RBytes A h6 (.slice (some a5) n5 c5) (bkW v.W (rs1 x)) := by rw [← ek5]; exact bk_key (H.sv v (List.mem_of_getElem? hv)).1 _
    refine rN ?_
    refine tr_cut (fun E h' => ∃ st2 bv2, E = [(0, .pointer (some ⟨mi, 0, none⟩)), (1, kv0), (4, .pointer none)] ∧ MXt A bf mi sb vs snap (fun b => F b ∨ h.size ≤ b) rs1 false 1 (x :: q2) st st2 bv2 h' ∧ RBytes (fun b => A b ∨ b ∈ bv2.ownBlock.toList) h' st2 (bkW v.W (rs1 x)) ∧ KeepP F h h') ?_ ?_
    ·
      refine rG <| rM rfl rfl <| rC rfl rfl <| rF fa_keyspan_MergingIter_0 rfl rfl <| rs_v (v_load one_p_keyspan_MergingBuffers rfl (by exact H.mb.b2.cell 0 rfl)) rfl ?_
      refine rC rfl rfl <| rF fa_keyspan_MergingBuffers_2 rfl rfl <| rF fa_keyspan_mergingIterHeap_2 rfl rfl <| rs_v (v_load one_sl_keyspan_mergingIterItem rfl (by exact H.b1.cell 4 rfl)) rfl ?_
      refine rs_v (v_indexAddrE (i := 0) u_sl_keyspan_mergingIterItem siz_keyspan_mergingIterItem rfl rfl rfl (Nat.succ_pos _)) rfl ?_
      refine rF fa_keyspan_mergingIterItem_0 rfl rfl <| rs_v (v_load one_p_keyspan_boundKey rfl (by exact hit 0 _ rfl)) rfl ?_
      refine rC rfl rfl <| rF fa_keyspan_boundKey_0 rfl rfl <| rs_v (v_load one_keyspan_boundKind rfl (by exact hlv 1 _ rfl)) rfl ?_
      refine rs_v (v_eq rfl rfl) rfl ?_
      refine rN ?_
      refine tr_if rfl (fun hif => ?_) (fun hif => ?_)
      · -- yes
        have hkd : (v.at (rs1 x)).kind = 1 := of_decide_eq_true hif
        obtain ⟨ab, cb, rfl⟩ := O.b.slice
        have O0 := O
        refine tr_seq ?_
        have hmiX : mi ∉ (.slice ab lb1.length cb : Value).ownBlock.toList := fun hx => O.b.2 _ hx (.inr (.inr (.inl rfl)))
        have hbfX : bf ∉ (.slice ab lb1.length cb : Value).ownBlock.toList := fun hx => O.b.2 _ hx (.inr (.inl rfl))
        refine tr_draw [(true, 17), (false, 3)] _ (by kernel_rfl) (by kernel_rfl) (by kernel_rfl) ?_
        refine rx_big (Keep []) (Keep (.slice ab lb1.length cb : Value).ownBlock.toList) (keep_pre _) (keep_pre _) (fun _ _ k => k.any) ?_
        refine rb_v (keep_pre _) (fun h' hk => v_move rfl) ?_
        refine rb_v (keep_pre _) (fun h' hk => v_nilCheck_ptr rfl) ?_
        refine rb_v (keep_pre _) (fun h' hk => v_fieldAddr fa_keyspan_MergingIter_0 rfl) ?_
        refine rb_v (keep_pre _) (fun h' hk => v_load one_p_keyspan_MergingBuffers rfl (Blk.cell (hk.blk hmiX H.mb.b2) 0 rfl)) ?_
        refine rb_v (keep_pre _) (fun h' hk => v_move rfl) ?_
        refine rb_v (keep_pre _) (fun h' hk => v_nilCheck_ptr rfl) ?_
        refine rb_v (keep_pre _) (fun h' hk => v_fieldAddr fa_keyspan_MergingIter_0 rfl) ?_
        refine rb_v (keep_pre _) (fun h' hk => v_load one_p_keyspan_MergingBuffers rfl (Blk.cell (hk.blk hmiX H.mb.b2) 0 rfl)) ?_
        refine rb_v (keep_pre _) (fun h' hk => v_nilCheck_ptr rfl) ?_
        refine rb_v (keep_pre _) (fun h' hk => v_fieldAddr fa_keyspan_MergingBuffers_3 rfl) ?_
        refine rb_v (keep_pre _) (fun h' hk => v_load one_sl_uint8 rfl (Blk.cell (hk.blk hbfX H.b1) 5 rfl)) ?_
        refine rb_v (keep_pre _) (fun h' hk => v_slice_h u_sl_uint8 siz_uint8 (i := 0) rfl rfl rfl (Nat.zero_le _)) ?_
        refine rb_v (keep_pre _) (fun h' hk => v_move rfl) ?_
        refine rb_v (keep_pre _) (fun h' hk => v_nilCheck_ptr rfl) ?_
        refine rb_v (keep_pre _) (fun h' hk => v_fieldAddr fa_keyspan_MergingIter_2 rfl) ?_
        refine rb_v (keep_pre _) (fun h' hk => v_load one_sl_uint8 rfl (Blk.cell (hk.blk hmiX H.mb.b2) 2 rfl)) ?_
        refine rb_big (fun v' h' => BW (badB A bf mi sb vs) v' (bkW v.W (rs1 x)).data.toList h' ∧ (v'.ownBlock = (.slice ab lb1.length cb : Value).ownBlock ∨ ∃ z, v'.ownBlock = some z ∧ h6.size ≤ z)) (fun v _ _ k1 k2 hr => ⟨hr.1.keep k2 (by simp), hr.2⟩)
          (fun h' hk => OpW.mono (w_appBW rfl rfl (O.b.cut.keep hk (by simp)) (hkb.stab (hk.st H.low)) hlen (fun y hy => Nat.lt_of_lt_of_le (H.bad_lt O.s.lt y hy) hk.1)) (fun v h'' hv => ⟨by rw [own_block0 (m2 := lb1.length) (c2 := cb)] at hv; exact hv.2.1, hv.1, by
            rw [own_block0 (m2 := lb1.length) (c2 := cb)] at hv
            exact hv.2.2.imp id (fun e => ⟨_, e, hk.1⟩)⟩)) ?_
        refine rb_end ?_; intro ha Ka; simp only [endM, hypF, ofE, argE, List.nil_append]
        rintro v57 ⟨H3, he⟩
        obtain ⟨ab2, cb2, rfl⟩ := H3.slice
        have H := H.keep Ka (fun y hy => ⟨fun e => O.b.2 y hy (.inl e), fun e => O.b.2 y hy (.inr (.inl e)), fun e => O.b.2 y hy (.inr (.inr (.inl e))), fun v hv e => O.b.2 y hy (.inr (.inr (.inr (.inr ⟨v, hv, e⟩))))⟩)
        have O := O.app C Ka H3 (fun y hy => by
          rcases he with e | ⟨z, e, hz⟩
          · rw [e] at hy; exact .inl hy
          · rw [e] at hy; simp at hy; exact .inr (by omega)) (fun y hy => .inr (by have := KP.1; omega))
        have KP := KeepP.newX KP Ka (fun y hy => O0.ob y hy)
        refine rx_seq ?_
        refine rC rfl rfl <| rF fa_keyspan_MergingBuffers_3 rfl rfl <| rs_w0 (w_put siz_sl_uint8 rfl rfl rfl rfl H.b1 rfl) ?_
        rintro _ h7 ⟨B, K9⟩
        have KP := KeepP.newX KP K9 (fun y hy => .inl (hbad y (C.kbf y hy).1))
        have H := H.both (q' := x :: q2) (tl' := tl1) (kv' := kv1) (rev' := false) B (K9.blk (by simpa using fun e => H.ne e.symm) H.mb.b2) H.mb.hdl H.mb.ql (K9.sub (by simp))
        have O := O.keep K9 C.kbf
        refine rs_nil ?_
        refine q_con ?_
        refine rx_nil ?_
        refine q_thn ?_
        refine tr_reg ?_
        refine rM rfl rfl <| rM rfl rfl <| rC rfl rfl <| rF fa_keyspan_MergingIter_0 rfl rfl <| rs_v (v_load one_p_keyspan_MergingBuffers rfl (by exact H.mb.b2.cell 0 rfl)) rfl ?_
        refine rC rfl rfl <| rF fa_keyspan_MergingBuffers_3 rfl rfl <| rs_v (v_load one_sl_uint8 rfl (by exact H.b1.cell 5 rfl)) rfl ?_
        refine rC rfl rfl <| rF fa_keyspan_MergingIter_2 rfl rfl <| rs_w0 (w_store siz_sl_uint8 rfl rfl rfl rfl H.mb.b2 (by rw [H.mb.len]; omega)) ?_
        rintro _ h8 ⟨B9, K8⟩
        have KP := KeepP.newX KP K8 (fun y hy => .inl (hbad y (C.kmi y hy).1))
        have H := H.hdr (hd' := hdC bf st (.slice ab2 (bkW v.W (rs1 x)).data.toList.length cb2) (.iface 188 (visF sb)) s0 s1 s2 s3 1) (by rw [mi_putH (show (3 : Nat) ≤ 10 by omega)] at B9; exact B9) rfl K8
        have O := O.keep K8 C.kmi
        have hst9 : RBytes (fun b => A b ∨ b ∈ (.slice ab2 (bkW v.W (rs1 x)).data.toList.length cb2 : Value).ownBlock.toList) h8 (.slice ab2 (bkW v.W (rs1 x)).data.toList.length cb2) (bkW v.W (rs1 x)) := O.b.bytes (by omega) (fun y hy => .inr hy)
        refine rs_nil ?_
        exact q_cut [(0, _), (1, _), (4, _)] ⟨rfl, rfl, rfl, trivial⟩ ⟨_, _, rfl, ⟨_, _, _, _, _, _, _, _, _, H, O⟩, hst9, KP⟩
      -- no
      skip
      refine tr_skip ?_
      exact q_cut [(0, _), (1, _), (4, _)] ⟨rfl, rfl, rfl, trivial⟩ ⟨_, _, rfl, ⟨_, _, _, _, _, _, _, _, _, H, O⟩, hkb.mono (fun b hb => .inl hb), KP⟩
    rintro E h98 ⟨st2, bv2, rfl, X, hst, KP⟩
    obtain ⟨s0, s1, s2, s3, kv2, L2, tl2, lk2, lb2, H, O⟩ := X
    obtain ⟨a7, c7, e7⟩ := SlR.form2 hst
    generalize (bkW v.W (rs1 x)).data.toList.length = n7 at e7
    subst e7
    refine rG <| rM rfl rfl <| rs_w (w_call (vs := [_]) ok_keyspan_MergingIter_switchToMaxHeap rfl ⟨rfl, trivial⟩ (c_switchToMaxHeap H hrb)) rfl ?_
    rintro _ h10 ⟨rfl, L3, q4, tl3, H', hp4, hH4, K10⟩
    have hst := st_keep H O hst K10 C.kall H.nAall
    have H := H'
    have KP := KeepP.newX KP K10 (fun y hy => .inl (hbad y (C.kall y hy).1))
    have O := O.keep K10 C.kall
    have hq4 := q_lt hp4
    generalize hrs4e : (fun j => rs1 j - 1) = rs4 at H hp4 hH4
    have hrs4 : ∀ (i : Nat) W, (wsO vs)[i]? = some W → rs4 i = tS W key := fun i W hW => by
      have h1 := hrs1 i W hW
      rw [← hrs4e]
      show rs1 i - 1 = _
      omega
    have hkyb := hkey0.stab (fun b hb => KP.2 b hb.2 hb.1)
    refine rN ?_
    refine tr_seq ?_
    refine rG <| rM rfl rfl <| rC rfl rfl <| rF fa_keyspan_MergingIter_5 rfl rfl <| rs_v (v_load one_error rfl (by exact H.mb.b2.cell 8 rfl)) rfl ?_
    refine rs_v (v_ine_nil isi_error rfl rfl) rfl ?_
    refine rN <| tr_if_f rfl ?_
    refine rG <| rM rfl rfl <| rC rfl rfl <| rF fa_keyspan_MergingIter_0 rfl rfl <| rs_v (v_load one_p_keyspan_MergingBuffers rfl (by exact H.mb.b2.cell 0 rfl)) rfl ?_
    refine rC rfl rfl <| rF fa_keyspan_MergingBuffers_2 rfl rfl <| rF fa_keyspan_mergingIterHeap_2 rfl rfl <| rs_v (v_load one_sl_keyspan_mergingIterItem rfl (by exact H.b1.cell 4 rfl)) rfl ?_
    refine rs_v (v_len u_sl_keyspan_mergingIterItem rfl) rfl ?_
    refine rs_v (v_eq rfl rfl) rfl ?_
    refine rN ?_
    refine tr_if rfl (fun hif => ?_) (fun hif => ?_)
    · -- yes
      have hq0 : q4 = [] := List.eq_nil_of_length_eq_zero (by have := of_decide_eq_true hif; omega)
      subst hq0
      have hts0 : ∀ (i : Nat) W, (wsO vs)[i]? = some W → tS W key = 0 := fun i W hW => by
        have h1 := q_none hp4 rfl i W hW
        rw [hrs4 i W hW] at h1
        have := tS_le W key; omega
      refine rG <| rA rfl rfl <| rN <| tr_ret <| q_thn_ret <| q_ret (res_tmp rfl rfl) ?_
      rw [pLT_none C.hB hts0]
      exact mpost_ahead hbad hl KP ⟨_, _, _, _, _, _, _, _, _, H, O⟩ hp4 hH4 (fun i W hW => by rw [hrs4 i W hW, hts0 i W hW]) rfl
    -- no
    obtain ⟨y, q5, rfl⟩ : ∃ y q5, q4 = y :: q5 := by
      cases q4 with
      | nil => exact absurd rfl (of_decide_eq_false hif)
      | cons a b => exact ⟨a, b, rfl⟩
    obtain ⟨w, hw, how⟩ := root_ok hp4
    obtain ⟨a6, n6, c6, ek6⟩ := at_nn (H.sv w (List.mem_of_getElem? hw)).1 how
    have hit6 := (H.hs hq4).item (i := 0) (x := y) rfl
    have hlv6 := H.mb.lev (H.lv y w hw).1
    have hkey6 : cellH h10 mi (10 + y * 4 + 1 + 1) = some (.slice (some a6) n6 c6) := by rw [← ek6]; exact hlv6 2 _ rfl
    have hkb6 : RBytes A h10 (.slice (some a6) n6 c6) (bkW w.W (rs4 y)) := by rw [← ek6]; exact bk_key (H.sv w (List.mem_of_getElem? hw)).1 _
    refine tr_skip ?_
    refine q_thn ?_
    refine tr_seq ?_
    refine tr_cut (fun E h' => h10 = h' ∧ ∃ b : Bool, E = [(0, .pointer (some ⟨mi, 0, none⟩)), (1, kv0), (4, .pointer none), (204, .bool b)] ∧ (b = true → ((w.at (rs4 y)).kind = 2 ∧ bkW w.W (rs4 y) = key)) ∧ (b = false → ¬ ((w.at (rs4 y)).kind = 2 ∧ bkW w.W (rs4 y) = key))) ?_ ?_
    ·
      rcases Bool.eq_false_or_eq_true (decide ((w.at (rs4 y)).kind = 2)) with g1 | g1
      · skip
        refine tr_reg ?_
        refine rM rfl rfl <| rC rfl rfl <| rF fa_keyspan_MergingIter_0 rfl rfl <| rs_v (v_load one_p_keyspan_MergingBuffers rfl (by exact H.mb.b2.cell 0 rfl)) rfl ?_
        refine rC rfl rfl <| rF fa_keyspan_MergingBuffers_2 rfl rfl <| rF fa_keyspan_mergingIterHeap_2 rfl rfl <| rs_v (v_load one_sl_keyspan_mergingIterItem rfl (by exact H.b1.cell 4 rfl)) rfl ?_
        refine rs_v (v_indexAddrE (i := 0) u_sl_keyspan_mergingIterItem siz_keyspan_mergingIterItem rfl rfl rfl (Nat.succ_pos _)) rfl ?_
        refine rF fa_keyspan_mergingIterItem_0 rfl rfl <| rs_v (v_load one_p_keyspan_boundKey rfl (by exact hit6 0 _ rfl)) rfl ?_
        refine rC rfl rfl <| rF fa_keyspan_boundKey_0 rfl rfl <| rs_v (v_load one_keyspan_boundKind rfl (by exact hlv6 1 _ rfl)) rfl ?_
        refine rs_v (v_eq rfl rfl) rfl ?_
        refine rM rfl rfl <| rs_gv rfl (lkb g1) (v_move rfl) rfl <| rs_gv rfl (lkb g1) (v_move rfl) rfl <| rs_gv rfl (lkb g1) (v_nilCheck_ptr rfl) rfl ?_
        refine rs_gv rfl (lkb g1) (v_fieldAddr fa_keyspan_MergingIter_0 rfl) rfl ?_
        refine rs_gv rfl (lkb g1) (v_load one_p_keyspan_MergingBuffers rfl (by exact H.mb.b2.cell 0 rfl)) rfl ?_
        refine rs_gv rfl (lkb g1) (v_nilCheck_ptr rfl) rfl ?_
        refine rs_gv rfl (lkb g1) (v_fieldAddr fa_keyspan_MergingBuffers_2 rfl) rfl ?_
        refine rs_gv rfl (lkb g1) (v_fieldAddr fa_keyspan_mergingIterHeap_2 rfl) rfl ?_
        refine rs_gv rfl (lkb g1) (v_load one_sl_keyspan_mergingIterItem rfl (by exact H.b1.cell 4 rfl)) rfl ?_
        refine rs_gv rfl (lkb g1) (v_indexAddrE (i := 0) u_sl_keyspan_mergingIterItem siz_keyspan_mergingIterItem rfl rfl rfl (Nat.succ_pos _)) rfl ?_
        refine rs_gv rfl (lkb g1) (v_fieldAddr fa_keyspan_mergingIterItem_0 rfl) rfl ?_
        refine rs_gv rfl (lkb g1) (v_load one_p_keyspan_boundKey rfl (by exact hit6 0 _ rfl)) rfl ?_
        refine rs_gv rfl (lkb g1) (v_nilCheck_ptr rfl) rfl ?_
        refine rs_gv rfl (lkb g1) (v_fieldAddr fa_keyspan_boundKey_1 rfl) rfl ?_
        refine rs_gv rfl (lkb g1) (v_load one_sl_uint8 rfl (by exact hkey6)) rfl ?_
        refine rs_gv rfl (lkb g1) (v_move rfl) rfl ?_
        refine rs_gw rfl (lkb g1) (w_call (vs := [_, _, _]) ok_keyspan_MergingIter_cmp rfl ⟨rfl, rfl, rfl, trivial⟩ (c_mcmp H (RBytes.by hkb6) (RBytes.by hkyb))) rfl ?_
        rintro _ h11 ⟨rfl, hsame⟩; have hsame := hsame.symm; subst hsame
        refine rs_gv rfl (lkb g1) (v_eq rfl rfl) rfl ?_
        refine rs_v (v_pick_t (lkb g1) rfl) rfl ?_
        refine rs_nil ?_
        exact q_cut [(0, _), (1, _), (4, _), (204, _)] ⟨rfl, rfl, rfl, rfl, trivial⟩ ⟨rfl, _, rfl, fun e => ⟨of_decide_eq_true g1, cmpB_eq (of_decide_eq_true e)⟩, fun e e2 => of_decide_eq_false e (by rw [e2.2]; exact cmpB_refl _)⟩
      · skip
        refine tr_reg ?_
        refine rM rfl rfl <| rC rfl rfl <| rF fa_keyspan_MergingIter_0 rfl rfl <| rs_v (v_load one_p_keyspan_MergingBuffers rfl (by exact H.mb.b2.cell 0 rfl)) rfl ?_
        refine rC rfl rfl <| rF fa_keyspan_MergingBuffers_2 rfl rfl <| rF fa_keyspan_mergingIterHeap_2 rfl rfl <| rs_v (v_load one_sl_keyspan_mergingIterItem rfl (by exact H.b1.cell 4 rfl)) rfl ?_
        refine rs_v (v_indexAddrE (i := 0) u_sl_keyspan_mergingIterItem siz_keyspan_mergingIterItem rfl rfl rfl (Nat.succ_pos _)) rfl ?_
        refine rF fa_keyspan_mergingIterItem_0 rfl rfl <| rs_v (v_load one_p_keyspan_boundKey rfl (by exact hit6 0 _ rfl)) rfl ?_
        refine rC rfl rfl <| rF fa_keyspan_boundKey_0 rfl rfl <| rs_v (v_load one_keyspan_boundKind rfl (by exact hlv6 1 _ rfl)) rfl ?_
        refine rs_v (v_eq rfl rfl) rfl ?_
        refine rM rfl rfl <| rs_gs rfl (lkb g1) rfl rfl <| rs_gs rfl (lkb g1) rfl rfl <| rs_gs rfl (lkb g1) rfl rfl <| rs_gs rfl (lkb g1) rfl rfl <| rs_gs rfl (lkb g1) rfl rfl <| rs_gs rfl (lkb g1) rfl rfl <| rs_gs rfl (lkb g1) rfl rfl <| rs_gs rfl (lkb g1) rfl rfl <| rs_gs rfl (lkb g1) rfl rfl <| rs_gs rfl (lkb g1) rfl rfl <| rs_gs rfl (lkb g1) rfl rfl <| rs_gs rfl (lkb g1) rfl rfl <| rs_gs rfl (lkb g1) rfl rfl <| rs_gs rfl (lkb g1) rfl rfl <| rs_gs rfl (lkb g1) rfl rfl <| rs_gs rfl (lkb g1) rfl rfl <| rs_gs rfl (lkb g1) rfl rfl <| rs_gs rfl (lkb g1) rfl rfl <| rs_v (v_pick_f (lkb g1) rfl) rfl ?_
        refine rs_nil ?_
        exact q_cut [(0, _), (1, _), (4, _), (204, _)] ⟨rfl, rfl, rfl, rfl, trivial⟩ ⟨rfl, _, rfl, fun e => (by cases e), fun _ e2 => of_decide_eq_false g1 e2.1⟩
    rintro E h94 ⟨hh, b, rfl, hb1, hb0⟩
    subst hh
    refine tr_if rfl (fun hif => ?_) (fun hif => ?_)
    · -- yes
      have hyes := hb1 hif
      obtain ⟨k, hkl, hFN, hpe⟩ := seek_yesL (kf := kfM vs snap) C.hB hw how hrs4 hyes.2
      refine rG <| rM rfl rfl <| rs_w (w_call (vs := [_]) ok_keyspan_MergingIter_findPrevFragmentSet rfl ⟨rfl, trivial⟩ (c_findPrevFragmentSet (F := FU F h _) C (fun b hb => .inl (hbad b hb)) (fu_low hl KP) (MXt.fu ⟨_, _, _, _, _, _, _, _, _, H, O⟩) hp4 hH4 hkl hFN)) rfl ?_
      rintro r h13 hP
      refine rA rfl rfl <| rN <| tr_ret <| q_thn_ret <| q_ret (res_tmp rfl rfl) ?_
      rw [hpe]
      exact mpost_trans hl KP (fun b hb => hb) hP
    -- no
    have hall := seek_noL C.ord hp4 hH4 hw hrs4 (hb0 hif)
    obtain ⟨k, hc⟩ := cut_at C.hB (down_lt key)
    have hFN : FPk (wsO vs) B k rs4 := fp_cut C.hB (down_lt key) hc (fun i W hW => by rw [hrs4 i W hW, hall i W hW]; rfl)
    have hFP : FNk (wsO vs) B k rs1 := fn_cut C.hB (down_lt key) hc (fun i W hW => by rw [hrs1 i W hW, hall i W hW]; rfl)
    obtain ⟨hk0, hκ2⟩ := fp_root' C.hB hFN hp4 hH4 hw
    obtain ⟨hkB2, hκ1⟩ := fn_root' C.hB hFP hp hH hv
    obtain ⟨j, rfl⟩ : ∃ j, k = j + 1 := ⟨k - 1, by omega⟩
    rw [Nat.add_sub_cancel] at hκ2
    rw [hκ1] at hst
    have hdone : ∀ (i : Nat) W, (wsO vs)[i]? = some W → rs4 i = cE W (atB B j) := fun i W hW => by
      rw [hrs4 i W hW, hall i W hW]
      exact cut_cE C.hB (down_lt key) (List.mem_of_getElem? hW) hc
    refine tr_skip ?_
    refine q_thn ?_
    refine rG <| rM rfl rfl <| rM rfl rfl <| rC rfl rfl <| rF fa_keyspan_MergingIter_0 rfl rfl <| rs_v (v_load one_p_keyspan_MergingBuffers rfl (by exact H.mb.b2.cell 0 rfl)) rfl ?_
    refine rC rfl rfl <| rF fa_keyspan_MergingBuffers_2 rfl rfl <| rF fa_keyspan_mergingIterHeap_2 rfl rfl <| rs_v (v_load one_sl_keyspan_mergingIterItem rfl (by exact H.b1.cell 4 rfl)) rfl ?_
    refine rs_v (v_indexAddrE (i := 0) u_sl_keyspan_mergingIterItem siz_keyspan_mergingIterItem rfl rfl rfl (Nat.succ_pos _)) rfl ?_
    refine rF fa_keyspan_mergingIterItem_0 rfl rfl <| rs_v (v_load one_p_keyspan_boundKey rfl (by exact hit6 0 _ rfl)) rfl ?_
    refine rC rfl rfl <| rF fa_keyspan_boundKey_1 rfl rfl <| rs_v (v_load one_sl_uint8 rfl (by exact hkey6)) rfl ?_
    refine rC rfl rfl <| rF fa_keyspan_MergingIter_1 rfl rfl <| rs_w0 (w_store siz_sl_uint8 rfl rfl rfl rfl H.mb.b2 (by rw [H.mb.len]; omega)) ?_
    rintro _ h14 ⟨B9, K14⟩
    have KP := KeepP.newX KP K14 (fun y hy => .inl (hbad y (C.kmi y hy).1))
    have hst := st_keep H O hst K14 C.kmi H.nAm
    have H := H.hdr (hd' := hdC bf (.slice (some a6) n6 c6) (.slice a7 n7 c7) (.iface 188 (visF sb)) s0 s1 s2 s3 (-1)) (by rw [mi_putH (show (2 : Nat) ≤ 10 by omega)] at B9; exact B9) rfl K14
    have O := O.keep K14 C.kmi
    have hit6 := (H.hs hq4).item (i := 0) (x := y) rfl
    have hlv6 := H.mb.lev (H.lv y w hw).1
    have hkey6 : cellH h14 mi (10 + y * 4 + 1 + 1) = some (.slice (some a6) n6 c6) := by rw [← ek6]; exact hlv6 2 _ rfl
    have hkb6 : RBytes A h14 (.slice (some a6) n6 c6) (bkW w.W (rs4 y)) := by rw [← ek6]; exact bk_key (H.sv w (List.mem_of_getElem? hw)).1 _
    obtain ⟨ak, ck, rfl⟩ := O.k.slice
    refine rN ?_
    refine tr_seq ?_
    refine rG <| rM rfl rfl <| rs_w (w_call (vs := [_, _]) ok_keyspan_MergingIter_synthesizeKeys rfl ⟨rfl, rfl, trivial⟩ (c_synthM H O.k O.s C.nb C.nm C.kl2 (C.kr2))) rfl ?_
    rintro _ h15 ⟨rfl, ka, kc, nd, l8, H8, HK8, hl8, htk, hnd8, hown, BS8, K15⟩
    have O0 := O
    have hX8 : ∀ y, y ∈ mi :: bf :: (.slice ak lk2.length ck : Value).ownBlock.toList → ¬ A y ∧ y ∉ bv2.ownBlock.toList := fun y hy => syn_out H O y hy
    have hst := st_keep0 H O hst K15 hX8
    have hkb8 := hkb6.stab (K15.stab fun y hy => ⟨H.low y hy, fun hm => (hX8 y hm).1 hy⟩)
    have hcat := cat_M hdone
    rw [hcat.1] at htk hnd8
    have hrb : ∀ y, y ∈ (sortKT (catX vs (atB B j))).filter (fun y => visK snap y.k) → RBytes A h15 (.slice y.a1 y.n1 y.c1) y.k.suf ∧ RBytes A h15 (.slice y.a2 y.n2 y.c2) y.k.val := fun y hy => catK_rb (D := 1) H8 (by decide) (by rw [hcat.1]; exact (sortKT_perm _).mem_iff.1 (List.mem_filter.1 hy).1)
    have O := O.syn C (fun y hy => .inr (by have := KP.1; omega)) HK8 hl8 hown BS8 K15
    have KP := KeepP.newX KP K15 (syn_kp hbad O0)
    have H := H8
    have hspan : PSpan (FU F h h15) h15 mi 4 ⟨atB B j, atB B (j + 1), kfM vs snap (atB B j)⟩ := by
      have hF9 : ∀ b, A b → FU F h h15 b := fun b hb => .inl (hbad b (.inl hb))
      have hst9 : ∀ b, A b ∨ b ∈ bv2.ownBlock.toList → FU F h h15 b := fun b hb => hb.elim (hF9 b) (fun e => (O.ob b e).imp id (fun e2 => ⟨e2, own_lt O.b.1 b e⟩))
      refine ⟨_, _, _, 0, H.mb.b2.sub 4 4 rfl, ?_, hst.mono hst9, ?_⟩
      · have := hkb8.mono hF9; rw [hκ2] at this; exact this
      · exact pkeys_of HK8 htk hnd8 hl8 hF9 (fun y hy => (O.ok y hy).imp id (fun e2 => ⟨e2, HK8.lt y hy⟩)) hrb
    refine rM rfl rfl <| rs_v (v_extract rfl rfl) rfl ?_
    refine rs_v (v_extract rfl rfl) rfl ?_
    refine rA rfl rfl <| rA rfl rfl <| rN ?_
    refine tr_cut (fun E h' => h15 = h' ∧ ∃ b : Bool, E = [(0, .pointer (some ⟨mi, 0, none⟩)), (1, kv0), (4, .pointer none), (9, .pointer (some ⟨mi, 4, none⟩)), (233, .bool b)] ∧ b = covB (wsO vs) (atB B j)) ?_ ?_
    ·
      rcases Bool.eq_false_or_eq_true (anyK 1 vs rs4 vs.length) with g1 | g1
      · skip
        refine tr_reg ?_
        refine rM rfl rfl <| rM rfl rfl <| rs_gv rfl (lkb g1) (v_move rfl) rfl <| rs_gv rfl (lkb g1) (v_pne u_p_keyspan_Span rfl rfl) rfl ?_
        refine rs_v (v_pick_t (lkb g1) rfl) rfl ?_
        refine rs_nil ?_
        exact q_cut [(0, _), (1, _), (4, _), (9, _), (233, _)] ⟨rfl, rfl, rfl, rfl, rfl, trivial⟩ ⟨rfl, _, rfl, by rw [← hcat.2, g1]; rfl⟩
      · skip
        refine tr_reg ?_
        refine rM rfl rfl <| rM rfl rfl <| rs_gs rfl (lkb g1) rfl rfl <| rs_gs rfl (lkb g1) rfl rfl <| rs_v (v_pick_f (lkb g1) rfl) rfl ?_
        refine rs_nil ?_
        exact q_cut [(0, _), (1, _), (4, _), (9, _), (233, _)] ⟨rfl, rfl, rfl, rfl, rfl, trivial⟩ ⟨rfl, _, rfl, by rw [← hcat.2, g1]⟩
    rintro E h95 ⟨hh, b, rfl, hcv⟩
    subst hh
    refine tr_if rfl (fun hif => ?_) (fun hif => ?_)
    · -- yes
      skip
      refine rG <| rM rfl rfl <| rA rfl rfl <| rN <| tr_ret <| q_thn_ret <| q_ret (res_tmp rfl rfl) ?_
      have hcov : covB (wsO vs) (atB B j) = true := by rw [← hcv]; exact hif
      exact mpost_pt hbad hl KP ⟨_, _, _, _, _, _, _, _, _, H, O⟩ hp4 hH4 ⟨hkB2, ⟨_, _, _, rfl⟩, RBytes.nn hst (C.hB.lt (Nat.lt_succ_self j) hkB2), .inr ⟨rfl, rfl, hdone⟩⟩ (by rw [pLT_cut hc, show min (j + 1 + 1) B.length = j + 2 from by omega]; exact (bwdF_yes hkB2 hcov).2) hspan
    -- no
    have hcov : covB (wsO vs) (atB B j) = false := by rw [← hcv]; exact hif
    refine tr_skip ?_
    refine q_thn ?_
    refine rG <| rM rfl rfl <| rs_w (w_call (vs := [_]) ok_keyspan_MergingIter_findPrevFragmentSet rfl ⟨rfl, trivial⟩ (c_findPrevFragmentSet (F := FU F h _) C (fun b hb => .inl (hbad b hb)) (fu_low hl KP) (MXt.fu ⟨_, _, _, _, _, _, _, _, _, H, O⟩) hp4 hH4 (by omega) hFN)) rfl ?_
    rintro r h17 hP
    refine rA rfl rfl <| rN <| tr_ret <| q_ret (res_tmp rfl rfl) ?_
    rw [pLT_cut hc, show min (j + 1 + 1) B.length = j + 2 from by omega]
    rw [bwdF_no hkB2 hcov]
    exact mpost_trans hl KP (fun b hb => hb) hP
  -- yes
  simp only [dT, dF] at hif
  obtain ⟨v, hv⟩ := ex_get (L := vs) (k := k) (by omega)
  obtain ⟨hlx, hI, hrx⟩ := H.lv k v hv
  obtain ⟨hS, hne, hnb, hAc, hlt⟩ := H.sv v (List.mem_of_getElem? hv)
  have hlv := H.mb.lev hlx
  have hvl := H.vl
  have hit0 : cellH hL2 mi (10 + k * 4 + 0) = some v.it := by rw [← at_it v _]; exact hlv 0 _ rfl
  have hOv := C.ord v (List.mem_of_getElem? hv)
  have hgl := geI_le v.W key
  have hll := ltI_le v.W key
  have hky := (hkey0.stab (fun b hb => KP.2 b hb.2 hb.1)).mono (fun b hb => show b ≠ v.c from fun e => hb.1 (by rw [e]; exact hbad _ (C.kc hv _ (by simp)).1))
  refine tr_skip ?_
  refine q_thn ?_
  refine tr_seq ?_
  refine tr_block <| rG <| rM rfl rfl <| rA rfl rfl <| rN <| rG <| rM rfl rfl <| rC rfl rfl <| rF fa_keyspan_MergingIter_0 rfl rfl <| rs_v (v_load one_p_keyspan_MergingBuffers rfl (by exact H.mb.b2.cell 0 rfl)) rfl ?_
  refine rC rfl rfl <| rF fa_keyspan_MergingBuffers_1 rfl rfl <| rs_v (v_load one_sl_keyspan_mergingIterLevel rfl (by exact H.b1.cell 1 rfl)) rfl ?_
  refine rM rfl rfl <| rs_v (v_indexAddrE (i := k) u_sl_keyspan_mergingIterLevel siz_keyspan_mergingIterLevel rfl rfl rfl (by omega)) rfl ?_
  refine rA rfl rfl <| rN <| rG <| rM rfl rfl <| rC rfl rfl <| rF fa_keyspan_mergingIterLevel_0 rfl rfl <| rs_v (v_load one_keyspan_FragmentIterator rfl (by exact hit0)) rfl ?_
  refine rM rfl rfl <| rs_w (w_mcall (vs := [_]) (lv_SeekGE hS H.low hAc hI hky) rfl ⟨rfl, trivial⟩) rfl ?_
  rintro r h18 ⟨hr, hI1, hI1b, K18⟩
  have hS1 := hS.stab (H.stab K18 (by simpa using hAc))
  obtain ⟨p, hrp, hpc⟩ := seek_form2 hS1 (c := geI v.W key < v.W.length) (geI v.W key) (fun h0 => h0)
  rw [hrp] at hr; subst hr
  have M := H.mb.keep K18 (by simpa using fun e => hne e.symm)
  have B1 := K18.blk (by simpa using fun e => hnb e.symm) H.b1
  have Kc := K18
  have KP := KeepP.newX KP K18 (fun y hy => .inl (hbad y (C.kc hv y hy).1))
  have O := O.keep K18 (C.kc hv)
  have hky2 := hkey0.stab (fun b hb => KP.2 b hb.2 hb.1)
  refine rA rfl rfl <| rN <| rG <| rM rfl rfl <| rs_v (v_peq u_p_keyspan_Span rfl rfl) rfl ?_
  refine rN ?_
  refine tr_if rfl (fun hif => ?_) (fun hif => ?_)
  · -- yes
    obtain ⟨rfl, hc0⟩ : p = none ∧ ¬ geI v.W key < v.W.length := by
      rcases hpc with e | ⟨b, o, x, rfl, _⟩
      · exact e
      · cases hif
    have hts := tS_none hc0
    have hI9 : LevI v (tS v.W key + 1) h18 := by rw [hts, show 2 * v.W.length + 1 = 2 * geI v.W key + 1 from by omega]; exact hI1
    refine tr_reg ?_
    refine rM rfl rfl <| rs_v (v_build1 rfl (bld_keyspan_boundKey_0 _)) rfl ?_
    refine rC rfl rfl <| rF fa_keyspan_mergingIterLevel_1 rfl rfl <| rs_w0 (w_store siz_keyspan_boundKey rfl rfl rfl rfl M.b2 (by rw [M.len]; omega)) ?_
    rintro _ h19 ⟨B9, K19⟩
    have M2 := M.setL (it := v.it) hlx (at_it _ _) B9
    have hI2 := hI9.keep K19 (by simpa using hne)
    have KP := KeepP.newX KP K19 (fun y hy => .inl (hbad y (C.kmi y hy).1))
    have O := O.keep K19 C.kmi
    have H := H.step hv (r := tS v.W key + 1) (by rw [hts, Lev.at0 (by unfold Lev.ok; omega)]; exact M2) hI2 (by have := tS_le v.W key; omega) ((Kc.sub (by simp)).trans (K19.sub (by simp)))
    refine rs_nil ?_
    refine q_blk_n ?_
    refine q_thn ?_
    refine tr_reg ?_
    refine rs_v (v_add rfl rfl (by omega) (by omega)) rfl ?_
    refine rM rfl rfl ?_
    refine rs_nil ?_
    refine q_lp (vs.length - (k + 1)) [(0, _), (1, _), (4, _), (19, _), (20, _)] (by omega) ⟨rfl, rfl, rfl, rfl, rfl, trivial⟩ ⟨k + 1, _, by omega, rfl, rfl, H.congr (fun j _ => rK_step (f := (fun W => tS W key + 1)) hv j), O, KP⟩
  -- no
  obtain ⟨b, o, x, rfl, hc0, hx, hsp, hAb, hcs, hr1, hr2⟩ : ∃ b o x, p = some ⟨b, o, none⟩ ∧ geI v.W key < v.W.length ∧ v.W[geI v.W key]? = some x ∧ v.sp (geI v.W key) = .pointer (some ⟨b, o, none⟩) ∧ A b ∧ CellsAt h18 b o [v.sv (geI v.W key), v.ev (geI v.W key), v.kv (geI v.W key), .int .i8 0] ∧ RBytes A h18 (v.sv (geI v.W key)) x.s ∧ RBytes A h18 (v.ev (geI v.W key)) x.e := by
    rcases hpc with ⟨rfl, _⟩ | e
    · cases hif
    · exact e
  obtain ⟨a9, n9, c9, e9⟩ := (hS.nn _ x hx).1
  obtain ⟨a8, n8, c8, e8⟩ := (hS.nn _ x hx).2
  have hxl := (List.getElem?_eq_some_iff.1 hx).1
  rw [e9, e8] at hcs
  rw [e9] at hr1
  rw [e8] at hr2
  refine rG <| rM rfl rfl <| rM rfl rfl <| rC rfl rfl <| rF fa_keyspan_Span_0 rfl rfl <| rs_v (v_load one_sl_uint8 rfl (by exact hcs 0 _ rfl)) rfl ?_
  refine rM rfl rfl <| rs_w (w_call (vs := [_, _, _]) ok_keyspan_MergingIter_cmp rfl ⟨rfl, rfl, rfl, trivial⟩ (c_mcmp2 M B1 (RBytes.by hr1) (RBytes.by hky2))) rfl ?_
  rintro _ h20 ⟨rfl, hsame⟩; have hsame := hsame.symm; subst hsame
  refine rs_v (v_ge rfl rfl) rfl ?_
  refine rN ?_
  refine tr_if rfl (fun hif => ?_) (fun hif => ?_)
  · -- yes
    have hle : slt x.s key = false := slt_no.2 (of_decide_eq_true hif)
    have hts := tS_ge hx
    rw [if_neg (by rw [hle]; decide)] at hts
    have hI9 : LevI v (tS v.W key + 1) h18 := by rw [hts]; exact hI1
    refine tr_reg ?_
    refine rM rfl rfl <| rM rfl rfl <| rC rfl rfl <| rF fa_keyspan_Span_0 rfl rfl <| rs_v (v_load one_sl_uint8 rfl (by exact hcs 0 _ rfl)) rfl ?_
    refine rM rfl rfl <| rs_v (v_build3 rfl rfl rfl (bld_keyspan_boundKey_0_1_2 _ _ _ _ _)) rfl ?_
    refine rC rfl rfl <| rF fa_keyspan_mergingIterLevel_1 rfl rfl <| rs_w0 (w_store siz_keyspan_boundKey rfl rfl rfl rfl M.b2 (by rw [M.len]; omega)) ?_
    rintro _ h21 ⟨B9, K21⟩
    have M2 := M.setL (it := v.it) hlx (at_it _ _) B9
    have hI2 := hI9.keep K21 (by simpa using hne)
    have KP := KeepP.newX KP K21 (fun y hy => .inl (hbad y (C.kmi y hy).1))
    have O := O.keep K21 C.kmi
    have H := H.step hv (r := tS v.W key + 1) (by rw [hts, Lev.at1 hxl, hsp, e9]; exact M2) hI2 (by have := tS_le v.W key; omega) ((Kc.sub (by simp)).trans (K21.sub (by simp)))
    refine rs_nil ?_
    refine q_blk_n ?_
    refine q_thn ?_
    refine tr_reg ?_
    refine rs_v (v_add rfl rfl (by omega) (by omega)) rfl ?_
    refine rM rfl rfl ?_
    refine rs_nil ?_
    refine q_lp (vs.length - (k + 1)) [(0, _), (1, _), (4, _), (19, _), (20, _)] (by omega) ⟨rfl, rfl, rfl, rfl, rfl, trivial⟩ ⟨k + 1, _, by omega, rfl, rfl, H.congr (fun j _ => rK_step (f := (fun W => tS W key + 1)) hv j), O, KP⟩
  -- no
  have hle : slt x.s key = true := slt_iff.2 (by have := of_decide_eq_false hif; omega)
  have hts := tS_ge hx
  rw [if_pos hle] at hts
  have hI9 : LevI v (tS v.W key + 1) h18 := by rw [hts]; exact hI1b hc0
  refine tr_reg ?_
  refine rM rfl rfl <| rM rfl rfl <| rC rfl rfl <| rF fa_keyspan_Span_1 rfl rfl <| rs_v (v_load one_sl_uint8 rfl (by exact hcs 1 _ rfl)) rfl ?_
  refine rM rfl rfl <| rs_v (v_build3 rfl rfl rfl (bld_keyspan_boundKey_0_1_2 _ _ _ _ _)) rfl ?_
  refine rC rfl rfl <| rF fa_keyspan_mergingIterLevel_1 rfl rfl <| rs_w0 (w_store siz_keyspan_boundKey rfl rfl rfl rfl M.b2 (by rw [M.len]; omega)) ?_
  rintro _ h22 ⟨B9, K22⟩
  have M2 := M.setL (it := v.it) hlx (at_it _ _) B9
  have hI2 := hI9.keep K22 (by simpa using hne)
  have KP := KeepP.newX KP K22 (fun y hy => .inl (hbad y (C.kmi y hy).1))
  have O := O.keep K22 C.kmi
  have H := H.step hv (r := tS v.W key + 1) (by rw [hts, show 2 * geI v.W key + 1 + 1 = 2 * geI v.W key + 2 from rfl, Lev.at2 hxl, hsp, e8]; exact M2) hI2 (by have := tS_le v.W key; omega) ((Kc.sub (by simp)).trans (K22.sub (by simp)))
  refine rs_nil ?_
  refine q_blk_n ?_
  refine q_thn ?_
  refine tr_reg ?_
  refine rs_v (v_add rfl rfl (by omega) (by omega)) rfl ?_
  refine rM rfl rfl ?_
  refine rs_nil ?_
  refine q_lp (vs.length - (k + 1)) [(0, _), (1, _), (4, _), (19, _), (20, _)] (by omega) ⟨rfl, rfl, rfl, rfl, rfl, trivial⟩ ⟨k + 1, _, by omega, rfl, rfl, H.congr (fun j _ => rK_step (f := (fun W => tS W key + 1)) hv j), O, KP⟩
set_option maxHeartbeats 1000000
def mrgW (vs : List Lev) (snap : Nat) (B : List ByteArray) : List SpanD := (sgM vs snap B).filterMap (covF (wsO vs))
def MIt (A : Nat → Prop) (bf mi sb : Nat) (vs : List Lev) (snap : Nat) (B : List ByteArray) : ItI := fun p F h => ∃ q, MQ A bf mi sb vs snap B q F h ∧ relP (covF (wsO vs)) (sgM vs snap B) p q
theorem covF_same {ws : List (List SpanD)} {s s' : SpanD} (h : covF ws s = some s') : s' = s := by
  unfold covF at h
  split at h
  · cases h; rfl
  · cases h
theorem cur_rel {ws : List (List SpanD)} {W : List SpanD} {p q : Pos} (h : relP (covF ws) W p q) (hp : p ≠ .nowhere) : cur (W.filterMap (covF ws)) p = cur W q := by
  cases p with
  | nowhere => exact absurd rfl hp
  | behind => cases q <;> first | rfl | exact h.elim
  | ahead => cases q <;> first | rfl | exact h.elim
  | pt j =>
    cases q with
    | pt i =>
      obtain ⟨s, s', h1, h2, rfl⟩ := h
      have := covF_same h2
      subst this
      show (W.filterMap (covF ws))[_]? = W[i]?
      rw [fm_at h1 h2, h1]
    | _ => exact h.elim
section
variable {A : Nat → Prop} {bf mi sb : Nat} {vs : List Lev} {snap : Nat} {B : List ByteArray} {F : Nat → Prop} {h h' : Heap} {p : Pos} {r : Value}
theorem itpost_of (P : MPost A bf mi sb vs snap B F h p r h') (hp : p ≠ .nowhere) : ItPost (mrgW vs snap B) (MIt A bf mi sb vs snap B) F h p r h' := by
  obtain ⟨q, Q, hr, KP, R⟩ := P
  refine ⟨FU F h h', ⟨q, Q, hr⟩, fun b hb => hb.imp id And.left, KP, ?_⟩
  unfold Ret at R ⊢
  unfold mrgW
  rw [cur_rel hr hp]; exact R
theorem itpost_nw (P : MPost A bf mi sb vs snap B F h p r h') (hp : p ≠ .nowhere) (hc : cur (mrgW vs snap B) p = none) : ItPost (mrgW vs snap B) (MIt A bf mi sb vs snap B) F h .nowhere r h' := by
  obtain ⟨q, Q, hr, KP, R⟩ := P
  refine ⟨FU F h h', ⟨q, Q, trivial⟩, fun b hb => hb.imp id And.left, KP, ?_⟩
  unfold Ret at R ⊢
  unfold mrgW at hc
  rw [cur_rel hr hp] at hc
  rw [hc] at R
  exact R
theorem fwdF_nn {k : Nat} {ff : SpanD → Option SpanD} {W : List SpanD} : fwdP ff W (posF B k) ≠ .nowhere := by
  unfold posF
  split
  · simp only [fwdP]; split <;> simp
  · simp [fwdP]
theorem bwdF_nn {k : Nat} {ff : SpanD → Option SpanD} {W : List SpanD} : bwdP ff W (posB k) ≠ .nowhere := by
  unfold posB
  split
  · simp [bwdP]
  · simp only [bwdP]; split <;> simp
theorem cur_nil {p : Pos} : cur [] p = none := by cases p <;> simp [cur]
theorem fm_nil {W : List SpanD} {ff : SpanD → Option SpanD} (h : W.length = 0) : W.filterMap ff = [] := by
  have : W = [] := List.eq_nil_of_length_eq_zero h
  subst this; rfl
theorem first_of (C : MC A bf mi sb vs B) (P : MPost A bf mi sb vs snap B F h (fwdP (covF (wsO vs)) (sgM vs snap B) (posF B 0)) r h') : ItPost (mrgW vs snap B) (MIt A bf mi sb vs snap B) F h (pFirst (mrgW vs snap B)) r h' := by
  rcases posF_first (kf := kfM vs snap) C.hB with e | e
  · rcases fwd_first (ff := covF (wsO vs)) (W := sgM vs snap B) with e2 | ⟨e2, e3⟩
    · have := itpost_of P fwdF_nn
      rw [← e, e2] at this; exact this
    · show ItPost _ _ _ _ (pFirst ((sgM vs snap B).filterMap (covF (wsO vs)))) _ _
      rw [e2]
      refine itpost_nw P fwdF_nn ?_
      rw [← e]; exact e3
  · have e2 : mrgW vs snap B = [] := fm_nil e
    have e3 : pFirst (mrgW vs snap B) = .nowhere := by rw [e2]; rfl
    rw [e3]
    exact itpost_nw P fwdF_nn (by rw [e2]; exact cur_nil)
theorem last_of (C : MC A bf mi sb vs B) (P : MPost A bf mi sb vs snap B F h (bwdP (covF (wsO vs)) (sgM vs snap B) (posB B.length)) r h') : ItPost (mrgW vs snap B) (MIt A bf mi sb vs snap B) F h (pLast (mrgW vs snap B)) r h' := by
  rcases posB_last (kf := kfM vs snap) (B := B) (ws := wsO vs) C.hB with e | e
  · rcases bwd_last (ff := covF (wsO vs)) (W := sgM vs snap B) with e2 | ⟨e2, e3⟩
    · have := itpost_of P bwdF_nn
      rw [← e, e2] at this; exact this
    · show ItPost _ _ _ _ (pLast ((sgM vs snap B).filterMap (covF (wsO vs)))) _ _
      rw [e2]
      refine itpost_nw P bwdF_nn ?_
      rw [← e]; exact e3
  · have e2 : mrgW vs snap B = [] := fm_nil e
    have e3 : pLast (mrgW vs snap B) = .nowhere := by rw [e2]; rfl
    rw [e3]
    exact itpost_nw P bwdF_nn (by rw [e2]; exact cur_nil)
theorem ge_pos {ws : List (List SpanD)} {W : List SpanD} {key : ByteArray} (hO : Tess.Ord W) (hS : Shrink (covF ws) W) : pGE (W.filterMap (covF ws)) key = fwdP (covF ws) W (pGE W key) := by
  have hs := seek_ge hO hS key
  cases hc : cur (W.filterMap (covF ws)) (fwdP (covF ws) W (pGE W key)) with
  | none => exact hs.1 hc
  | some s' =>
    rw [hs.2 s' hc]
    have hle : sle s'.e key = false := by
      unfold pGE at hc
      by_cases e : geI W key < W.length
      · rw [if_pos e] at hc
        simp only [fwdP] at hc
        by_cases e2 : (W.drop (geI W key)).filterMap (covF ws) = []
        · rw [if_pos e2] at hc; cases hc
        · rw [if_neg e2] at hc
          have h1 : (W.filterMap (covF ws))[((W.take (geI W key)).filterMap (covF ws)).length]? = some s' := hc
          rw [fm_split (geI W key), List.getElem?_append_right (Nat.le_refl _), Nat.sub_self] at h1
          obtain ⟨x, hx, hf⟩ := List.mem_filterMap.1 (List.mem_of_getElem? h1)
          have hxs := covF_same hf
          subst hxs
          obtain ⟨i, hi, ei⟩ := List.mem_iff_getElem.1 hx
          have hx2 : W[geI W key + i]? = some s' := by rw [← List.getElem?_drop, List.getElem?_eq_getElem hi, ei]
          obtain ⟨z, hz⟩ := ex_get (L := W) (k := geI W key) e
          exact not_sle.2 (slt_of_slt_sle (not_sle.1 (geI_at hz)) (hO.ends (by omega) hz hx2))
      · rw [if_neg e] at hc; cases hc
    rw [if_neg (by rw [hle]; decide)]
theorem lt_pos {ws : List (List SpanD)} {W : List SpanD} {key : ByteArray} (hO : Tess.Ord W) (hS : Shrink (covF ws) W) : pLT (W.filterMap (covF ws)) key = bwdP (covF ws) W (pLT W key) := by
  have hs := seek_lt hO hS key
  cases hc : cur (W.filterMap (covF ws)) (bwdP (covF ws) W (pLT W key)) with
  | none => exact hs.1 hc
  | some s' =>
    rw [hs.2 s' hc]
    have hle : slt s'.s key = true := by
      unfold pLT at hc
      by_cases e : ltI W key = 0
      · rw [if_pos e] at hc; cases hc
      · rw [if_neg e, bwd_pt, show ltI W key - 1 + 1 = ltI W key from by omega] at hc
        by_cases e2 : ((W.take (ltI W key)).filterMap (covF ws)).length = 0
        · rw [if_pos e2] at hc; cases hc
        · rw [if_neg e2] at hc
          have h1 : (W.filterMap (covF ws))[((W.take (ltI W key)).filterMap (covF ws)).length - 1]? = some s' := hc
          rw [fm_split (ltI W key), List.getElem?_append_left (by omega)] at h1
          obtain ⟨x, hx, hf⟩ := List.mem_filterMap.1 (List.mem_of_getElem? h1)
          have hxs := covF_same hf
          subst hxs
          obtain ⟨i, hi, ei⟩ := List.mem_iff_getElem.1 hx
          have hil : i < ltI W key := by simp at hi; omega
          have hx2 : W[i]? = some s' := by
            have : (W.take (ltI W key))[i]? = some s' := by rw [List.getElem?_eq_getElem hi, ei]
            rw [List.getElem?_take, if_pos hil] at this; exact this
          have hle := ltI_le W key
          obtain ⟨z, hz⟩ := ex_get (L := W) (k := ltI W key - 1) (by omega)
          exact slt_of_sle_slt (hO.starts (by omega) hx2 hz) (ltI_at e hz)
    rw [if_pos hle]
theorem MG.stabF {rs : Nat → Nat} {kv bv : Value} {rev : Bool} {hd tl : List Value} {L : List LvD} {q : List Nat} (H : MG A bf mi vs rs kv bv rev hd L q tl h) (hst : ∀ b, (A b ∨ b = bf ∨ b = mi ∨ ∃ v, v ∈ vs ∧ v.c = b) → h'[b]? = h[b]?) (hz : h.size ≤ h'.size) : MG A bf mi vs rs kv bv rev hd L q tl h' :=
  ⟨(hst bf (.inr (.inl rfl))).trans H.b1, ⟨(hst mi (.inr (.inr (.inl rfl)))).trans H.mb.b2, H.mb.hdl, H.mb.ll, H.mb.ql⟩, fun i v hv => by
    obtain ⟨h1, ⟨x, B, hX⟩, h3⟩ := H.lv i v hv
    exact ⟨h1, ⟨x, (hst v.c (.inr (.inr (.inr ⟨v, List.mem_of_getElem? hv, rfl⟩)))).trans B, hX⟩, h3⟩, fun v hv => by
    obtain ⟨h1, h2, h3, h4, h5⟩ := H.sv v hv
    exact ⟨h1.stab (fun b hb => hst b (.inl hb)), h2, h3, h4, Nat.lt_of_lt_of_le h5 hz⟩, H.dis, H.ne, H.low.mono hz, H.nA, H.vl⟩
theorem MQ.stab {q : Pos} (Q : MQ A bf mi sb vs snap B q F h) (hst : Stab F h h') (hz : h.size ≤ h'.size) : MQ A bf mi sb vs snap B q F h' := by
  obtain ⟨hb, hl, rs, rev, dir, qq, st, en, bv, ⟨s0, s1, s2, s3, kv, L, tl, lk, lb, H, o⟩, h2, h3, h4⟩ := Q
  obtain ⟨xs, O, hr, hbb⟩ := o.k
  refine ⟨hb, hl.mono hz, rs, rev, dir, qq, st, en, bv, ⟨s0, s1, s2, s3, kv, L, tl, lk, lb, H.stabF (fun b hx => hst b (hb b ?_)) hz, ⟨xs, Own.stabF O hst (fun b e => o.ok b (by rw [e]; simp)), hr, hbb⟩, ⟨Own.stabF o.b.1 hst (fun b e => o.ob b (by rw [e]; simp)), o.b.2⟩, (hst sb (hb sb (.inr (.inr (.inr (.inl rfl)))))).trans o.s, o.d, o.ok, o.ob, o.ll⟩, h2, h3, h4⟩
  rcases hx with h | h | h | h
  · exact .inl h
  · exact .inr (.inl h)
  · exact .inr (.inr (.inl h))
  · exact .inr (.inr (.inr (.inr h)))
end
theorem m_MiFirst (v : Value) : Meth Tryz.prog 166 v "First" 87 v := fun _ => by kernel_rfl
theorem m_MiLast (v : Value) : Meth Tryz.prog 166 v "Last" 177 v := fun _ => by kernel_rfl
theorem m_MiNext (v : Value) : Meth Tryz.prog 166 v "Next" 89 v := fun _ => by kernel_rfl
theorem m_MiPrev (v : Value) : Meth Tryz.prog 166 v "Prev" 178 v := fun _ => by kernel_rfl
theorem m_MiSeekGE (v : Value) : Meth Tryz.prog 166 v "SeekGE" 179 v := fun _ => by kernel_rfl
theorem m_MiSeekLT (v : Value) : Meth Tryz.prog 166 v "SeekLT" 180 v := fun _ => by kernel_rfl
theorem m_MiError (v : Value) : Meth Tryz.prog 166 v "Error" 176 v := fun _ => by kernel_rfl
section
variable {χ : Chi} {A : Nat → Prop} {bf mi sb : Nat} {vs : List Lev} {snap : Nat} {B : List ByteArray} {F : Nat → Prop} {h : Heap} {q : Pos}
theorem mnext (C : MC A bf mi sb vs B) (Q : MQ A bf mi sb vs snap B q F h) (hc : canNext q = true) : Cl Tryz.prog χ 89 #[.pointer (some ⟨mi, 0, none⟩)] h (MPost A bf mi sb vs snap B F h (fwdP (covF (wsO vs)) (sgM vs snap B) (pNext (sgM vs snap B) q))) ∧ fwdP (covF (wsO vs)) (sgM vs snap B) (pNext (sgM vs snap B) q) ≠ .nowhere := by
  obtain ⟨hb, hl, rs, rev, dir, qq, st, en, bv, X, h2, h3, h4⟩ := Q
  cases q with
  | pt j =>
    rw [posF_next]
    refine ⟨?_, fwdF_nn⟩
    obtain ⟨hj, hn1, hn2, ⟨rfl, rfl, hr⟩ | ⟨rfl, rfl, hr⟩⟩ := h4
    · exact c_MNext1 (rev := false) C hb hl X h2 h3 (by omega) (fn_next C.hB (by omega) hr) hn1 hn2
    · exact c_MNext2 C hb hl X (fun i v hv => by rw [hr i _ (wsO_at hv)]; exact cE_le _ _) (by omega) (fn_next C.hB (by omega) (fun i W hW => by show rs i + 1 = _; rw [hr i W hW]))
  | ahead =>
    rw [posF_ahead]
    refine ⟨?_, fwdF_nn⟩
    obtain ⟨rfl, rfl, hr⟩ := h4
    exact c_MNext2 C hb hl X (fun i v hv => by rw [hr i _ (wsO_at hv)]; omega) (Nat.zero_le _) (fn_cut C.hB (p := fun _ => false) (fun _ _ _ e => e) (cut_none B) (fun i W hW => by show rs i + 1 = _; rw [hr i W hW, cut_none_cnt C.hB (p := fun _ => false) (fun _ _ _ e => e) (List.mem_of_getElem? hW) (cut_none B)]))
  | behind => cases hc
  | nowhere => cases hc
theorem mprev (C : MC A bf mi sb vs B) (Q : MQ A bf mi sb vs snap B q F h) (hc : canPrev q = true) : Cl Tryz.prog χ 178 #[.pointer (some ⟨mi, 0, none⟩)] h (MPost A bf mi sb vs snap B F h (bwdP (covF (wsO vs)) (sgM vs snap B) (pPrev (sgM vs snap B) q))) ∧ bwdP (covF (wsO vs)) (sgM vs snap B) (pPrev (sgM vs snap B) q) ≠ .nowhere := by
  obtain ⟨hb, hl, rs, rev, dir, qq, st, en, bv, X, h2, h3, h4⟩ := Q
  cases q with
  | pt j =>
    rw [posB_prev]
    refine ⟨?_, bwdF_nn⟩
    obtain ⟨hj, hn1, hn2, ⟨rfl, rfl, hr⟩ | ⟨rfl, rfl, hr⟩⟩ := h4
    · exact c_MPrev2 C hb hl X (fun i v hv => by rw [hr i _ (wsO_at hv)]; omega) (by omega) (fp_cut C.hB (down_le _) (cut_le C.hB (by omega)) (fun i W hW => by show rs i - 1 = _; rw [hr i W hW]; rfl))
    · exact c_MPrev1 (rev := true) C hb hl X h2 h3 (by omega) (fp_cut C.hB (down_le _) (cut_le C.hB (by omega)) hr) hn1 hn2
  | behind =>
    rw [posB_behind]
    refine ⟨?_, bwdF_nn⟩
    obtain ⟨rfl, rfl, hr⟩ := h4
    exact c_MPrev2 C hb hl X (fun i v hv => by rw [hr i _ (wsO_at hv)]; omega) (Nat.le_refl _) (fp_cut C.hB (p := fun _ => true) (fun _ _ _ e => e) (cut_all B) (fun i W hW => by show rs i - 1 = _; rw [hr i W hW, cut_all_cnt C.hB (p := fun _ => true) (fun _ _ _ e => e) (List.mem_of_getElem? hW) (cut_all B)]; rfl))
  | ahead => cases hc
  | nowhere => cases hc
theorem mi_ok (χ : Chi) {snap : Nat} (C : MC A bf mi sb vs B) : IterOK Tryz.prog χ (mrgW vs snap B) 166 (.pointer (some ⟨mi, 0, none⟩)) (MIt A bf mi sb vs snap B) where
  low := fun ⟨q, Q, _⟩ => Q.2.1
  stab := fun ⟨q, Q, hr⟩ hs hz => ⟨q, Q.stab hs hz, hr⟩
  first := fun ⟨q, Q, _⟩ => by
    obtain ⟨hb, hl, rs, rev, dir, qq, st, en, bv, X, _⟩ := Q
    exact ⟨_, _, ok_keyspan_MergingIter_First, m_MiFirst _, (c_MFirst C hb hl X).mono fun r h' P => first_of C P⟩
  last := fun ⟨q, Q, _⟩ => by
    obtain ⟨hb, hl, rs, rev, dir, qq, st, en, bv, X, _⟩ := Q
    exact ⟨_, _, ok_keyspan_MergingIter_Last, m_MiLast _, (c_MLast C hb hl X).mono fun r h' P => last_of C P⟩
  next := fun ⟨q, Q, hr⟩ hc => by
    obtain ⟨h1, h2⟩ := fwd_next hr hc
    obtain ⟨h3, h4⟩ := mnext (χ := χ) C Q h1
    exact ⟨_, _, ok_keyspan_MergingIter_Next, m_MiNext _, h3.mono fun r h' P => by
      have := itpost_of P h4
      rw [h2] at this; exact this⟩
  prev := fun ⟨q, Q, hr⟩ hc => by
    obtain ⟨h1, h2⟩ := bwd_prev hr hc
    obtain ⟨h3, h4⟩ := mprev (χ := χ) C Q h1
    exact ⟨_, _, ok_keyspan_MergingIter_Prev, m_MiPrev _, h3.mono fun r h' P => by
      have := itpost_of P h4
      rw [h2] at this; exact this⟩
  ge := fun {p F h kv key} ⟨q, Q, _⟩ hk => by
    obtain ⟨hb, hl, rs, rev, dir, qq, st, en, bv, X, _⟩ := Q
    refine ⟨_, _, ok_keyspan_MergingIter_SeekGE, m_MiSeekGE _, (c_MSeekGE C hb hl X hk).mono fun r h' P => ?_⟩
    have e : pGE (mrgW vs snap B) key = fwdP (covF (wsO vs)) (sgM vs snap B) (pGE (sgM vs snap B) key) := ge_pos (segs_ord C.hB) (cov_shrink C.hB)
    rw [e]
    refine itpost_of P ?_
    unfold pGE
    split
    · simp only [fwdP]; split <;> simp
    · simp [fwdP]
  lt := fun {p F h kv key} ⟨q, Q, _⟩ hk => by
    obtain ⟨hb, hl, rs, rev, dir, qq, st, en, bv, X, _⟩ := Q
    refine ⟨_, _, ok_keyspan_MergingIter_SeekLT, m_MiSeekLT _, (c_MSeekLT C hb hl X hk).mono fun r h' P => ?_⟩
    have e : pLT (mrgW vs snap B) key = bwdP (covF (wsO vs)) (sgM vs snap B) (pLT (sgM vs snap B) key) := lt_pos (segs_ord C.hB) (cov_shrink C.hB)
    rw [e]
    refine itpost_of P ?_
    unfold pLT
    split
    · simp [bwdP]
    · simp only [bwdP]; split <;> simp
  err := fun ⟨q, Q, _⟩ => by
    obtain ⟨hb, hl, rs, rev, dir, qq, st, en, bv, ⟨s0, s1, s2, s3, kv, L, tl, lk, lb, H, o⟩, h2, h3, h4⟩ := Q
    refine ⟨_, _, ok_keyspan_MergingIter_Error, m_MiError _, ?_⟩
    have hq := q_lt h2
    cases qq with
    | nil => exact c_mErr0 (q := []) H hq
    | cons x q2 => exact c_mErr1 (q := q2) H hq
end
set_option maxHeartbeats 1000000
def RBN (A : Nat → Prop) (h : Heap) (v : Value) (s : ByteArray) : Prop := RBytes A h v s ∧ NN v
def PSpanN (A : Nat → Prop) (h : Heap) (b o : Nat) (s : SpanD) : Prop := ∃ sv ev kv, CellsAt h b o [sv, ev, kv, .int .i8 0] ∧ RBN A h sv s.s ∧ RBN A h ev s.e ∧ PKeys A h kv s.ks
def PSpansN (A : Nat → Prop) (h : Heap) (v : Value) (l : List SpanD) : Prop := SlR h A 4 (PSpanN A) v l
def cPSpanN (A : Nat → Prop) (h : Heap) (c : List Value) (s : SpanD) : Prop := ∃ sv ev kv, c = [sv, ev, kv, .int .i8 0] ∧ RBN A h sv s.s ∧ RBN A h ev s.e ∧ PKeys A h kv s.ks
theorem cPSpanN_st : RStab cPSpanN := ⟨fun _ _ _ _ _ s ⟨a, b, c, e, h1, h2, h3⟩ => ⟨a, b, c, e, ⟨h1.1.stab s, h1.2⟩, ⟨h2.1.stab s, h2.2⟩, h3.stab s⟩, fun _ _ _ _ _ s ⟨a, b, c, e, h1, h2, h3⟩ => ⟨a, b, c, e, ⟨h1.1.mono s, h1.2⟩, ⟨h2.1.mono s, h2.2⟩, h3.mono s⟩⟩
theorem cPSpanN_r (F : Nat → Prop) (h : Heap) (b o : Nat) (c : List Value) (a : SpanD) (hc : CellsAt h b o c) (hr : cPSpanN F h c a) : PSpanN F h b o a := by obtain ⟨x, y, z, rfl, h1, h2, h3⟩ := hr; exact ⟨x, y, z, hc, h1, h2, h3⟩
theorem PSpanN.p {A : Nat → Prop} {h : Heap} {b o : Nat} {s : SpanD} (H : PSpanN A h b o s) : PSpan A h b o s := by
  obtain ⟨sv, ev, kv, hc, h1, h2, h3⟩ := H
  exact ⟨sv, ev, kv, 0, hc, h1.1, h2.1, h3⟩
theorem PSpanN.stab {A : Nat → Prop} {h h' : Heap} {b o : Nat} {s : SpanD} (hb : A b) (H : PSpanN A h b o s) (k : Stab A h h') : PSpanN A h' b o s := by
  obtain ⟨sv, ev, kv, hc, h1, h2, h3⟩ := H
  exact ⟨sv, ev, kv, k.cells hb hc, ⟨h1.1.stab k, h1.2⟩, ⟨h2.1.stab k, h2.2⟩, h3.stab k⟩
theorem PSpanN.mono {A A' : Nat → Prop} {h : Heap} {b o : Nat} {s : SpanD} (H : PSpanN A h b o s) (k : ∀ b, A b → A' b) : PSpanN A' h b o s := by
  obtain ⟨sv, ev, kv, hc, h1, h2, h3⟩ := H
  exact ⟨sv, ev, kv, hc, ⟨h1.1.mono k, h1.2⟩, ⟨h2.1.mono k, h2.2⟩, h3.mono k⟩
theorem PSpansN.stab {A : Nat → Prop} {h h' : Heap} {v : Value} {l : List SpanD} (H : PSpansN A h v l) (k : Stab A h h') : PSpansN A h' v l := SlR.stab H fun _ _ _ hb hc => hc.stab hb k
theorem PSpansN.mono {A A' : Nat → Prop} {h : Heap} {v : Value} {l : List SpanD} (H : PSpansN A h v l) (k : ∀ b, A b → A' b) : PSpansN A' h v l := SlR.mono H k fun _ _ _ _ hc => hc.mono k
theorem PSpansN.p {A : Nat → Prop} {h : Heap} {v : Value} {l : List SpanD} (H : PSpansN A h v l) : PSpans A h v l := SlR.mono H (fun _ hb => hb) fun _ _ _ _ hc => hc.p
theorem c_spanN (χ : Chi) (h : Heap) (A : Nat → Prop) (hA : Low A h) (s : SpanD) (kv : Value) (hks : RKeys A h kv s.ks) (hm : SpanD.small s) :
    Cl Tryz.prog χ 67 #[.agg #[.string s.s, .string s.e, kv]] h
      (fun r h' => (∃ sv ev kv', r = .agg #[sv, ev, kv', .int .i8 0] ∧ RBN (Up N0 h h') h' sv s.s ∧ RBN (Up N0 h h') h' ev s.e ∧ PKeys (Up N0 h h') h' kv' s.ks) ∧ Keep [] h h') := by
  obtain ⟨ka, kc, rfl⟩ := hks.form2
  refine cl_intro Tryz.func67 rfl rfl rfl ?_
  have K : Keep [] h h := Keep.refl _ _
  refine rG <| rs_w (w_newbox rfl) rfl ?_
  rintro _ h1 ⟨rfl, B1, K1, Z1⟩
  have S1 := K.1; have K := K.new0 K1
  refine rs_w (w_new zero_keyspan_Span) rfl ?_
  rintro _ h2 ⟨rfl, B2, K2, Z2⟩
  have B1 := K2.blk (by simp) B1
  have S2 := K.1; have K := K.new0 K2
  refine rN ?_
  refine tr_seq ?_
  have S0 : h.size ≤ h2.size := K.1
  have hA2 := hA.mono S0
  refine tr_draw [(true, 10), (false, 1)] _ (by kernel_rfl) (by kernel_rfl) (by kernel_rfl) ?_
  refine rx_any (Keep []) (keep_pre _) ?_
  refine rm_v (keep_pre _) (fun h' hk => v_fieldAddr fa_impl_Span_0 rfl) ?_
  refine rm_v (keep_pre _) (fun h' hk => v_load one_string rfl (Blk.cell (hk.blk (by simp) B1) _ rfl)) ?_
  refine rm_w (fun v h' => RBN (Up N0 h2 h') h' v s.s) (fun v _ _ k1 k2 hr => ⟨upb (n0low _) k1.1 hr.1 k2, hr.2⟩) (fun h' hk => OpW.mono (w_bytes u_string u_sl_uint8 u_uint8 rfl hm.1) (fun v h'' hv => by
    obtain ⟨c, e, K', r⟩ := hv
    exact ⟨K', r.mono (fun b hb => .inr ⟨by have := hk.1; omega, hb.2⟩), ⟨_, _, _, e⟩⟩)) ?_
  refine rm_v (keep_pre _) (fun h' hk => v_fieldAddr fa_impl_Span_1 rfl) ?_
  refine rm_v (keep_pre _) (fun h' hk => v_load one_string rfl (Blk.cell (hk.blk (by simp) B1) _ rfl)) ?_
  refine rm_w (fun v h' => RBN (Up N0 h2 h') h' v s.e) (fun v _ _ k1 k2 hr => ⟨upb (n0low _) k1.1 hr.1 k2, hr.2⟩) (fun h' hk => OpW.mono (w_bytes u_string u_sl_uint8 u_uint8 rfl hm.2.1) (fun v h'' hv => by
    obtain ⟨c, e, K', r⟩ := hv
    exact ⟨K', r.mono (fun b hb => .inr ⟨by have := hk.1; omega, hb.2⟩), ⟨_, _, _, e⟩⟩)) ?_
  refine rm_v (keep_pre _) (fun h' hk => v_fieldAddr fa_impl_Span_2 rfl) ?_
  refine rm_v (keep_pre _) (fun h' hk => v_load one_sl_impl_SpanKey rfl (Blk.cell (hk.blk (by simp) B1) _ rfl)) ?_
  refine rm_w (fun v h' => PKeys (Up N0 h2 h') h' v s.ks) (fun v _ _ k1 k2 hr => upp (n0low _) k1.1 hr k2) (fun h' hk => OpW.mono (w_call (vs := [_]) ok_impl_spanKeys rfl ⟨rfl, trivial⟩ (c_spanKeys χ h' A (hA.mono (K.new0 hk).1) _ s.ks (hks.stab ((K.new0 hk).st hA)) hm.2.2.1 hm.2.2.2)) (fun v h'' hv => ⟨hv.2, hv.1.mono (Up.trans2 hk.1 (Nat.le_refl _))⟩)) ?_
  refine rm_o3 5 8 11 (fun v h' => ∃ sv ev kv', v = .agg #[sv, ev, kv', .int .i8 0] ∧ RBN (Up N0 h2 h') h' sv s.s ∧ RBN (Up N0 h2 h') h' ev s.e ∧ PKeys (Up N0 h2 h') h' kv' s.ks) rfl rfl rfl rfl rfl rfl (by kernel_rfl) (by kernel_rfl) (by kernel_rfl)
    (fun v _ _ k1 k2 hr => by obtain ⟨a, b, c, e, r1, r2, r3⟩ := hr; exact ⟨a, b, c, e, ⟨upb (n0low _) k1.1 r1.1 k2, r1.2⟩, ⟨upb (n0low _) k1.1 r2.1 k2, r2.2⟩, upp (n0low _) k1.1 r3 k2⟩)
    (fun u u2 u3 h' hk hu hu2 hu3 => by
      obtain ⟨a1, n1, c1, rfl⟩ := hu.1.form2
      obtain ⟨a2, n2, c2, rfl⟩ := hu2.1.form2
      obtain ⟨a3, n3, c3, rfl⟩ := hu3.form2
      exact (v_build3 rfl rfl rfl (bld_keyspan_Span_0_1_2 _ _ _ _ _ _ _ _ _)).w.mono (fun _ _ e => by obtain ⟨e1, e2⟩ := e; subst e1; subst e2; exact ⟨Keep.refl _ _, _, _, _, rfl, hu, hu2, hu3⟩)) ?_
  refine rm_end ?_; intro ha Ka; simp only [endM, hypF, ofE, argE, List.nil_append]
  intro v12 hv12 v11 _ v8 _ v5 _
  obtain ⟨sv, ev, kv', rfl, r1, r2, r3⟩ := hv12
  obtain ⟨a1, n1, c1, rfl⟩ := r1.1.form2
  obtain ⟨a2, n2, c2, rfl⟩ := r2.1.form2
  obtain ⟨a3, n3, c3, rfl⟩ := r3.form2
  have B2 := Ka.blk (by simp) B2
  have K := K.new0 Ka; have Za := Ka.1
  refine rx_seq ?_
  refine rs_w0 (w_put siz_keyspan_Span rfl rfl rfl rfl B2 rfl) ?_
  rintro _ h3 ⟨B3, K3⟩
  have K := K.new1 K3 (.inr (by omega))
  refine rs_nil ?_
  refine q_con ?_
  refine rx_nil ?_
  refine q_thn ?_
  refine tr_ret <| q_ret (res_cell (vs := [_, _, _, _]) rfl rfl many_keyspan_Span (by exact B3.sub 0 4 rfl)) ?_
  have hs := stab_skip (n0low h) S0 Za K3 (by omega) (by omega)
  exact ⟨⟨_, _, _, rfl, ⟨(r1.1.stab hs).mono (Up.trans2 S0 K3.1), r1.2⟩, ⟨(r2.1.stab hs).mono (Up.trans2 S0 K3.1), r2.2⟩, (r3.stab hs).mono (Up.trans2 S0 K3.1)⟩, K⟩
theorem c_spansN (χ : Chi) (h : Heap) (A : Nat → Prop) (hA : Low A h) (v : Value) (W : List SpanD) (hW : RSpans A h v W) (hn : W.length ≤ 100000) (hm : ∀ s, s ∈ W → SpanD.small s) :
    Cl Tryz.prog χ 65 #[v] h (fun r h' => PSpansN (Up N0 h h') h' r W ∧ Keep [] h h') := by
  obtain ⟨hlen, a, c, rfl, hx⟩ := hW.form
  refine cl_intro Tryz.func65 rfl rfl rfl ?_
  have K : Keep [] h h := Keep.refl _ _
  refine rG <| rA rfl rfl <| rN <| rG <| rA rfl rfl <| rN ?_
  refine tr_seq ?_
  refine rG <| rM rfl rfl <| rs_v (v_len u_sl_impl_Span rfl) rfl ?_
  refine rM rfl rfl <| rN <| tr_block ?_
  refine tr_loop (fun m E h' => ∃ k v n, k ≤ W.length ∧ m = W.length - k ∧ E = [(3, v), (6, .slice a W.length c), (7, .int .i64 (W.length : Int)), (8, .int .i64 (k : Int))] ∧ Keep [] h h' ∧ n = (W.take k).length ∧ OutR N0 h h' h.size 89 4 cPSpanN v n (W.take k)) W.length [(3, _), (6, _), (7, _), (8, _)] ⟨rfl, rfl, rfl, rfl, trivial⟩ ⟨0, _, 0, Nat.zero_le _, rfl, rfl, K, rfl, OutR.nil _ _ _ _ _ _ _⟩ ?_
  rintro m E hL1 ⟨k, v, n, hk, rfl, rfl, K, hn, hout⟩
  have hout0 := hout
  obtain ⟨xs, F, O, hrow, hF⟩ := hout
  have hob := own_ne O; have KL := Keep.refl [] hL1
  refine rG <| rs_v (v_lt rfl rfl) rfl ?_
  refine rN ?_
  refine tr_seq ?_
  refine tr_ifn rfl (fun hif => ?_) (fun hif => ?_)
  · -- no
    simp only [dT, dF] at hif
    have hkk : k = W.length := by omega
    subst hkk
    refine tr_exit <| q_thn_exit ?_
    refine q_lp_exit ?_
    refine q_blk_hit ?_
    refine q_thn ?_
    refine rG <| rM rfl rfl <| rA rfl rfl <| rN <| tr_ret <| q_ret (res_tmp rfl rfl) ?_
    rw [List.take_length] at hout0 hn
    exact ⟨hout0.fin cPSpanN_st hn (Nat.le_refl _) cPSpanN_r, K⟩
  -- yes
  simp only [dT, dF] at hif
  rcases hx with rfl | ⟨b, o, rfl, hAb, hR⟩
  · simp at hif; omega
  obtain ⟨x, hsk⟩ := ex_get (L := W) (k := k) (by omega)
  have hkl : k < W.length := (List.getElem?_eq_some_iff.1 hsk).1
  have KL0 := K.1
  obtain ⟨kv, hcc, hkx⟩ := hR k x hsk
  obtain ⟨ka, kc, rfl⟩ := hkx.form2
  have hcells := K.cells (by simp) hcc
  have hnk : n = k := by rw [hn, List.length_take]; omega
  refine tr_skip ?_
  refine q_thn ?_
  refine tr_seq ?_
  refine tr_block <| rG <| rs_v (v_indexAddrN u_sl_impl_Span siz_impl_Span rfl rfl (by omega)) rfl ?_
  refine rs_v (v_loadAgg (vs := [_, _, _]) many_impl_Span rfl (by exact hcells)) rfl ?_
  refine rs_w (w_new zero_impl_Span) rfl ?_
  rintro _ h2 ⟨rfl, B2, K2, Z2⟩
  have O := O.keep2 K2 (fun x hm => by have := hob x hm; simp; try omega)
  have S2 := K.1; have K := K.new0 K2; have KL := KL.new0 K2
  refine rs_w0 (w_put siz_impl_Span rfl rfl rfl rfl B2 rfl) ?_
  rintro _ h3 ⟨B3, K3⟩
  have O := O.keep2 K3 (fun x hm => by have := hob x hm; simp; try omega)
  have B2 := B3; have K := K.new1 K3 (by first | (right; omega) | (left; simp; done)); have Z3 := K3.1; have KL := KL.new1 K3 (.inr (by omega))
  refine rN ?_
  refine tr_reg ?_
  refine rM rfl rfl <| rs_v (v_loadAgg (vs := [_, _, _]) many_impl_Span rfl (by exact B2.sub _ 3 rfl)) rfl ?_
  refine rs_w (w_call (vs := [_]) ok_impl_Span_span rfl ⟨rfl, trivial⟩ (c_spanN χ _ A (hA.mono (by omega)) x _ (hkx.stab (K.st hA)) (hm x (List.mem_of_getElem? hsk)))) rfl ?_
  rintro _ h4 ⟨⟨sv, ev, kv4, rfl, r1, r2, r3⟩, K4⟩
  obtain ⟨a1, n1, c1, rfl⟩ := r1.1.form2
  obtain ⟨a2, n2, c2, rfl⟩ := r2.1.form2
  obtain ⟨a3, n3, c3, rfl⟩ := r3.form2
  have B2 := K4.blk (by simp) B2
  have O := O.keep2 K4 (fun x hm => by have := hob x hm; simp; try omega)
  have K := K.new0 K4; have Z4 := K4.1; have KL := KL.new0 K4
  refine rs_w (w_new1 u_sl_keyspan_Span siz_keyspan_Span zero_keyspan_Span rfl rfl rfl rfl rfl) rfl ?_
  rintro _ h5 ⟨rfl, B5, K5, Z5⟩
  have B2 := K5.blk (by simp) B2
  have O := O.keep2 K5 (fun x hm => by have := hob x hm; simp; try omega)
  have S5 := K.1; have K := K.new0 K5; have KL := KL.new0 K5
  refine rs_w (w_app1 u_sl_keyspan_Span info_keyspan_Span rfl rfl rfl O rfl rfl B5 rfl (by omega) (by omega) (by omega)) rfl ?_
  rintro v6 h6 ⟨O6, K6, N6, F6⟩
  have K := K.newX K6 (fun x hm => .inr (by have := hob x hm; omega)); have Z6 := K6.1
  have B2 := K6.blk (fun hm => by first | (have := hob _ hm; omega) | exact absurd rfl (hnb _ hm)) B2
  have B5 := K6.blk (fun hm => by first | (have := hob _ hm; omega) | exact absurd rfl (hnb _ hm)) B5
  refine rA rfl rfl ?_
  refine rs_nil ?_
  refine q_blk_n ?_
  refine q_thn ?_
  refine tr_reg ?_
  refine rs_v (v_add rfl rfl (by omega) (by omega)) rfl ?_
  refine rM rfl rfl ?_
  refine rs_nil ?_
  refine q_lp (W.length - (k + 1)) [(3, _), (6, _), (7, _), (8, _)] (by omega) ⟨rfl, rfl, rfl, rfl, trivial⟩ ⟨k + 1, v6, n + 1, by omega, rfl, rfl, K, ?_, ?_⟩
  · rw [take_snoc' hsk]; rw [List.length_append, ← hn]; rfl
  · rw [take_snoc' hsk]
    exact OutR.snoc cPSpanN_st (n0low h) (by omega) hob hrow hF KL0 KL O6 K6 F6 rfl (⟨_, _, _, rfl, ⟨(r1.1.stab (K5.st ((n0low _).up K4.1))).mono (Up.trans2 (by omega) K5.1), r1.2⟩, ⟨(r2.1.stab (K5.st ((n0low _).up K4.1))).mono (Up.trans2 (by omega) K5.1), r2.2⟩, (r3.stab (K5.st ((n0low _).up K4.1))).mono (Up.trans2 (by omega) K5.1)⟩)
set_option maxHeartbeats 1000000
theorem cells_app {h : Heap} {b o : Nat} {xs ys : List Value} (h1 : CellsAt h b o xs) (h2 : CellsAt h b (o + xs.length) ys) : CellsAt h b o (xs ++ ys) := fun j v hj => by
  by_cases e : j < xs.length
  · rw [List.getElem?_append_left e] at hj; exact h1 j v hj
  · rw [List.getElem?_append_right (by omega)] at hj
    have := h2 _ v hj
    rw [show o + xs.length + (j - xs.length) = o + j from by omega] at this
    exact this
theorem cells_flat {h : Heap} {b : Nat} : ∀ (l : List KT) (o : Nat), (∀ (i : Nat) y, l[i]? = some y → CellsAt h b (o + i * 3) y.cells) → CellsAt h b o ((l.map KT.cells).flatten)
  | [], o, _ => CellsAt.nil _ _ _
  | y :: l, o, hx => by
    rw [List.map_cons, List.flatten_cons]
    refine cells_app (by have := hx 0 y rfl; simpa using this) ?_
    refine cells_flat l _ fun i z hz => ?_
    have := hx (i + 1) z (by simpa using hz)
    rw [show o + (i + 1) * 3 = o + y.cells.length + i * 3 from by show o + (i + 1) * 3 = o + 3 + i * 3; omega] at this
    exact this
theorem keys_kt {A : Nat → Prop} {h : Heap} {kv : Value} {ks : List KeyD} (hK : PKeys A h kv ks) : ∃ l, KTR A h kv l ∧ l.map KT.k = ks := by
  obtain ⟨hl, a, c, e, hx⟩ := hK.form
  have hf : ∀ i : Nat, ∃ y : KT, ∀ b o k, a = some ⟨b, o, none⟩ → ks[i]? = some k → y.k = k ∧ CellsAt h b (o + i * 3) y.cells ∧ RBytes A h (.slice y.a1 y.n1 y.c1) y.k.suf ∧ RBytes A h (.slice y.a2 y.n2 y.c2) y.k.val := fun i => by
    rcases hx with e2 | ⟨b, o, ea, hA, hR⟩
    · exact ⟨default, fun b o k _ hk => (by rw [e2] at hk; cases hk)⟩
    · cases hk : ks[i]? with
      | none => exact ⟨default, fun b o k _ hk2 => by cases hk2⟩
      | some k =>
        obtain ⟨sv, vv, hc, h1, h2⟩ := hR i k hk
        obtain ⟨a1, c1, rfl⟩ := SlR.form2 h1
        obtain ⟨a2, c2, rfl⟩ := SlR.form2 h2
        exact ⟨⟨k, a1, _, c1, a2, _, c2⟩, fun b2 o2 k2 e1 e2 => (by rw [ea] at e1; cases e1; cases e2; exact ⟨rfl, hc, h1, h2⟩)⟩
  obtain ⟨f, hf⟩ := Classical.axiomOfChoice hf
  rcases hx with e2 | ⟨b, o, ea, hA, hR⟩
  · subst e2
    exact ⟨[], ⟨a, c, e, .inl rfl, fun y hy => by cases hy⟩, rfl⟩
  · have hmap : ((List.range ks.length).map f).map KT.k = ks := by
      apply List.ext_getElem?
      intro i
      rw [List.getElem?_map, List.getElem?_map]
      by_cases hi : i < ks.length
      · rw [List.getElem?_range hi, List.getElem?_eq_getElem hi]
        simp only [Option.map_some]
        rw [(hf i b o ks[i] ea (List.getElem?_eq_getElem hi)).1]
      · rw [List.getElem?_eq_none (l := ks) (by omega), List.getElem?_eq_none (l := List.range ks.length) (by rw [List.length_range]; omega)]; rfl
    refine ⟨(List.range ks.length).map f, ⟨a, c, by simpa using e, .inr ⟨b, o, ea, hA, cells_flat _ _ fun i y hy => ?_⟩, fun y hy => ?_⟩, hmap⟩
    · rw [List.getElem?_map] at hy
      by_cases hi : i < ks.length
      · rw [List.getElem?_range hi] at hy; cases hy
        exact (hf i b o ks[i] ea (List.getElem?_eq_getElem hi)).2.1
      · rw [List.getElem?_eq_none (l := List.range ks.length) (by rw [List.length_range]; omega)] at hy; cases hy
    · obtain ⟨i, hi, rfl⟩ := List.mem_map.1 hy
      have hi := List.mem_range.1 hi
      exact (hf i b o ks[i] ea (List.getElem?_eq_getElem hi)).2.2
def WOK (W : List SpanD) : Prop := W.length ≤ 1000 ∧ Tess.Ord W ∧ ∀ s, s ∈ W → s.ks.length ≤ 10000 ∧ ∀ k, k ∈ s.ks → 0 ≤ k.tr ∧ k.tr < 18446744073709551616
theorem mk_lev {A : Nat → Prop} {h : Heap} {a : Option Addr} {cc : Nat} {W : List SpanD} (hP : PSpansN A h (.slice a W.length cc) W) (hW : WOK W) (c : Nat) :
    ∃ v : Lev, v.W = W ∧ v.a = a ∧ v.cc = cc ∧ v.c = c ∧ LevS A v h ∧ (∀ s, (v.kt s).length ≤ 10000) ∧ (∀ (s : Nat) y, y ∈ v.kt s → 0 ≤ y.k.tr ∧ y.k.tr < 18446744073709551616) := by
  have hP0 := hP
  obtain ⟨hl, a', c', e, hx⟩ := hP
  cases e
  have hf : ∀ i : Nat, ∃ y : Value × Value × Value × List KT, (∀ x, W[i]? = some x → (∃ b o, a = some ⟨b, o, none⟩ ∧ A b ∧ CellsAt h b (o + i * 4) [y.1, y.2.1, y.2.2.1, .int .i8 0] ∧ RBytes A h y.1 x.s ∧ RBytes A h y.2.1 x.e ∧ PKeys A h y.2.2.1 x.ks) ∧ (KTR A h y.2.2.1 y.2.2.2 ∧ y.2.2.2.map KT.k = x.ks) ∧ NN y.1 ∧ NN y.2.1) ∧ (W[i]? = none → y.2.2.2 = []) := fun i => by
    cases hi : W[i]? with
    | none => exact ⟨⟨.nilIface, .nilIface, .nilIface, []⟩, fun x hx => (by cases hx), fun _ => rfl⟩
    | some x =>
      obtain ⟨b, o, ea, hA, sv, ev, kv, hc, h1, h2, h3⟩ := hx i x hi
      obtain ⟨l, hl1, hl2⟩ := keys_kt h3
      exact ⟨⟨sv, ev, kv, l⟩, fun y hy => (by cases hy; exact ⟨⟨b, o, ea, hA, hc, h1.1, h2.1, h3⟩, ⟨hl1, hl2⟩, h1.2, h2.2⟩), fun e => (by cases e)⟩
  obtain ⟨f, hf⟩ := Classical.axiomOfChoice hf
  have hkt : ∀ (s : Nat) y, y ∈ (f s).2.2.2 → ∃ x, W[s]? = some x ∧ y.k ∈ x.ks := fun s y hy => by
    cases hs : W[s]? with
    | none => rw [(hf s).2 hs] at hy; cases hy
    | some x =>
      refine ⟨x, rfl, ?_⟩
      rw [← ((hf s).1 x hs).2.1.2]
      exact List.mem_map_of_mem hy
  refine ⟨⟨W, a, cc, c, fun i => (f i).1, fun i => (f i).2.1, fun i => (f i).2.2.1, fun i => (f i).2.2.2⟩, rfl, rfl, rfl, rfl, ⟨hW.1, hW.2.1, hP0.p, fun s x hs => ((hf s).1 x hs).1, fun s x hs => ((hf s).1 x hs).2.1, fun s x hs => ((hf s).1 x hs).2.2⟩, fun s => ?_, fun s y hy => ?_⟩
  · show (f s).2.2.2.length ≤ 10000
    cases hs : W[s]? with
    | none => rw [(hf s).2 hs]; simp
    | some x =>
      have h1 := ((hf s).1 x hs).2.1.2
      have h2 := (hW.2.2 x (List.mem_of_getElem? hs)).1
      rw [← h1, List.length_map] at h2; exact h2
  · obtain ⟨x, hx, hm⟩ := hkt s y hy
    exact (hW.2.2 x (List.mem_of_getElem? hx)).2 _ hm
theorem KTR.mono {A A' : Nat → Prop} {h : Heap} {kv : Value} {l : List KT} (H : KTR A h kv l) (k : ∀ b, A b → A' b) : KTR A' h kv l := by
  obtain ⟨a, c, e, hc, hb⟩ := H
  refine ⟨a, c, e, ?_, fun y hy => ⟨(hb y hy).1.mono k, (hb y hy).2.mono k⟩⟩
  rcases hc with e2 | ⟨b, o, e2, hA, hc⟩
  · exact .inl e2
  · exact .inr ⟨b, o, e2, k b hA, hc⟩
theorem LevS.mono {A A' : Nat → Prop} {v : Lev} {h : Heap} (H : LevS A v h) (k : ∀ b, A b → A' b) : LevS A' v h :=
  ⟨H.hn, H.ord, H.sps.mono k, fun s x hs => by
    obtain ⟨b, o, e, hA, hc, h1, h2, h3⟩ := H.cells s x hs
    exact ⟨b, o, e, k b hA, hc, h1.mono k, h2.mono k, h3.mono k⟩, fun s x hs => ⟨KTR.mono (H.keys s x hs).1 k, (H.keys s x hs).2⟩, H.nn⟩
structure LvR where
  v : Lev
  lo : Nat
def LvX (F : Nat → Prop) (h : Heap) (x : LvR) : Prop := LevS (fun b => x.lo ≤ b ∧ b < x.v.c) x.v h ∧ Blk h x.v.c (itL (.slice x.v.a x.v.W.length x.v.cc) (-1)) 208 ∧ (∀ s, (x.v.kt s).length ≤ 10000) ∧ (∀ (s : Nat) y, y ∈ x.v.kt s → 0 ≤ y.k.tr ∧ y.k.tr < 18446744073709551616) ∧ x.lo ≤ x.v.c ∧ ∀ b, x.lo ≤ b → b ≤ x.v.c → F b
theorem LvX.stab {F : Nat → Prop} {h h' : Heap} {x : LvR} (H : LvX F h x) (k : Stab F h h') : LvX F h' x := by
  obtain ⟨h1, h2, h3, h4, h5, h6⟩ := H
  exact ⟨h1.stab (fun b hb => k b (h6 b hb.1 (by omega))), (k _ (h6 _ h5 (Nat.le_refl _))).trans h2, h3, h4, h5, h6⟩
theorem LvX.mono {F F' : Nat → Prop} {h : Heap} {x : LvR} (H : LvX F h x) (k : ∀ b, F b → F' b) : LvX F' h x := by
  obtain ⟨h1, h2, h3, h4, h5, h6⟩ := H
  exact ⟨h1, h2, h3, h4, h5, fun b hb hc => k b (h6 b hb hc)⟩
def cLv (F : Nat → Prop) (h : Heap) (c : List Value) (x : LvR) : Prop := c = [x.v.it] ∧ LvX F h x
def RLv (F : Nat → Prop) (h : Heap) (b o : Nat) (x : LvR) : Prop := CellsAt h b o [x.v.it] ∧ LvX F h x
theorem cLv_st : RStab cLv := ⟨fun _ _ _ _ _ s ⟨e, h⟩ => ⟨e, h.stab s⟩, fun _ _ _ _ _ s ⟨e, h⟩ => ⟨e, h.mono s⟩⟩
theorem cLv_r (F : Nat → Prop) (h : Heap) (b o : Nat) (c : List Value) (a : LvR) (hc : CellsAt h b o c) (hr : cLv F h c a) : RLv F h b o a := by obtain ⟨rfl, h⟩ := hr; exact ⟨hc, h⟩
def RLevel (A : Nat → Prop) (h : Heap) (b o : Nat) (W : List SpanD) : Prop := ∃ v, CellsAt h b o [v] ∧ RSpans A h v W
def RLevels (A : Nat → Prop) (h : Heap) (v : Value) (ws : List (List SpanD)) : Prop := SlR h A 1 (RLevel A) v ws
def cLevel (A : Nat → Prop) (h : Heap) (c : List Value) (W : List SpanD) : Prop := ∃ v, c = [v] ∧ RSpans A h v W
theorem RLevel.stab {A : Nat → Prop} {h h' : Heap} {b o : Nat} {W : List SpanD} (hb : A b) (H : RLevel A h b o W) (k : Stab A h h') : RLevel A h' b o W := by
  obtain ⟨v, h1, h2⟩ := H
  exact ⟨v, k.cells hb h1, h2.stab k⟩
theorem RLevels.stab {A : Nat → Prop} {h h' : Heap} {v : Value} {ws : List (List SpanD)} (H : RLevels A h v ws) (k : Stab A h h') : RLevels A h' v ws := SlR.stab H fun _ _ _ hb hc => hc.stab hb k
theorem RLevels.mono {A A' : Nat → Prop} {h : Heap} {v : Value} {ws : List (List SpanD)} (H : RLevels A h v ws) (k : ∀ b, A b → A' b) : RLevels A' h v ws := SlR.mono H k fun _ _ _ _ ⟨v, h1, h2⟩ => ⟨v, h1, h2.mono k⟩
theorem cLevel_st : RStab cLevel := ⟨fun _ _ _ _ _ s ⟨v, e, h⟩ => ⟨v, e, h.stab s⟩, fun _ _ _ _ _ s ⟨v, e, h⟩ => ⟨v, e, h.mono s⟩⟩
theorem cLevel_r (F : Nat → Prop) (h : Heap) (b o : Nat) (c : List Value) (a : List SpanD) (hc : CellsAt h b o c) (hr : cLevel F h c a) : RLevel F h b o a := by obtain ⟨v, rfl, h⟩ := hr; exact ⟨v, hc, h⟩
theorem c_fragments (χ : Chi) (h : Heap) (A : Nat → Prop) (hA : Low A h) (v : Value) (ws : List (List SpanD)) (hW : RLevels A h v ws) (hn : ws.length ≤ 10) (hok : ∀ W, W ∈ ws → WOK W) (hm : ∀ W, W ∈ ws → ∀ s, s ∈ W → SpanD.small s) :
    Cl Tryz.prog χ 44 #[v] h (fun r h' => ∃ ls : List LvR, SlR h' (Up N0 h h') 1 (RLv (Up N0 h h')) r ls ∧ ls.map (fun x => x.v.W) = ws ∧ ls.Pairwise (fun x y => x.v.c < y.lo) ∧ (∀ x, x ∈ ls → h.size ≤ x.lo ∧ x.v.c < h'.size) ∧ Keep [] h h') := by
  obtain ⟨hlen, a, c, rfl, hx⟩ := hW.form
  refine cl_intro Tryz.func44 rfl rfl rfl ?_
  have K : Keep [] h h := Keep.refl _ _
  refine rG <| rA rfl rfl <| rN <| rG <| rA rfl rfl <| rN ?_
  refine tr_seq ?_
  refine rG <| rM rfl rfl <| rs_v (v_len u_sl_sl_impl_Span rfl) rfl ?_
  refine rM rfl rfl <| rN <| tr_block ?_
  refine tr_loop (fun m E h' => ∃ k v n ls, k ≤ ws.length ∧ m = ws.length - k ∧ E = [(3, v), (6, .slice a ws.length c), (7, .int .i64 (ws.length : Int)), (8, .int .i64 (k : Int))] ∧ Keep [] h h' ∧ n = k ∧ ls.length = k ∧ OutR N0 h h' h.size 93 1 cLv v n ls ∧ ls.map (fun x => x.v.W) = ws.take k ∧ ls.Pairwise (fun x y => x.v.c < y.lo) ∧ (∀ x, x ∈ ls → h.size ≤ x.lo ∧ x.v.c < h'.size)) ws.length [(3, _), (6, _), (7, _), (8, _)] ⟨rfl, rfl, rfl, rfl, trivial⟩ ⟨0, _, 0, [], Nat.zero_le _, rfl, rfl, K, rfl, rfl, OutR.nil _ _ _ _ _ _ _, rfl, List.Pairwise.nil, fun x hx => (by cases hx)⟩ ?_
  rintro m E hL1 ⟨k, v, n, ls, hk, rfl, rfl, K, hnk, hlk, hout, hmap, hpw, hall⟩
  subst hnk
  have hout0 := hout
  obtain ⟨xs, F, O, hrow, hF⟩ := hout
  have hob := own_ne O; have KL := Keep.refl [] hL1
  refine rG <| rs_v (v_lt rfl rfl) rfl ?_
  refine rN ?_
  refine tr_seq ?_
  refine tr_ifn rfl (fun hif => ?_) (fun hif => ?_)
  · -- no
    simp only [dT, dF] at hif
    have hkk : n = ws.length := by omega
    refine tr_exit <| q_thn_exit ?_
    refine q_lp_exit ?_
    refine q_blk_hit ?_
    refine q_thn ?_
    refine rG <| rM rfl rfl <| rA rfl rfl <| rN <| tr_ret <| q_ret (res_tmp rfl rfl) ?_
    refine ⟨ls, hout0.fin cLv_st (by omega) (Nat.le_refl _) cLv_r, ?_, hpw, hall, K⟩
    rw [hmap, hkk, List.take_length]
  -- yes
  simp only [dT, dF] at hif
  rcases hx with rfl | ⟨b, o, rfl, hAb, hR⟩
  · simp at hif; omega
  obtain ⟨W, hsk⟩ := ex_get (L := ws) (k := n) (by omega)
  have hkl : n < ws.length := (List.getElem?_eq_some_iff.1 hsk).1
  have KL0 := K.1
  have hWm := List.mem_of_getElem? hsk
  obtain ⟨kv, hcc, hkx⟩ := hR n W hsk
  obtain ⟨ka, kc, rfl⟩ := SlR.form2 hkx
  have hcells := K.cells (by simp) hcc
  have hWS := hkx.stab (K.st hA)
  have hWn : W.length ≤ 100000 := by have := (hok W hWm).1; omega
  have hWm := hm W hWm
  have hokW := hok W (List.mem_of_getElem? hsk)
  refine tr_skip ?_
  refine q_thn ?_
  refine tr_seq ?_
  refine tr_block <| rG <| rs_v (v_indexAddrN u_sl_sl_impl_Span siz_sl_impl_Span rfl rfl (by omega)) rfl ?_
  refine rs_v (v_load one_sl_impl_Span rfl (by exact hcells 0 _ rfl)) rfl ?_
  refine rA rfl rfl <| rN ?_
  refine tr_draw [(true, 10), (false, 2)] _ (by kernel_rfl) (by kernel_rfl) (by kernel_rfl) ?_
  refine rx_any (Keep []) (keep_pre _) ?_
  refine rm_v (keep_pre _) (fun h' hk => v_move rfl) ?_
  refine rm_w (fun v h' => ∃ g rest, v = .pointer (some ⟨g, 0, none⟩) ∧ Blk h' g (cmpF :: rest) 136) (fun v _ _ k1 k2 hr => by obtain ⟨g, rest, e, B⟩ := hr; exact ⟨g, rest, e, k2.blk (by simp) B⟩) (fun h' hk => OpW.mono (w_call (vs := []) ok_base_DefaultComparer rfl trivial (c_DefaultComparer χ h')) (fun v h'' hv => by obtain ⟨e, ⟨rest, B⟩, K'⟩ := hv; exact ⟨K', _, rest, e, B⟩)) ?_
  refine rm_o 13 (fun v h' => ∃ g rest, v = .pointer (some ⟨g, 0, none⟩) ∧ Blk h' g (cmpF :: rest) 136) rfl (by kernel_rfl) (fun v _ _ k1 k2 hr => by obtain ⟨g, rest, e, B⟩ := hr; exact ⟨g, rest, e, k2.blk (by simp) B⟩) (fun u h' hk hu => by
    obtain ⟨g, rest, rfl, B⟩ := hu
    exact (v_nilCheck_ptr rfl).w.mono (fun _ _ e => by obtain ⟨e1, e2⟩ := e; subst e1; subst e2; exact ⟨Keep.refl _ _, g, rest, rfl, B⟩)) ?_
  refine rm_o 14 (fun v h' => ∃ g rest, v = .pointer (some ⟨g, 0, none⟩) ∧ Blk h' g (cmpF :: rest) 136) rfl (by kernel_rfl) (fun v _ _ k1 k2 hr => by obtain ⟨g, rest, e, B⟩ := hr; exact ⟨g, rest, e, k2.blk (by simp) B⟩) (fun u h' hk hu => by
    obtain ⟨g, rest, rfl, B⟩ := hu
    exact (v_fieldAddr fa_base_Comparer_0 rfl).w.mono (fun _ _ e => by obtain ⟨e1, e2⟩ := e; subst e1; subst e2; exact ⟨Keep.refl _ _, g, rest, rfl, B⟩)) ?_
  refine rm_o 15 (fun v h' => v = cmpF) rfl (by kernel_rfl) (fun v _ _ k1 k2 hr => hr) (fun u h' hk hu => by
    obtain ⟨g, rest, rfl, B⟩ := hu
    exact (v_load one_base_Compare rfl (Blk.cell B 0 rfl)).w.mono (fun _ _ e => by obtain ⟨e1, e2⟩ := e; subst e1; subst e2; exact ⟨Keep.refl _ _, rfl⟩)) ?_
  refine rm_v (keep_pre _) (fun h' hk => v_move rfl) ?_
  refine rm_w (fun v h' => PSpansN (Up N0 hL1 h') h' v W) (fun v _ _ k1 k2 hr => (hr.stab (k2.st ((n0low _).up k1.1))).mono (Up.grow k2.1)) (fun h' hk => OpW.mono (w_call (vs := [_]) ok_impl_spans rfl ⟨rfl, trivial⟩ (c_spansN χ h' A (hA.mono (K.new0 hk).1) _ W (hWS.stab (hk.st (hA.mono KL0))) hWn hWm)) (fun v h'' hv => ⟨hv.2, hv.1.mono (Up.trans2 hk.1 (Nat.le_refl _))⟩)) ?_
  refine rm_o2 16 18 (fun v h' => ∃ b a c, v = .pointer (some ⟨b, 0, none⟩) ∧ hL1.size ≤ b ∧ Blk h' b (itL (.slice a W.length c) (-1)) 208 ∧ PSpansN (fun x => hL1.size ≤ x ∧ x < b) h' (.slice a W.length c) W) rfl rfl rfl (by kernel_rfl) (by kernel_rfl) (fun v _ _ k1 k2 hr => by obtain ⟨b, a, c, e, hb, B, hp⟩ := hr; exact ⟨b, a, c, e, hb, k2.blk (by simp) B, hp.stab (k2.stab fun x hx => ⟨by have := B.lt; have := hx.2; omega, by simp⟩)⟩) (fun u u2 h' hk hu hu2 => by
    subst hu
    obtain ⟨a, c, rfl⟩ := SlR.form2 hu2
    exact OpW.mono (w_call (vs := [_, _]) ok_keyspan_NewIter rfl ⟨rfl, rfl, trivial⟩ (c_NewIter χ h' a W.length c)) (fun v h'' hv => by
      obtain ⟨e, B, Kn⟩ := hv
      exact ⟨Kn, _, a, c, e, hk.1, B, (PSpansN.stab hu2 (Kn.st ((n0low _).up hk.1))).mono (fun x hx => hx.elim (fun e => e.elim) id)⟩)) ?_
  refine rm_o 19 (fun v h' => ∃ b a c, v = .iface 171 (.pointer (some ⟨b, 0, none⟩)) ∧ hL1.size ≤ b ∧ Blk h' b (itL (.slice a W.length c) (-1)) 208 ∧ PSpansN (fun x => hL1.size ≤ x ∧ x < b) h' (.slice a W.length c) W) rfl (by kernel_rfl) (fun v _ _ k1 k2 hr => by obtain ⟨b, a, c, e, hb, B, hp⟩ := hr; exact ⟨b, a, c, e, hb, k2.blk (by simp) B, hp.stab (k2.stab fun x hx => ⟨by have := B.lt; have := hx.2; omega, by simp⟩)⟩) (fun u h' hk hu => by
    obtain ⟨b, a, c, rfl, hb, B, hp⟩ := hu
    exact (v_makeIface u_p_keyspan_Iter rfl).w.mono (fun _ _ e => by obtain ⟨e1, e2⟩ := e; subst e1; subst e2; exact ⟨Keep.refl _ _, b, a, c, rfl, hb, B, hp⟩)) ?_
  refine rm_o 20 (fun v h' => ∃ g b, v = .slice (some ⟨g, 0, none⟩) 1 1 ∧ b < g ∧ Blk h' g [.iface 171 (.pointer (some ⟨b, 0, none⟩))] 93 ∧ ∃ a c, hL1.size ≤ b ∧ Blk h' b (itL (.slice a W.length c) (-1)) 208 ∧ PSpansN (fun x => hL1.size ≤ x ∧ x < b) h' (.slice a W.length c) W) rfl (by kernel_rfl) (fun v _ _ k1 k2 hr => by
    obtain ⟨g, b, e, hbg, B0, a, c, hb, B, hp⟩ := hr
    exact ⟨g, b, e, hbg, k2.blk (by simp) B0, a, c, hb, k2.blk (by simp) B, hp.stab (k2.stab fun x hx => ⟨by have := B.lt; have := hx.2; omega, by simp⟩)⟩) (fun u h' hk hu => by
    obtain ⟨b, a, c, rfl, hb, B, hp⟩ := hu
    exact OpW.mono (w_new1 u_sl_keyspan_FragmentIterator siz_keyspan_FragmentIterator zero_keyspan_FragmentIterator rfl rfl rfl rfl rfl) (fun v h'' hv => by
      obtain ⟨e, B0, Kn, _⟩ := hv
      exact ⟨Kn, _, b, e, B.lt, B0, a, c, hb, Kn.blk (by simp) B, hp.stab (Kn.stab fun x hx => ⟨by have := B.lt; have := hx.2; omega, by simp⟩)⟩)) ?_
  refine rm_end ?_; intro ha Ka; simp only [endM, hypF, ofE, argE, List.nil_append]
  intro v21 h21 v20 _ v19 _ v18 _ v16 _ v15 _ v14 _ v13 _
  obtain ⟨g, bi, rfl, hbg, B0, wa, wc, hbi, Bi, hPW⟩ := h21
  have hbl := Bi.lt
  have hbg2 := B0.lt
  have O := O.keep2 Ka (fun x hm => by have := hob x hm; simp)
  have KL := KL.new0 Ka
  have K := K.new0 Ka
  refine rx_seq ?_
  refine rs_w (w_app1 u_sl_keyspan_FragmentIterator info_keyspan_FragmentIterator rfl rfl rfl O rfl rfl B0 rfl (by omega) (by omega) (by omega)) rfl ?_
  rintro v6 h2 ⟨O6, K6, N6, F6⟩
  have K := K.newX K6 (fun x hm => .inr (by have := hob x hm; omega)); have Z6 := K6.1
  refine rA rfl rfl ?_
  refine rs_nil ?_
  refine q_con ?_
  refine rx_nil ?_
  refine q_blk_n ?_
  refine q_thn ?_
  refine tr_reg ?_
  refine rs_v (v_add rfl rfl (by omega) (by omega)) rfl ?_
  refine rM rfl rfl ?_
  refine rs_nil ?_
  obtain ⟨lv, hv1, hv2, hv3, hv4, hv5, hv6, hv7⟩ := mk_lev hPW hokW bi
  have hcl : cLv (Up N0 hL1 ha) ha [.iface 171 (.pointer (some ⟨bi, 0, none⟩))] ⟨lv, hL1.size⟩ := by
    refine ⟨by unfold Lev.it; rw [hv4], ?_, ?_, hv6, hv7, ?_, fun b hb hc => .inr ⟨hb, ?_⟩⟩
    · show LevS (fun b => hL1.size ≤ b ∧ b < lv.c) lv ha
      rw [hv4]; exact hv5
    · show Blk ha lv.c (itL (.slice lv.a lv.W.length lv.cc) (-1)) _
      rw [hv4, hv1, hv2, hv3]; exact Bi
    · show hL1.size ≤ lv.c
      rw [hv4]; exact hbi
    · have hc2 : b ≤ lv.c := hc
      rw [hv4] at hc2; omega
  refine q_lp (ws.length - (n + 1)) [(3, _), (6, _), (7, _), (8, _)] (by omega) ⟨rfl, rfl, rfl, rfl, trivial⟩ ⟨n + 1, v6, n + 1, ls ++ [⟨lv, hL1.size⟩], by omega, rfl, rfl, K, rfl, by rw [List.length_append, hlk]; rfl, ?_, ?_, ?_, ?_⟩
  · exact OutR.snoc cLv_st (n0low h) (Nat.le_refl _) hob hrow hF KL0 KL O6 K6 F6 rfl hcl
  · rw [List.map_append, hmap, take_snoc' hsk]
    show _ ++ [lv.W] = _
    rw [hv1]
  · rw [List.pairwise_append]
    refine ⟨hpw, List.pairwise_singleton _ _, fun x hx y hy => ?_⟩
    rw [List.mem_singleton.1 hy]
    exact (hall x hx).2
  · intro x hx
    rcases List.mem_append.1 hx with hx | hx
    · have h1 := hall x hx
      have := KL.1
      exact ⟨h1.1, by omega⟩
    · rw [List.mem_singleton.1 hx]
      refine ⟨KL0, ?_⟩
      show lv.c < _
      rw [hv4]; omega
end Go.Proofs.YtmckkklhonfmcaaGreat
namespace Go.Tess
open Go.RowKit
theorem v_slice_ah {P : Program} {χ : Chi} {ρ : Operand → Option Value} {h : Heap} {dst : Option Tmp} {ty : TypeId} {pos : String} {after : Array Edge} {guard : Option (Nat × Bool)} {x y : Operand} {t e : TypeId} {sz b o i len : Nat} {k : IntKind} {j : Int} (ht : P.underlying t = some (.array len e)) (hs : Siz P e sz)
    (hx : ρ x = some (.pointer (some ⟨b, o, none⟩))) (hy : ρ y = some (.int k j)) (hj : j = (i : Int)) (hi : i ≤ len) : OpV P χ ⟨dst, .slice t x none (some y) none, ty, pos, after, guard⟩ ρ h (.slice (some ⟨b, o, none⟩) i len) := by
  intro r d hr
  have e1 := hr x (by simp [Op.operands]) _ hx
  have e2 := hr y (by simp [Op.operands]) _ hy
  subst hj
  have hl : P.arrayLen t = len := by simp [Program.arrayLen, ht]
  have he : P.elem t = e := by simp [Program.elem, ht]
  have h1 := run_sliceAt_array_h (w := mkw χ h d) t ⟨b, o, none⟩ (by rw [hl, he]; exact ht) k (i : Int) (by omega) (by rw [hl]; omega)
  rw [hl, he, hs, Result.andThen_ok] at h1
  have h2 : slicedAt ⟨b, o, none⟩ 0 (Int.toNat (i : Int)) len sz = .slice (some ⟨b, o, none⟩) i len := by
    simp only [slicedAt, Nat.zero_mul, Nat.sub_zero, Int.toNat_natCast]
    congr 1
    split
    · rfl
    · rw [addr_add0]
  rw [h2] at h1
  simp [execOp, e1, e2, h1]
end Go.Tess
namespace Go.Proofs.YtmckkklhonfmcaaGreat
open Go.Tess Go.RowKit
set_option maxRecDepth 100000
set_option maxHeartbeats 1000000
theorem u_arrL : Tryz.prog.underlying 100 = some (.array 10 99) := by kernel_rfl
theorem u_arrI : Tryz.prog.underlying 104 = some (.array 10 103) := by kernel_rfl
def zLv : LvD := ⟨.nilIface, 0, .slice none 0 0, .pointer none⟩
def zTl : List Value := (List.replicate 10 [Value.pointer none, Value.int .i64 0]).flatten
def Lz (vs : List Lev) (k : Nat) : List LvD := (List.range 10).map (fun i => if i < k then (match vs[i]? with | some v => v.at 0 | none => zLv) else zLv)
theorem Lz_len (vs : List Lev) (k : Nat) : (Lz vs k).length = 10 := by simp [Lz]
theorem Lz_at {vs : List Lev} {k i : Nat} {v : Lev} (hk : i < k) (hi : i < 10) (hv : vs[i]? = some v) : (Lz vs k)[i]? = some (v.at 0) := by
  unfold Lz
  rw [List.getElem?_map, List.getElem?_range hi, Option.map_some, if_pos hk, hv]
theorem Lz_zero (vs : List Lev) : Lz vs 0 = List.replicate 10 zLv := by
  apply List.ext_getElem
  · simp [Lz]
  · intro i h1 h2
    rw [List.getElem_replicate]
    simp only [Lz, List.getElem_map]
    exact if_neg (Nat.not_lt_zero _)
theorem Lz_set {vs : List Lev} {k : Nat} {v : Lev} (hv : vs[k]? = some v) (hk : k < 10) : (Lz vs k).set k (v.at 0) = Lz vs (k + 1) := by
  apply List.ext_getElem
  · simp [Lz]
  · intro i h1 h2
    rw [List.getElem_set]
    by_cases e : k = i
    · subst e; simp [Lz, hv]
    · rw [if_neg e]
      simp only [Lz, List.getElem_map, List.getElem_range]
      by_cases e2 : i < k
      · rw [if_pos e2, if_pos (by omega)]
      · rw [if_neg e2, if_neg (by omega)]
theorem at_zero (v : Lev) : v.at 0 = ⟨v.it, 0, .slice none 0 0, .pointer none⟩ := Lev.at0 (by unfold Lev.ok; omega)
theorem mi_setL4 {mi : Nat} {hd tl : List Value} {L : List LvD} {q : List Nat} {i : Nat} (l : LvD) (h10 : hd.length = 10) (hi : i < L.length) : putRow (miC mi hd L q tl) (10 + i * 4) l.cells = miC mi hd (L.set i l) q tl := by
  unfold miC
  rw [show hd ++ lvC L ++ itC mi q ++ tl = hd ++ lvC L ++ (itC mi q ++ tl) from by simp, ← h10, putRow_app _ _ _ _ _ (by rw [lvC_len]; simp [LvD.cells]; omega)]
  rw [show putRow (lvC L) (i * 4) l.cells = lvC (L.set i l) from flat_set (f := LvD.cells) (sz := 4) (fun _ => rfl) L hi l]
  simp
theorem c_MInit {χ : Chi} {bf mi sb : Nat} {vs : List Lev} {ai : Option Addr} {ci : Nat} {h : Heap} (B1 : Blk h mi [.pointer none, .slice none 0 0, .slice none 0 0, .nilIface, .slice none 0 0, .slice none 0 0, .slice none 0 0, .int .i8 0, .nilIface, .int .i8 0, .nilIface, .int .i8 0, .slice none 0 0, .pointer none, .nilIface, .int .i8 0, .slice none 0 0, .pointer none, .nilIface, .int .i8 0, .slice none 0 0, .pointer none, .nilIface, .int .i8 0, .slice none 0 0, .pointer none, .nilIface, .int .i8 0, .slice none 0 0, .pointer none, .nilIface, .int .i8 0, .slice none 0 0, .pointer none, .nilIface, .int .i8 0, .slice none 0 0, .pointer none, .nilIface, .int .i8 0, .slice none 0 0, .pointer none, .nilIface, .int .i8 0, .slice none 0 0, .pointer none, .nilIface, .int .i8 0, .slice none 0 0, .pointer none, .pointer none, .int .i64 0, .pointer none, .int .i64 0, .pointer none, .int .i64 0, .pointer none, .int .i64 0, .pointer none, .int .i64 0, .pointer none, .int .i64 0, .pointer none, .int .i64 0, .pointer none, .int .i64 0, .pointer none, .int .i64 0, .pointer none, .int .i64 0] 107) (B2 : Blk h bf [.slice none 0 0, .slice none 0 0, .nilFunc, .bool false, .slice none 0 0, .slice none 0 0] 116) (hne : bf ≠ mi) (hvl : vs.length ≤ 10)
    (hit : ∀ (i : Nat) v, vs[i]? = some v → ∃ b o, ai = some ⟨b, o, none⟩ ∧ cellH h b (o + i * 1) = some v.it ∧ b ≠ mi ∧ b ≠ bf) :
    Cl Tryz.prog χ 59 #[.pointer (some ⟨mi, 0, none⟩), cmpF, (.iface 188 (visF sb)), .pointer (some ⟨bf, 0, none⟩), .slice ai vs.length ci] h (fun r h' => r = .tuple #[] ∧ Blk h' bf [.slice none 0 0, .slice (some ⟨mi, 10, none⟩) vs.length 10, cmpF, .bool false, .slice (some ⟨mi, 50, none⟩) 0 10, .slice none 0 0] 116 ∧ MB mi (hdC bf (.slice none 0 0) (.slice none 0 0) (.iface 188 (visF sb)) (.slice none 0 0) (.slice none 0 0) (.slice none 0 0) (.int .i8 0) 0) (Lz vs vs.length) [] zTl h' ∧ Keep [mi, bf] h h') := by
  unfold cmpF visF
  refine cl_intro Tryz.func59 rfl rfl rfl ?_
  have K : Keep [mi, bf] h h := Keep.refl _ _
  refine rG <| rM rfl rfl <| rM rfl rfl <| rM rfl rfl <| rs_v (v_build2 rfl rfl (bld_keyspan_MergingIter_0_3 _ _ _)) rfl ?_
  refine rC rfl rfl <| rs_w0 (w_put siz_keyspan_MergingIter rfl rfl rfl rfl B1 rfl) ?_
  rintro _ h1 ⟨B9, K1⟩
  have K := K.trans (K1.sub (by simp))
  have M : MB mi (hdC bf (.slice none 0 0) (.slice none 0 0) (.iface 188 (visF sb)) (.slice none 0 0) (.slice none 0 0) (.slice none 0 0) (.int .i8 0) 0) (List.replicate 10 zLv) [] zTl h1 := ⟨B9, rfl, rfl, rfl⟩
  have B2 := K1.blk (by simpa using hne) B2
  refine rN <| rG <| rM rfl rfl <| rC rfl rfl <| rF fa_keyspan_MergingIter_0 rfl rfl <| rs_v (v_load one_p_keyspan_MergingBuffers rfl (by exact M.b2.cell 0 rfl)) rfl ?_
  refine rM rfl rfl <| rC rfl rfl <| rF fa_keyspan_MergingBuffers_2 rfl rfl <| rF fa_keyspan_mergingIterHeap_0 rfl rfl <| rs_w0 (w_put siz_base_Compare rfl rfl rfl rfl B2 rfl) ?_
  rintro _ h2 ⟨B2, K2⟩
  have K := K.trans (K2.sub (by simp))
  have M := M.keep K2 (by simpa using fun e => hne e.symm)
  refine rN ?_
  refine tr_seq ?_
  refine tr_quiet (by kernel_rfl) (by kernel_rfl) ?_
  refine rq_v (v_move rfl) <| rq_v (v_nilCheck_ptr rfl) <| rq_v (v_fieldAddr fa_keyspan_MergingIter_0 rfl) <| rq_v (v_load one_p_keyspan_MergingBuffers rfl (by exact M.b2.cell 0 rfl)) ?_
  refine rq_v (v_nilCheck_ptr rfl) <| rq_v (v_fieldAddr fa_keyspan_MergingBuffers_1 rfl) <| rq_v (v_load one_sl_keyspan_mergingIterLevel rfl (by exact B2.cell 1 rfl)) ?_
  refine rq_v (v_move rfl) <| rq_v (v_nilCheck_ptr rfl) <| rq_v (v_fieldAddr fa_keyspan_MergingIter_0 rfl) <| rq_v (v_load one_p_keyspan_MergingBuffers rfl (by exact M.b2.cell 0 rfl)) ?_
  refine rq_v (v_nilCheck_ptr rfl) <| rq_v (v_fieldAddr fa_keyspan_MergingBuffers_2 rfl) <| rq_v (v_fieldAddr fa_keyspan_mergingIterHeap_2 rfl) <| rq_v (v_load one_sl_keyspan_mergingIterItem rfl (by exact B2.cell 4 rfl)) ?_
  refine rq_v (v_assign rfl) <| rq_v (v_assign rfl) ?_
  refine rm_end ?_; simp only [endM, hypF, ofE, argE]
  refine q_thn ?_
  refine tr_seq ?_
  refine rG <| rM rfl rfl <| rs_v (v_len u_sl_keyspan_FragmentIterator rfl) rfl ?_
  refine rs_v (v_le rfl rfl) rfl ?_
  refine rN <| tr_if_t (lkb (decide_eq_true (by omega))) ?_
  refine tr_seq ?_
  refine tr_draw [(true, 11), (false, 3)] _ (by kernel_rfl) (by kernel_rfl) (by kernel_rfl) ?_
  refine rx_any Same same_pre ?_
  refine rq_v (v_move rfl) <| rq_v (v_nilCheck_ptr rfl) <| rq_v (v_fieldAddr fa_keyspan_MergingIter_0 rfl) <| rq_v (v_load one_p_keyspan_MergingBuffers rfl (by exact M.b2.cell 0 rfl)) ?_
  refine rq_v (v_move rfl) <| rq_v (v_nilCheck_ptr rfl) <| rq_v (v_fieldAddr fa_keyspan_MergingIter_7 rfl) <| rq_v (v_fieldAddr fa_struct_levels_10_keyspan_mergingIterLeve_165_0 rfl) <| rq_v (v_move rfl) <| rq_v (v_len u_sl_keyspan_FragmentIterator rfl) ?_
  refine rq_v (v_slice_ah (i := vs.length) u_arrL siz_keyspan_mergingIterLevel rfl rfl rfl hvl) ?_
  refine rm_end ?_; intro ha3 Ka3; simp only [endM, hypF, ofE, argE, List.nil_append]
  have Ka3 : h2 = ha3 := Eq.symm Ka3
  subst Ka3
  refine rx_seq ?_
  refine rC rfl rfl <| rF fa_keyspan_MergingBuffers_1 rfl rfl <| rs_w0 (w_put siz_sl_keyspan_mergingIterLevel rfl rfl rfl rfl B2 rfl) ?_
  rintro _ h4 ⟨B2, K4⟩
  have K := K.trans (K4.sub (by simp))
  have M := M.keep K4 (by simpa using fun e => hne e.symm)
  refine rs_nil ?_
  refine q_con ?_
  refine rx_nil ?_
  refine q_thn ?_
  refine tr_draw [(true, 9), (false, 4)] _ (by kernel_rfl) (by kernel_rfl) (by kernel_rfl) ?_
  refine rx_any Same same_pre ?_
  refine rq_v (v_move rfl) <| rq_v (v_nilCheck_ptr rfl) <| rq_v (v_fieldAddr fa_keyspan_MergingIter_0 rfl) <| rq_v (v_load one_p_keyspan_MergingBuffers rfl (by exact M.b2.cell 0 rfl)) ?_
  refine rq_v (v_move rfl) <| rq_v (v_nilCheck_ptr rfl) <| rq_v (v_fieldAddr fa_keyspan_MergingIter_7 rfl) <| rq_v (v_fieldAddr fa_struct_levels_10_keyspan_mergingIterLeve_165_1 rfl) <| rq_v (v_slice_ah (i := 0) u_arrI siz_keyspan_mergingIterItem rfl rfl rfl (Nat.zero_le _)) ?_
  refine rm_end ?_; intro ha5 Ka5; simp only [endM, hypF, ofE, argE, List.nil_append]
  have Ka5 : h4 = ha5 := Eq.symm Ka5
  subst Ka5
  refine rx_seq ?_
  refine rC rfl rfl <| rF fa_keyspan_MergingBuffers_2 rfl rfl <| rF fa_keyspan_mergingIterHeap_2 rfl rfl <| rs_w0 (w_put siz_sl_keyspan_mergingIterItem rfl rfl rfl rfl B2 rfl) ?_
  rintro _ h6 ⟨B2, K6⟩
  have K := K.trans (K6.sub (by simp))
  have M := M.keep K6 (by simpa using fun e => hne e.symm)
  refine rs_nil ?_
  refine q_con ?_
  refine rx_nil ?_
  refine q_thn ?_
  refine rG <| rM rfl rfl <| rC rfl rfl <| rF fa_keyspan_MergingIter_0 rfl rfl <| rs_v (v_load one_p_keyspan_MergingBuffers rfl (by exact M.b2.cell 0 rfl)) rfl ?_
  refine rC rfl rfl <| rF fa_keyspan_MergingBuffers_1 rfl rfl <| rs_v (v_load one_sl_keyspan_mergingIterLevel rfl (by exact B2.cell 1 rfl)) rfl ?_
  refine rs_v (v_len u_sl_keyspan_mergingIterLevel rfl) rfl ?_
  refine rM rfl rfl <| rN <| tr_block ?_
  refine tr_loop (fun m E h' => ∃ k, k ≤ vs.length ∧ m = vs.length - k ∧ E = [(0, .pointer (some ⟨mi, 0, none⟩)), (4, .slice ai vs.length ci), (119, .int .i64 (vs.length : Int)), (120, .int .i64 (k : Int))] ∧ Blk h' bf [.slice none 0 0, .slice (some ⟨mi, 10, none⟩) vs.length 10, .func (.func 79) #[] #[], .bool false, .slice (some ⟨mi, 50, none⟩) 0 10, .slice none 0 0] 116 ∧ MB mi (hdC bf (.slice none 0 0) (.slice none 0 0) (.iface 188 (visF sb)) (.slice none 0 0) (.slice none 0 0) (.slice none 0 0) (.int .i8 0) 0) (Lz vs k) [] zTl h' ∧ Keep [mi, bf] h h') vs.length [(0, _), (4, _), (119, _), (120, _)] ⟨rfl, rfl, rfl, rfl, trivial⟩ ⟨0, Nat.zero_le _, rfl, rfl, B2, by rw [Lz_zero]; exact M, K⟩ ?_
  rintro m E hL7 ⟨k, hk, rfl, rfl, B2, M, K⟩
  refine rG <| rs_v (v_lt rfl rfl) rfl ?_
  refine rN ?_
  refine tr_seq ?_
  refine tr_ifn rfl (fun hif => ?_) (fun hif => ?_)
  · -- no
    simp only [dT, dF] at hif
    refine tr_exit <| q_thn_exit ?_
    refine q_lp_exit ?_
    refine q_blk_hit ?_
    refine q_end (res_none rfl) ?_
    rw [show k = vs.length from by omega] at M
    exact ⟨rfl, B2, M, K⟩
  -- yes
  simp only [dT, dF] at hif
  obtain ⟨v, hv⟩ := ex_get (L := vs) (k := k) (by omega)
  obtain ⟨b, o, rfl, hcl, hb1, hb2⟩ := hit k v hv
  have hcell : cellH hL7 b (o + k * 1) = some (.iface 171 (.pointer (some ⟨v.c, 0, none⟩))) := (K.cells (by simp [hb1, hb2]) (CellsAt.one hcl)) 0 _ rfl
  refine tr_skip ?_
  refine q_thn ?_
  refine tr_seq ?_
  refine tr_block <| rG <| rM rfl rfl <| rA rfl rfl <| rN ?_
  refine tr_draw [(true, 13), (false, 2)] _ (by kernel_rfl) (by kernel_rfl) (by kernel_rfl) ?_
  refine rx_any Same same_pre ?_
  refine rq_v (v_move rfl) <| rq_v (v_nilCheck_ptr rfl) <| rq_v (v_fieldAddr fa_keyspan_MergingIter_0 rfl) <| rq_v (v_load one_p_keyspan_MergingBuffers rfl (by exact M.b2.cell 0 rfl)) ?_
  refine rq_v (v_nilCheck_ptr rfl) <| rq_v (v_fieldAddr fa_keyspan_MergingBuffers_1 rfl) <| rq_v (v_load one_sl_keyspan_mergingIterLevel rfl (by exact B2.cell 1 rfl)) ?_
  refine rq_v (v_move rfl) <| rq_v (v_move rfl) <| rq_v (v_move rfl) <| rq_v (v_indexAddrE (i := k) u_sl_keyspan_FragmentIterator siz_keyspan_FragmentIterator rfl rfl rfl (by omega)) ?_
  refine rq_v (v_load one_keyspan_FragmentIterator rfl (by exact hcell)) ?_
  refine rq_v (v_build1 rfl (bld_keyspan_mergingIterLevel_0 _ _)) ?_
  refine rm_end ?_; intro ha8 Ka8; simp only [endM, hypF, ofE, argE, List.nil_append]
  have Ka8 : hL7 = ha8 := Eq.symm Ka8
  subst Ka8
  refine rx_seq ?_
  refine rs_v (v_indexAddrE (i := k) u_sl_keyspan_mergingIterLevel siz_keyspan_mergingIterLevel rfl rfl rfl (by omega)) rfl ?_
  refine rs_w0 (w_store siz_keyspan_mergingIterLevel rfl rfl rfl rfl M.b2 (by rw [M.len]; show _ + 4 ≤ 70; omega)) ?_
  rintro _ h9 ⟨B9, K9⟩
  have K := K.trans (K9.sub (by simp))
  have B2 := K9.blk (by simpa using hne) B2
  have M2 : MB mi (hdC bf (.slice none 0 0) (.slice none 0 0) (.iface 188 (visF sb)) (.slice none 0 0) (.slice none 0 0) (.slice none 0 0) (.int .i8 0) 0) (Lz vs (k + 1)) [] zTl h9 := ⟨by rw [← Lz_set hv (by omega), ← mi_setL4 (v.at 0) rfl (by rw [Lz_len]; omega), at_zero]; exact B9, rfl, Lz_len _ _, rfl⟩
  refine rs_nil ?_
  refine q_con ?_
  refine rx_nil ?_
  refine q_blk_n ?_
  refine q_thn ?_
  refine tr_reg ?_
  refine rs_v (v_add rfl rfl (by omega) (by omega)) rfl ?_
  refine rM rfl rfl ?_
  refine rs_nil ?_
  refine q_lp (vs.length - (k + 1)) [(0, _), (4, _), (119, _), (120, _)] (by omega) ⟨rfl, rfl, rfl, rfl, trivial⟩ ⟨k + 1, by omega, rfl, rfl, B2, M2, K⟩
set_option maxHeartbeats 1000000
theorem flat_le {α : Type} {n : Nat} : ∀ (l : List (List α)), (∀ x, x ∈ l → x.length ≤ n) → l.flatten.length ≤ l.length * n
  | [], _ => by simp
  | x :: l, h => by
    have h1 := h x (by simp)
    have h2 := flat_le l (fun y hy => h y (by simp [hy]))
    rw [List.flatten_cons, List.length_append, List.length_cons, Nat.add_mul]; omega
theorem catX_len {vs : List Lev} {x : ByteArray} (hvl : vs.length ≤ 10) (hk : ∀ v, v ∈ vs → ∀ s, (v.kt s).length ≤ 10000) : (catX vs x).length ≤ 100000 := by
  unfold catX
  refine Nat.le_trans (flat_le (n := 10000) _ fun c hc => ?_) ?_
  · obtain ⟨i, _, rfl⟩ := List.mem_map.1 hc
    cases hv : vs[i]? with
    | none => simp
    | some v => exact hk v (List.mem_of_getElem? hv) _
  · rw [List.length_map]
    exact Nat.le_trans (Nat.mul_le_mul_right _ (Nat.le_trans (List.length_filter_le _ _) (by rw [List.length_range]; exact hvl))) (by decide)
theorem kfM_len {vs : List Lev} {snap : Nat} {x : ByteArray} (hvl : vs.length ≤ 10) (hk : ∀ v, v ∈ vs → ∀ s, (v.kt s).length ≤ 10000) : (kfM vs snap x).length ≤ 100000 := by
  unfold kfM
  rw [List.length_map]
  refine Nat.le_trans (List.length_filter_le _ _) ?_
  rw [(sortKT_perm _).length_eq]
  exact catX_len hvl hk
theorem mrgW_len {vs : List Lev} {snap : Nat} {B : List ByteArray} (hvl : vs.length ≤ 10) (hk : ∀ v, v ∈ vs → ∀ s, (v.kt s).length ≤ 10000) : ∀ s, s ∈ mrgW vs snap B → s.ks.length ≤ 100000 := fun s hs => by
  unfold mrgW at hs
  obtain ⟨x, hx, hf⟩ := List.mem_filterMap.1 hs
  have := covF_same hf
  subst this
  obtain ⟨i, hi, e⟩ := List.mem_iff_getElem.1 hx
  obtain ⟨_, e2⟩ := segs_inv (show (sgM vs snap B)[i]? = some s by rw [List.getElem?_eq_getElem hi, e])
  rw [e2]; exact kfM_len hvl hk
def lvA (ls : List LvR) (b : Nat) : Prop := ∃ x, x ∈ ls ∧ x.lo ≤ b ∧ b < x.v.c
theorem lvr_at {ls : List LvR} {i : Nat} {v : Lev} (h : (ls.map LvR.v)[i]? = some v) : ∃ x, ls[i]? = some x ∧ x.v = v := by
  rw [List.getElem?_map] at h
  cases hx : ls[i]? with
  | none => rw [hx] at h; cases h
  | some x => rw [hx] at h; cases h; exact ⟨x, rfl, rfl⟩
theorem pw_at {ls : List LvR} (hp : ls.Pairwise (fun x y => x.v.c < y.lo)) {i j : Nat} {x y : LvR} (hij : i < j) (hx : ls[i]? = some x) (hy : ls[j]? = some y) : x.v.c < y.lo := by
  rw [List.pairwise_iff_getElem] at hp
  obtain ⟨h1, rfl⟩ := List.getElem?_eq_some_iff.1 hx
  obtain ⟨h2, rfl⟩ := List.getElem?_eq_some_iff.1 hy
  exact hp i j h1 h2 hij
theorem mq_start {bf mi sb lo : Nat} {ls : List LvR} {snap : Nat} {B : List ByteArray} {F G : Nat → Prop} {h : Heap} (hpw : ls.Pairwise (fun x y => x.v.c < y.lo)) (hlv : ∀ x, x ∈ ls → LvX G h x ∧ lo ≤ x.lo) (hlen : ls.length ≤ 10) (h1 : mi < sb) (h2 : sb < bf) (h3 : bf < lo)
    (B1 : Blk h bf [.slice none 0 0, .slice (some ⟨mi, 10, none⟩) (ls.map LvR.v).length 10, cmpF, .bool false, .slice (some ⟨mi, 50, none⟩) 0 10, .slice none 0 0] 116) (M : MB mi (hdC bf (.slice none 0 0) (.slice none 0 0) (.iface 188 (visF sb)) (.slice none 0 0) (.slice none 0 0) (.slice none 0 0) (.int .i8 0) 0) (Lz (ls.map LvR.v) (ls.map LvR.v).length) [] zTl h) (BS : Blk h sb [.int .u64 (snap : Int)] 35)
    (hB : Bnds (ls.map (fun x => x.v.W)) B) (hbl : ∀ x, x ∈ B → x.data.toList.length ≤ 100000000000) (hF : ∀ b, mi ≤ b → b < h.size → F b) (hFl : Low F h) :
    MC (lvA ls) bf mi sb (ls.map LvR.v) B ∧ MQ (lvA ls) bf mi sb (ls.map LvR.v) snap B .nowhere F h := by
  have hws : wsO (ls.map LvR.v) = ls.map (fun x => x.v.W) := by simp [wsO]
  have hmem : ∀ v, v ∈ ls.map LvR.v → ∃ (i : Nat) (x : LvR), ls[i]? = some x ∧ x.v = v := fun v hv => by
    obtain ⟨x, hx, rfl⟩ := List.mem_map.1 hv
    obtain ⟨i, hi, e⟩ := List.mem_iff_getElem.1 hx
    exact ⟨i, x, by rw [List.getElem?_eq_getElem hi, e], rfl⟩
  have hc : ∀ (i : Nat) x, ls[i]? = some x → LvX G h x ∧ lo ≤ x.v.c := fun i x hx => by
    obtain ⟨h4, h5⟩ := hlv x (List.mem_of_getElem? hx)
    exact ⟨h4, Nat.le_trans h5 h4.2.2.2.2.1⟩
  have hnA : ∀ (i : Nat) x, ls[i]? = some x → ¬ lvA ls x.v.c := fun i x hx ⟨y, hy, h4, h5⟩ => by
    obtain ⟨j, hj, e⟩ := List.mem_iff_getElem.1 hy
    have hy2 : ls[j]? = some y := by rw [List.getElem?_eq_getElem hj, e]
    rcases Nat.lt_trichotomy i j with h6 | h6 | h6
    · have := pw_at hpw h6 hx hy2; omega
    · subst h6; rw [hx] at hy2; cases hy2; omega
    · have := pw_at hpw h6 hy2 hx
      have := (hc i x hx).1.2.2.2.2.1; omega
  have hAlow : Low (lvA ls) h := fun b ⟨y, hy, h4, h5⟩ => by
    have := (hlv y hy).1.2.1.lt; omega
  have hAlo : ∀ b, lvA ls b → lo ≤ b := fun b ⟨y, hy, h4, h5⟩ => by have := (hlv y hy).2; omega
  have hvl : (ls.map LvR.v).length ≤ 10 := by rw [List.length_map]; exact hlen
  have hsb := BS.lt
  have hbf := B1.lt
  have hcl : ∀ (i : Nat) x, ls[i]? = some x → x.v.c < h.size := fun i x hx => (hc i x hx).1.2.1.lt
  refine ⟨⟨by rw [hws]; exact hB, by omega, by omega, fun e => by have := hAlo sb e; omega, fun v hv => ?_, fun v hv => ?_, fun v hv => ?_, hbl⟩, fun b hb => ?_, hFl, fun _ => 0, false, 0, [], .slice none 0 0, .slice none 0 0, .slice none 0 0, ⟨_, _, _, _, _, _, _, [], [], ⟨B1, M, fun i v hv => ?_, fun v hv => ?_, fun i j v w hij hv hw => ?_, by omega, hAlow, ⟨fun e => by have := hAlo bf e; omega, fun e => by have := hAlo mi e; omega⟩, hvl⟩, ⟨[], Own.nil _ _ _ _, RowsR.nil _ _, by simp [Value.ownBlock]⟩, ⟨Own.nil _ _ _ _, by simp [Value.ownBlock]⟩, BS, by simp [Value.ownBlock], by simp [Value.ownBlock], by simp [Value.ownBlock], by simp⟩, ?_, ?_, trivial⟩
  · obtain ⟨i, x, hx, rfl⟩ := hmem v hv
    have := (hc i x hx).2; omega
  · obtain ⟨i, x, hx, rfl⟩ := hmem v hv
    exact (hc i x hx).1.2.2.1
  · obtain ⟨i, x, hx, rfl⟩ := hmem v hv
    exact (hc i x hx).1.2.2.2.1
  · rcases hb with hb | rfl | rfl | rfl | ⟨v, hv, rfl⟩
    · exact hF b (by have := hAlo b hb; omega) (hAlow b hb)
    · exact hF _ (by omega) hbf
    · exact hF _ (Nat.le_refl _) (by omega)
    · exact hF _ (by omega) hsb
    · obtain ⟨i, x, hx, rfl⟩ := hmem v hv
      exact hF _ (by have := (hc i x hx).2; omega) (hcl i x hx)
  · obtain ⟨x, hx, rfl⟩ := lvr_at hv
    have hi : i < (ls.map LvR.v).length := (List.getElem?_eq_some_iff.1 hv).1
    exact ⟨Lz_at hi (by omega) hv, ⟨-1, (hc i x hx).1.2.1, by unfold lvX; split; exact .inl rfl; rw [if_pos rfl]⟩, by omega⟩
  · obtain ⟨i, x, hx, rfl⟩ := hmem v hv
    have h5 := (hc i x hx).2
    exact ⟨(hc i x hx).1.1.mono (fun b hb => ⟨x, List.mem_of_getElem? hx, hb.1, hb.2⟩), by omega, by omega, hnA i x hx, hcl i x hx⟩
  · obtain ⟨x, hx, rfl⟩ := lvr_at hv
    obtain ⟨y, hy, rfl⟩ := lvr_at hw
    rcases Nat.lt_trichotomy i j with h6 | h6 | h6
    · have := pw_at hpw h6 hx hy
      have := (hc j y hy).1.2.2.2.2.1; omega
    · exact absurd h6 hij
    · have := pw_at hpw h6 hy hx
      have := (hc i x hx).1.2.2.2.2.1; omega
  · have : validQ (ls.map LvR.v) (fun _ => 0) (ls.map LvR.v).length = [] := by
      unfold validQ
      rw [List.filter_eq_nil_iff]
      intro i hi
      unfold okb
      cases hv : (ls.map LvR.v)[i]? with
      | none => simp
      | some v => simp [Lev.ok]
    rw [this]
  · intro k _ h2; simp at h2
theorem c_implSpanMerged (χ : Chi) (h : Heap) (A : Nat → Prop) (hA : Low A h) (v sv : Value) (ws : List (List SpanD)) (snap : Nat) (steps : List StepD) (B : List ByteArray) (hW : RLevels A h v ws) (hn : ws.length ≤ 10) (hok : ∀ W, W ∈ ws → WOK W) (hm : ∀ W, W ∈ ws → ∀ s, s ∈ W → SpanD.small s)
    (hB : Bnds ws B) (hbl : ∀ x, x ∈ B → x.data.toList.length ≤ 100000000000) (hS : RSteps A h sv steps) (hsn : steps.length ≤ 1000) (hz : ∀ s, s ∈ steps → s.key.size ≤ 9223372036854775807) :
    Cl Tryz.prog χ 22 #[v, .int .u64 (snap : Int), sv] h (fun r h' => (∃ vs : List Lev, vs.map Lev.W = ws ∧ (∀ v, v ∈ vs → ∀ (s : Nat) x, v.W[s]? = some x → (v.kt s).map KT.k = x.ks) ∧ RAnss (Up N0 h h') h' r (walkP (mrgW vs snap B) .nowhere steps)) ∧ Keep [] h h') := by
  refine cl_intro Tryz.func22 rfl rfl rfl ?_
  have K : Keep [] h h := Keep.refl _ _
  refine rG <| rA rfl rfl <| rN <| rG <| rs_w (w_call (vs := []) ok_base_DefaultComparer rfl trivial (c_DefaultComparer χ _)) rfl ?_
  rintro _ h1 ⟨rfl, ⟨rest, Bq⟩, K1⟩
  have K := K.new0 K1; have Z1 := K1.1
  refine rC rfl rfl <| rF fa_base_Comparer_0 rfl rfl <| rs_v (v_load one_base_Compare rfl (by exact Bq.cell _ rfl)) rfl ?_
  refine rA rfl rfl <| rN <| rG <| rs_w (w_new zero_keyspan_MergingIter) rfl ?_
  rintro _ h2 ⟨rfl, B2, K2, Z2⟩
  have S2 := K.1; have K := K.new0 K2
  refine rN <| rG <| rM rfl rfl <| rM rfl rfl <| rs_w (w_call (vs := [_]) ok_keyspan_VisibleTransform rfl ⟨rfl, trivial⟩ (c_VisibleTransform)) rfl ?_
  rintro _ h3 ⟨rfl, BS, K3⟩
  have hsb9 := BS.lt
  have B2 := K3.blk (by simp) B2
  have K := K.new0 K3; have Z3 := K3.1
  refine rs_w (w_new zero_keyspan_MergingBuffers) rfl ?_
  rintro _ h4 ⟨rfl, B4, K4, Z4⟩
  have B2 := K4.blk (by simp) B2
  have BS := (K4).blk (by simp) BS
  have S4 := K.1; have K := K.new0 K4
  refine rM rfl rfl <| rs_w (w_call (vs := [_]) ok_impl_fragments rfl ⟨rfl, trivial⟩ (c_fragments χ _ A (hA.mono (by omega)) v ws (hW.stab (K.st hA)) hn hok hm)) rfl ?_
  rintro r5 h5 ⟨ls, hls, hmap, hpw, hall, K5⟩
  obtain ⟨hll, ai, ci, rfl, hx⟩ := hls
  have hlsn : ls.length = ws.length := by rw [← hmap, List.length_map]
  have hlm : (ls.map LvR.v).length = ls.length := by simp
  rw [← hlm]
  have hb2 := B2.lt
  have hb4 := B4.lt
  have hit : ∀ (i : Nat) v, (ls.map LvR.v)[i]? = some v → ∃ b o, ai = some ⟨b, o, none⟩ ∧ cellH h5 b (o + i * 1) = some v.it ∧ b ≠ h1.size ∧ b ≠ h3.size := fun i v hv => by
    obtain ⟨x, hxi, rfl⟩ := lvr_at hv
    obtain ⟨b, o, ea, hU, hc, _⟩ := hx i x hxi
    refine ⟨b, o, ea, hc 0 _ rfl, ?_, ?_⟩
    · rcases hU with hU | hU
      · exact hU.elim
      · omega
    · rcases hU with hU | hU
      · exact hU.elim
      · omega
  have B2 := K5.blk (by simp) B2
  have B4 := K5.blk (by simp) B4
  have BS := (K5).blk (by simp) BS
  have K := K.new0 K5; have Z5 := K5.1
  refine rs_w (w_call (vs := [_, _, _, _, _]) ok_keyspan_MergingIter_Init rfl ⟨rfl, rfl, rfl, rfl, rfl, trivial⟩ (c_MInit (vs := ls.map LvR.v) B2 B4 (by omega) (by rw [List.length_map, hlsn]; exact hn) hit)) rfl ?_
  rintro _ h6 ⟨rfl, B4, M6, K6⟩
  have hsb3 : h2.size < h5.size := by omega
  have BS := K6.blk (by simp; omega) BS
  have hlv6 : ∀ x, x ∈ ls → LvX (Up N0 h4 h5) h6 x ∧ h4.size ≤ x.lo := fun x hxm => by
    obtain ⟨i, hi, e⟩ := List.mem_iff_getElem.1 hxm
    obtain ⟨b, o, ea, hU, hc, hX⟩ := hx i x (by rw [List.getElem?_eq_getElem hi, e])
    exact ⟨hX.stab (K6.stab fun b hb => by
      rcases hb with hb | hb
      · exact hb.elim
      · exact ⟨hb.2, by simp; omega⟩), (hall x hxm).1⟩
  have K := K.newX K6 (fun x hm => .inr (by simp at hm; omega))
  have Z6 := K6.1
  have hws : ls.map (fun x => x.v.W) = ws := hmap
  have hMvl : (ls.map LvR.v).length ≤ 10 := by omega
  obtain ⟨hMC, hMQ⟩ := mq_start (F := fun b => h1.size ≤ b ∧ b < h6.size) (lo := h4.size) hpw hlv6 (by omega) (by omega) (by omega) (by omega) B4 M6 BS (by rw [hws]; exact hB) hbl (fun b h1 h2 => ⟨h1, h2⟩) (fun b hb => hb.2)
  have hkeys : ∀ v, v ∈ ls.map LvR.v → ∀ (s : Nat) x, v.W[s]? = some x → (v.kt s).map KT.k = x.ks := fun v hv s x hs => by
    obtain ⟨y, hy, rfl⟩ := List.mem_map.1 hv
    exact ((hlv6 y hy).1.1.keys s x hs).2
  refine rN <| rG <| rs_v (v_makeIface u_p_keyspan_MergingIter rfl) rfl ?_
  refine rM rfl rfl ?_
  refine rs_w (w_call (vs := [_, _]) ok_impl_walkSpans rfl ⟨rfl, rfl, trivial⟩ (c_walkSpans χ h6 A (hA.mono K.1) (mrgW (ls.map LvR.v) snap B) _ _ _ (mi_ok χ hMC) (fun b => h1.size ≤ b ∧ b < h6.size) ⟨_, hMQ, trivial⟩
    (fun b hb hf => by have := hA b hb; have := hf.1; omega) sv steps (hS.stab (K.st hA)) hsn hz (mrgW_len hMvl hMC.kl))) rfl ?_
  rintro r9 h7 ⟨hans, KP⟩
  refine rA rfl rfl <| rN <| tr_ret <| q_ret (res_tmp rfl rfl) ?_
  have h60 := K.1
  exact ⟨⟨ls.map LvR.v, by rw [List.map_map]; exact hws, hkeys, hans.mono (n0up h60 (Nat.le_refl _))⟩, keep_of_p K KP (fun b hb => by have := hb.1; omega)⟩
end Go.Proofs.YtmckkklhonfmcaaGreat
namespace Go.Tess
open Go.RowKit
section
variable {P : Program} {χ : Chi} {ρ : Operand → Option Value} {h : Heap} {ty : TypeId} {pos : String} {after : Array Edge} {guard : Option (Nat × Bool)} {dst : Option Tmp} {x y : Operand} {t t2 e : TypeId}
theorem v_slice_lo {sz b o m c i : Nat} {k : IntKind} {j : Int} (ht : P.underlying t = some (.slice e)) (hs : Siz P e sz)
    (hx : ρ x = some (.slice (some ⟨b, o, none⟩) m c)) (hy : ρ y = some (.int k j)) (hj : j = (i : Int)) (hi : i ≤ m) (hc : m ≤ c) :
    OpV P χ ⟨dst, .slice t x (some y) none none, ty, pos, after, guard⟩ ρ h (.slice (some ⟨b, if c = i then o else o + i * sz, none⟩) (m - i) (c - i)) := by
  intro r d hr
  have e1 := hr x (by simp [Op.operands]) _ hx
  have e2 := hr y (by simp [Op.operands]) _ hy
  subst hj
  have he := elem_of ht
  have h1 := run_slice_l (w := mkw χ h d) t (some ⟨b, o, none⟩) m c (by rw [he]; exact ht) k (i : Int) (by omega) (by omega)
  rw [he, hs, Result.andThen_ok] at h1
  have h2 : sliced (some ⟨b, o, none⟩) (Int.toNat (i : Int)) m c sz = .slice (some ⟨b, if c = i then o else o + i * sz, none⟩) (m - i) (c - i) := by
    simp only [sliced, Int.toNat_natCast]
    split
    · rfl
    · simp only [Option.map_some, addr_add]
  rw [h2] at h1
  simp [execOp, e1, e2, run_sliceAt_slice (mkw χ h d) t _ _ _ _ (by rw [he]; exact ht), h1]
end
end Go.Tess
namespace Go.Proofs.YtmckkklhonfmcaaGreat
open Go.Tess Go.RowKit
set_option maxRecDepth 100000
set_option maxHeartbeats 1000000
set_option maxHeartbeats 1000000
def idxB (l : List ByteArray) (key : ByteArray) : Nat → Nat
  | 0 => 0
  | n + 1 => if slt (atB l n) key then n + 1 else idxB l key n
def addB (l : List ByteArray) (key : ByteArray) : List ByteArray :=
  if idxB l key l.length < l.length ∧ atB l (idxB l key l.length) = key then l else l.take (idxB l key l.length) ++ key :: l.drop (idxB l key l.length)
theorem idxB_le (l : List ByteArray) (key : ByteArray) : ∀ n, idxB l key n ≤ n
  | 0 => Nat.le_refl _
  | n + 1 => by unfold idxB; split; exact Nat.le_refl _; have := idxB_le l key n; omega
theorem own_some {h : Heap} {base : Nat} {e : TypeId} {sz n c : Nat} {a : Option Addr} {xs : List Value} (O : Own h base e sz (.slice a n c) n xs) (hn : 0 < n) : ∃ g, a = some ⟨g, 0, none⟩ := by
  rcases O.form with ⟨_, e2, _⟩ | ⟨g, cap, e1, _⟩
  · omega
  · cases e1; exact ⟨g, rfl⟩
theorem own_room {h : Heap} {base : Nat} {e : TypeId} {sz n c : Nat} {a : Option Addr} {xs : List Value} (O : Own h base e sz (.slice a n c) n xs) : n ≤ c := by
  rcases O.form with ⟨e1, e2, _⟩ | ⟨g, cap, e1, _, _, _, h1, _⟩
  · omega
  · cases e1; exact h1
set_option maxHeartbeats 1000000
def bndF (W : List SpanD) : List ByteArray := W.foldl (fun l s => addB (addB l s.s) s.e) []
theorem addB_len (l : List ByteArray) (key : ByteArray) : (addB l key).length ≤ l.length + 1 := by
  unfold addB
  split
  · omega
  · have := idxB_le l key l.length
    rw [List.length_append, List.length_cons, List.length_take, List.length_drop]; omega
end Go.Proofs.YtmckkklhonfmcaaGreat
namespace Go.Tess
open Go.RowKit
end Go.Tess
namespace Go.Proofs.YtmckkklhonfmcaaGreat
open Go.Tess Go.RowKit
set_option maxRecDepth 100000
set_option maxHeartbeats 1000000
def visSp (n : Nat) (s : SpanD) : SpanD := ⟨s.s, s.e, s.ks.filter (visK n)⟩
set_option maxHeartbeats 2000000
def covK (W : List SpanD) (a b : ByteArray) : List KeyD := ((W.filter (fun x => sle x.s a && sle b x.e)).map SpanD.ks).flatten
def fragP (B : List ByteArray) (W : List SpanD) (j : Nat) : Option SpanD := if covK W (atB B j) (atB B (j + 1)) = [] then none else some ⟨atB B j, atB B (j + 1), canonF (covK W (atB B j) (atB B (j + 1)))⟩
def fragF (W : List SpanD) : List SpanD := (List.range ((bndF W).length - 1)).filterMap (fragP (bndF W) W)
theorem bndF_len : ∀ W : List SpanD, (bndF W).length ≤ 2 * W.length := by
  intro W
  have : ∀ (W : List SpanD) (l : List ByteArray), (W.foldl (fun l s => addB (addB l s.s) s.e) l).length ≤ l.length + 2 * W.length := by
    intro W
    induction W with
    | nil => intro l; simp
    | cons s W ih =>
      intro l
      rw [List.foldl_cons, List.length_cons]
      have h1 := ih (addB (addB l s.s) s.e)
      have h2 := addB_len (addB l s.s) s.e
      have h3 := addB_len l s.s
      omega
  have := this W []
  simpa [bndF] using this
theorem covK_len {W : List SpanD} {a b : ByteArray} {n : Nat} (h : ∀ s, s ∈ W → s.ks.length ≤ n) : (covK W a b).length ≤ W.length * n := by
  unfold covK
  refine Nat.le_trans (flat_le (n := n) _ fun c hc => ?_) ?_
  · obtain ⟨x, hx, rfl⟩ := List.mem_map.1 hc
    exact h x (List.mem_filter.1 hx).1
  · rw [List.length_map]
    exact Nat.mul_le_mul_right _ (List.length_filter_le _ _)
set_option maxHeartbeats 1000000
def fit3 (l : List (List SpanD)) : Bool := decide (l.length ≤ MX) && l.all fit4
def levB (ws : List (List SpanD)) (n : Int) : Bool := ws.all (fun W => mostB W n && wellB W) && decide ((ws.length : Int) ≤ 6)
def mergF (ws : List (List SpanD)) (n : Nat) : List SpanD := (fragF ws.flatten).map (visSp n)
theorem RLevels.kk {h h' : Heap} {v : Value} {W : List (List SpanD)} (hr : RLevels (All h) h v W) (K : Keep [] h h') : RLevels (All h') h' v W := (RLevels.stab hr (all_st K)).mono (all_up K)
theorem all_false {α : Type} {L : List α} {k : Nat} {x : α} {f : α → Bool} (h : L[k]? = some x) (hf : f x = false) : L.all f = false := by
  rw [List.all_eq_false]
  exact ⟨x, List.mem_of_getElem? h, by rw [hf]; decide⟩
theorem take_all' {α : Type} {L : List α} {k : Nat} {x : α} {f : α → Bool} (h : L[k]? = some x) : (L.take (k + 1)).all f = ((L.take k).all f && f x) := by rw [take_snoc' h, List.all_append]; simp
theorem c_zzFits3 (χ : Chi) (h : Heap) (A : Nat → Prop) (hA : Low A h) (v : Value) (ws : List (List SpanD)) (hW : RLevels A h v ws) :
    Cl Tryz.prog χ 11 #[v] h (fun r h' => r = .bool (fit3 ws) ∧ Keep [] h h') := by
  obtain ⟨hlen, a, c, rfl, hx⟩ := hW.form
  refine cl_intro Tryz.func11 rfl rfl rfl ?_
  have K : Keep [] h h := Keep.refl _ _
  refine rG <| rA rfl rfl <| rN ?_
  refine tr_seq ?_
  refine rG <| rM rfl rfl <| rs_v (v_len u_sl_sl_spec_Span rfl) rfl ?_
  refine rs_v (v_gt rfl rfl) rfl ?_
  refine rN ?_
  refine tr_if rfl (fun hif => ?_) (fun hif => ?_)
  · -- yes
    simp only [dT, dF] at hif
    refine rG <| rA rfl rfl <| rN <| tr_ret <| q_thn_ret <| q_ret (res_tmp rfl rfl) ?_
    refine ⟨?_, K⟩
    simp only [fit3, ofNat_gt hif, Bool.false_and]
  -- no
  simp only [dT, dF] at hif
  have hmx := ofNat_le hif
  clear hif
  refine tr_skip ?_
  refine q_thn ?_
  refine tr_seq ?_
  refine rG <| rM rfl rfl <| rs_v (v_len u_sl_sl_spec_Span rfl) rfl ?_
  refine rM rfl rfl <| rN <| tr_block ?_
  refine tr_loop (fun m E h' => ∃ k, k ≤ ws.length ∧ m = ws.length - k ∧ E = [(8, .slice a ws.length c), (9, .int .i64 (ws.length : Int)), (10, .int .i64 (k : Int))] ∧ Keep [] h h' ∧ (ws.take k).all fit4 = true) ws.length [(8, _), (9, _), (10, _)] ⟨rfl, rfl, rfl, trivial⟩ ⟨0, Nat.zero_le _, rfl, rfl, K, rfl⟩ ?_
  rintro m E hL1 ⟨k, hk, rfl, rfl, K, hall⟩
  refine rG <| rs_v (v_lt rfl rfl) rfl ?_
  refine rN ?_
  refine tr_seq ?_
  refine tr_ifn rfl (fun hif => ?_) (fun hif => ?_)
  · -- no
    simp only [dT, dF] at hif
    have hkk : k = ws.length := by omega
    subst hkk
    refine tr_exit <| q_thn_exit ?_
    refine q_lp_exit ?_
    refine q_blk_hit ?_
    refine q_thn ?_
    refine rG <| rA rfl rfl <| rN <| tr_ret <| q_ret (res_tmp rfl rfl) ?_
    refine ⟨?_, K⟩
    rw [List.take_length] at hall
    simp only [fit3, hall, hmx, Bool.true_and]
  -- yes
  simp only [dT, dF] at hif
  rcases hx with rfl | ⟨b, o, rfl, hAb, hR⟩
  · simp at hif; omega
  obtain ⟨W, hsk⟩ := ex_get (L := ws) (k := k) (by omega)
  obtain ⟨kv, hcc, hkx⟩ := hR k W hsk
  obtain ⟨ka, kc, rfl⟩ := SlR.form2 hkx
  have hcells := K.cells (by simp) hcc
  have hWS := hkx.stab (K.st hA)
  refine tr_skip ?_
  refine q_thn ?_
  refine tr_seq ?_
  refine tr_block <| rG <| rs_v (v_indexAddrN u_sl_sl_spec_Span siz_sl_spec_Span rfl rfl (by omega)) rfl ?_
  refine rs_v (v_load one_sl_spec_Span rfl (by exact hcells 0 _ rfl)) rfl ?_
  refine rA rfl rfl <| rN <| rG <| rM rfl rfl <| rs_w (w_call (vs := [_]) ok_laws_zzFits4 rfl ⟨rfl, trivial⟩ (c_zzFits4 χ _ A (hA.mono K.1) _ W hWS)) rfl ?_
  rintro _ h2 ⟨rfl, K2⟩
  have K := K.new0 K2; have Z2 := K2.1
  refine rs_v (v_not rfl) rfl ?_
  refine rN ?_
  refine tr_if rfl (fun hif => ?_) (fun hif => ?_)
  · -- yes
    have hf : fit4 W = false := by simpa using hif
    refine rG <| rA rfl rfl <| rN <| tr_ret <| q_blk_ret <| q_thn_ret ?_
    refine q_lp_ret ?_
    refine q_blk_ret <| q_thn_ret <| q_ret (res_tmp rfl rfl) ?_
    refine ⟨?_, K⟩
    simp only [fit3, all_false hsk hf, Bool.and_false]
  -- no
  have hf : fit4 W = true := by simpa using hif
  refine tr_skip <| q_blk_n ?_
  refine q_thn ?_
  refine tr_reg ?_
  refine rs_v (v_add rfl rfl (by omega) (by omega)) rfl ?_
  refine rM rfl rfl ?_
  refine rs_nil ?_
  refine q_lp (ws.length - (k + 1)) [(8, _), (9, _), (10, _)] (by omega) ⟨rfl, rfl, rfl, trivial⟩ ⟨k + 1, by omega, rfl, rfl, K, ?_⟩
  rw [take_all' hsk, hall, hf]
  rfl
theorem c_spanLevels (χ : Chi) (h : Heap) (A : Nat → Prop) (hA : Low A h) (v : Value) (ws : List (List SpanD)) (n : Int) (hW : RLevels A h v ws) :
    Cl Tryz.prog χ 12 #[v, .int .i64 n] h (fun r h' => r = .bool (levB ws n) ∧ Keep [] h h') := by
  obtain ⟨hlen, a, c, rfl, hx⟩ := hW.form
  refine cl_intro Tryz.func12 rfl rfl rfl ?_
  have K : Keep [] h h := Keep.refl _ _
  refine rG <| rA rfl rfl <| rN ?_
  refine tr_seq ?_
  refine rG <| rM rfl rfl <| rs_v (v_len u_sl_sl_spec_Span rfl) rfl ?_
  refine rM rfl rfl <| rN <| tr_block ?_
  refine tr_loop (fun m E h' => ∃ k, k ≤ ws.length ∧ m = ws.length - k ∧ E = [(0, .slice a ws.length c), (1, .int .i64 n), (7, .slice a ws.length c), (8, .int .i64 (ws.length : Int)), (9, .int .i64 (k : Int))] ∧ Keep [] h h' ∧ (ws.take k).all (fun W => mostB W n && wellB W) = true) ws.length [(0, _), (1, _), (7, _), (8, _), (9, _)] ⟨rfl, rfl, rfl, rfl, rfl, trivial⟩ ⟨0, Nat.zero_le _, rfl, rfl, K, rfl⟩ ?_
  rintro m E hL1 ⟨k, hk, rfl, rfl, K, hall⟩
  refine rG <| rs_v (v_lt rfl rfl) rfl ?_
  refine rN ?_
  refine tr_seq ?_
  refine tr_ifn rfl (fun hif => ?_) (fun hif => ?_)
  · -- no
    simp only [dT, dF] at hif
    have hkk : k = ws.length := by omega
    subst hkk
    refine tr_exit <| q_thn_exit ?_
    refine q_lp_exit ?_
    refine q_blk_hit ?_
    refine q_thn ?_
    refine rG <| rM rfl rfl <| rs_v (v_len u_sl_sl_spec_Span rfl) rfl ?_
    refine rs_v (v_le rfl rfl) rfl ?_
    refine rA rfl rfl <| rN <| tr_ret <| q_ret (res_tmp rfl rfl) ?_
    refine ⟨?_, K⟩
    rw [List.take_length] at hall
    simp only [levB, hall, Bool.true_and]
  -- yes
  simp only [dT, dF] at hif
  rcases hx with rfl | ⟨b, o, rfl, hAb, hR⟩
  · simp at hif; omega
  obtain ⟨W, hsk⟩ := ex_get (L := ws) (k := k) (by omega)
  obtain ⟨kv, hcc, hkx⟩ := hR k W hsk
  obtain ⟨ka, kc, rfl⟩ := SlR.form2 hkx
  have hcells := K.cells (by simp) hcc
  have hWS := hkx.stab (K.st hA)
  refine tr_skip ?_
  refine q_thn ?_
  refine tr_seq ?_
  refine tr_block <| rG <| rs_v (v_indexAddrN u_sl_sl_spec_Span siz_sl_spec_Span rfl rfl (by omega)) rfl ?_
  refine rs_v (v_load one_sl_spec_Span rfl (by exact hcells 0 _ rfl)) rfl ?_
  refine rA rfl rfl <| rN <| rG <| rM rfl rfl <| rM rfl rfl <| rs_w (w_call (vs := [_, _]) ok_laws_spanWell rfl ⟨rfl, rfl, trivial⟩ (c_spanWell χ _ A (hA.mono K.1) _ W n hWS)) rfl ?_
  rintro _ h2 ⟨rfl, K2⟩
  have K := K.new0 K2; have Z2 := K2.1
  refine rs_v (v_not rfl) rfl ?_
  refine rN ?_
  refine tr_if rfl (fun hif => ?_) (fun hif => ?_)
  · -- yes
    rw [Bool.not_eq_true'] at hif
    have hf := hif
    refine rG <| rA rfl rfl <| rN <| tr_ret <| q_blk_ret <| q_thn_ret ?_
    refine q_lp_ret ?_
    refine q_blk_ret <| q_thn_ret <| q_ret (res_tmp rfl rfl) ?_
    refine ⟨?_, K⟩
    simp only [levB, all_false (f := fun W => mostB W n && wellB W) hsk hf, Bool.false_and]
  -- no
  rw [Bool.not_eq_false'] at hif
  have hf := hif
  refine tr_skip <| q_blk_n ?_
  refine q_thn ?_
  refine tr_reg ?_
  refine rs_v (v_add rfl rfl (by omega) (by omega)) rfl ?_
  refine rM rfl rfl ?_
  refine rs_nil ?_
  refine q_lp (ws.length - (k + 1)) [(0, _), (1, _), (7, _), (8, _), (9, _)] (by omega) ⟨rfl, rfl, rfl, rfl, rfl, trivial⟩ ⟨k + 1, by omega, rfl, rfl, K, ?_⟩
  rw [take_all' hsk, hall, hf]
  rfl
theorem c_toLevels (χ : Chi) (h : Heap) (A : Nat → Prop) (hA : Low A h) (v : Value) (ws : List (List SpanD)) (hW : RLevels A h v ws) (hn : ws.length ≤ 100) (hl : ∀ W, W ∈ ws → W.length ≤ 100000) (hm : ∀ W, W ∈ ws → ∀ s, s ∈ W → s.ks.length ≤ 100000) :
    Cl Tryz.prog χ 16 #[v] h (fun r h' => RLevels (Up A h h') h' r ws ∧ Keep [] h h') := by
  obtain ⟨hlen, a, c, rfl, hx⟩ := hW.form
  refine cl_intro Tryz.func16 rfl rfl rfl ?_
  have K : Keep [] h h := Keep.refl _ _
  refine rG <| rA rfl rfl <| rN <| rG <| rA rfl rfl <| rN ?_
  refine tr_seq ?_
  refine rG <| rM rfl rfl <| rs_v (v_len u_sl_sl_spec_Span rfl) rfl ?_
  refine rM rfl rfl <| rN <| tr_block ?_
  refine tr_loop (fun m E h' => ∃ k v n, k ≤ ws.length ∧ m = ws.length - k ∧ E = [(3, v), (6, .slice a ws.length c), (7, .int .i64 (ws.length : Int)), (8, .int .i64 (k : Int))] ∧ Keep [] h h' ∧ n = (ws.take k).length ∧ OutR A h h' h.size 29 1 cLevel v n (ws.take k)) ws.length [(3, _), (6, _), (7, _), (8, _)] ⟨rfl, rfl, rfl, rfl, trivial⟩ ⟨0, _, 0, Nat.zero_le _, rfl, rfl, K, rfl, OutR.nil _ _ _ _ _ _ _⟩ ?_
  rintro m E hL1 ⟨k, v, n, hk, rfl, rfl, K, hn2, hout⟩
  have hout0 := hout
  obtain ⟨xs, F, O, hrow, hF⟩ := hout
  have hob := own_ne O; have KL := Keep.refl [] hL1
  refine rG <| rs_v (v_lt rfl rfl) rfl ?_
  refine rN ?_
  refine tr_seq ?_
  refine tr_ifn rfl (fun hif => ?_) (fun hif => ?_)
  · -- no
    simp only [dT, dF] at hif
    have hkk : k = ws.length := by omega
    subst hkk
    refine tr_exit <| q_thn_exit ?_
    refine q_lp_exit ?_
    refine q_blk_hit ?_
    refine q_thn ?_
    refine rG <| rM rfl rfl <| rA rfl rfl <| rN <| tr_ret <| q_ret (res_tmp rfl rfl) ?_
    rw [List.take_length] at hout0 hn2
    exact ⟨hout0.fin cLevel_st hn2 (Nat.le_refl _) cLevel_r, K⟩
  -- yes
  simp only [dT, dF] at hif
  rcases hx with rfl | ⟨b, o, rfl, hAb, hR⟩
  · simp at hif; omega
  obtain ⟨W, hsk⟩ := ex_get (L := ws) (k := k) (by omega)
  obtain ⟨kv, hcc, hkx⟩ := hR k W hsk
  obtain ⟨ka, kc, rfl⟩ := SlR.form2 hkx
  have hcells := K.cells (by simp) hcc
  have hWS := hkx.stab (K.st hA)
  have KL0 := K.1
  have hnk : n = k := by rw [hn2, List.length_take]; omega
  have hWm := List.mem_of_getElem? hsk
  refine tr_skip ?_
  refine q_thn ?_
  refine tr_seq ?_
  refine tr_block <| rG <| rs_v (v_indexAddrN u_sl_sl_spec_Span siz_sl_spec_Span rfl rfl (by omega)) rfl ?_
  refine rs_v (v_load one_sl_spec_Span rfl (by exact hcells 0 _ rfl)) rfl ?_
  refine rA rfl rfl <| rN ?_
  refine tr_reg ?_
  refine rM rfl rfl <| rM rfl rfl <| rs_w (w_call (vs := [_]) ok_laws_toSpans rfl ⟨rfl, trivial⟩ (c_toSpans χ _ A (hA.mono K.1) _ W hWS (hl W hWm) (hm W hWm))) rfl ?_
  rintro w2 h2 ⟨hw, K2⟩
  obtain ⟨aw, cw, rfl⟩ := SlR.form2 hw
  have O := O.keep2 K2 (fun x hm => by have := hob x hm; simp; try omega)
  have K := K.new0 K2; have Z2 := K2.1; have KL := KL.new0 K2
  refine rs_w (w_new1 u_sl_sl_impl_Span siz_sl_impl_Span zero_sl_impl_Span rfl rfl rfl rfl rfl) rfl ?_
  rintro _ h3 ⟨rfl, B3, K3, Z3⟩
  have O := O.keep2 K3 (fun x hm => by have := hob x hm; simp; try omega)
  have S3 := K.1; have K := K.new0 K3; have KL := KL.new0 K3
  refine rs_w (w_app1 u_sl_sl_impl_Span info_sl_impl_Span rfl rfl rfl O rfl rfl B3 rfl (by omega) (by omega) (by omega)) rfl ?_
  rintro v4 h4 ⟨O4, K4, N4, F4⟩
  have K := K.newX K4 (fun x hm => .inr (by have := hob x hm; omega)); have Z4 := K4.1
  have B3 := K4.blk (fun hm => by first | (have := hob _ hm; omega) | exact absurd rfl (hnb _ hm)) B3
  refine rA rfl rfl ?_
  refine rs_nil ?_
  refine q_blk_n ?_
  refine q_thn ?_
  refine tr_reg ?_
  refine rs_v (v_add rfl rfl (by omega) (by omega)) rfl ?_
  refine rM rfl rfl ?_
  refine rs_nil ?_
  refine q_lp (ws.length - (k + 1)) [(3, _), (6, _), (7, _), (8, _)] (by omega) ⟨rfl, rfl, rfl, rfl, trivial⟩ ⟨k + 1, v4, n + 1, by omega, rfl, rfl, K, ?_, ?_⟩
  · rw [take_snoc' hsk]; rw [List.length_append, ← hn2]; rfl
  · rw [take_snoc' hsk]
    exact OutR.snoc cLevel_st hA (by omega) hob hrow hF KL0 KL O4 K4 F4 rfl (⟨_, rfl, (RSpans.stab hw (K3.st ((hA.mono (by omega)).up K2.1))).mono (Up.trans2 (by omega) K3.1)⟩)
set_option maxHeartbeats 1000000
theorem kle_iff (a b : KeyD) : keyLess b a = false ↔ (b.tr < a.tr ∨ (a.tr = b.tr ∧ (slt a.suf b.suf = true ∨ (a.suf = b.suf ∧ sle a.val b.val = true)))) := by
  unfold keyLess
  by_cases e : b.tr = a.tr
  · rw [if_pos e]
    by_cases e2 : b.suf = a.suf
    · rw [if_pos (seq'_eq.2 e2), not_slt]
      constructor
      · intro h; exact .inr ⟨e.symm, .inr ⟨e2.symm, h⟩⟩
      · rintro (h | ⟨_, h | ⟨_, h⟩⟩)
        · omega
        · rw [e2, slt_irr] at h; cases h
        · exact h
    · rw [if_neg (fun h => e2 (seq'_eq.1 h)), not_slt]
      constructor
      · intro h; exact .inr ⟨e.symm, .inl (slt_of_sle_ne h (fun h2 => e2 h2.symm))⟩
      · rintro (h | ⟨_, h | ⟨h, _⟩⟩)
        · omega
        · exact slt_sle h
        · exact absurd h.symm e2
  · rw [if_neg e, decide_eq_false_iff_not]
    constructor
    · intro h; exact .inl (by omega)
    · rintro (h | ⟨h, _⟩)
      · omega
      · exact absurd h.symm e
theorem kle_anti {a b : KeyD} (h1 : keyLess b a = false) (h2 : keyLess a b = false) : a = b := by
  rcases (kle_iff a b).1 h1 with h | ⟨e, h⟩ <;> rcases (kle_iff b a).1 h2 with g | ⟨e2, g⟩
  · omega
  · omega
  · omega
  · rcases h with h | ⟨h, h'⟩ <;> rcases g with g | ⟨g, g'⟩
    · have := slt_tr h g; rw [slt_irr] at this; cases this
    · rw [g, slt_irr] at h; cases h
    · rw [h, slt_irr] at g; cases g
    · have h9 := sle_anti h' g'
      obtain ⟨t, s, v⟩ := a
      obtain ⟨t2, s2, v2⟩ := b
      simp only at e h h9
      subst e; subst h; subst h9; rfl
theorem kle_trans {a b c : KeyD} (h1 : keyLess b a = false) (h2 : keyLess c b = false) : keyLess c a = false := by
  rw [kle_iff] at *
  rcases h1 with h | ⟨e, h⟩ <;> rcases h2 with g | ⟨e2, g⟩
  · exact .inl (by omega)
  · exact .inl (by omega)
  · exact .inl (by omega)
  · refine .inr ⟨by omega, ?_⟩
    rcases h with h | ⟨h, h'⟩ <;> rcases g with g | ⟨g, g'⟩
    · exact .inl (slt_tr h g)
    · exact .inl (by rw [← g]; exact h)
    · exact .inl (by rw [h]; exact g)
    · exact .inr ⟨h.trans g, sle_trans h' g'⟩
theorem kless_asymm {a b : KeyD} (h : keyLess a b = true) : keyLess b a = false := by
  cases e : keyLess b a with
  | false => rfl
  | true =>
    exfalso
    have h1 : keyLess a b = false := (kle_iff b a).2 (by
      unfold keyLess at e
      by_cases e1 : b.tr = a.tr
      · rw [if_pos e1] at e
        by_cases e2 : b.suf = a.suf
        · rw [if_pos (seq'_eq.2 e2)] at e; exact .inr ⟨e1, .inr ⟨e2, slt_sle e⟩⟩
        · rw [if_neg (fun h => e2 (seq'_eq.1 h))] at e; exact .inr ⟨e1, .inl e⟩
      · rw [if_neg e1] at e; exact .inl (of_decide_eq_true e))
    rw [h1] at h; cases h
theorem swap_ap (A C : List KeyD) (a x : KeyD) : swapAt (A ++ a :: x :: C) A.length = A ++ x :: a :: C := by
  unfold swapAt
  have h1 : (A ++ a :: x :: C)[A.length + 1]? = some x := by rw [List.getElem?_append_right (by omega), show A.length + 1 - A.length = 1 from by omega]; rfl
  have h2 : (A ++ a :: x :: C)[A.length]? = some a := by rw [List.getElem?_append_right (by omega), Nat.sub_self]; rfl
  rw [h1, h2]
  simp only
  rw [List.set_append, if_neg (by omega), show A.length + 1 - A.length = 1 from by omega, List.set_append, if_neg (by omega), Nat.sub_self]
  rfl
theorem insW_form (x : KeyD) : ∀ (n : Nat) (A : List KeyD), A.length = n → A.Pairwise (fun a b => keyLess b a = false) → ∀ C, ∃ A1 A2, A = A1 ++ A2 ∧ insW (A ++ x :: C) n = A1 ++ x :: A2 ++ C ∧ (∀ a, a ∈ A2 → keyLess x a = true) ∧ ∀ a, a ∈ A1 → keyLess x a = false
  | 0, A, hA, _, C => ⟨[], [], by simpa using hA, by
    have : A = [] := List.eq_nil_of_length_eq_zero hA
    subst this; rfl, by simp, by simp⟩
  | n + 1, A, hA, hp, C => by
    obtain ⟨A', a, rfl⟩ : ∃ A' a, A = A' ++ [a] := by
      rcases List.eq_nil_or_concat A with e | ⟨A', a, e⟩
      · subst e; simp at hA
      · exact ⟨A', a, by simpa using e⟩
    have hA' : A'.length = n := by simpa using hA
    have hl : lessAt (A' ++ [a] ++ x :: C) (n + 1) = keyLess x a := by
      unfold lessAt
      have e0 : A' ++ [a] ++ x :: C = A' ++ a :: x :: C := by simp
      have h1 : (A' ++ a :: x :: C)[n + 1]? = some x := by rw [← hA', List.getElem?_append_right (by omega), show A'.length + 1 - A'.length = 1 from by omega]; rfl
      have h2 : (A' ++ a :: x :: C)[n]? = some a := by rw [← hA', List.getElem?_append_right (by omega), Nat.sub_self]; rfl
      rw [e0]
      simp only [h1, h2]
    rw [List.pairwise_append] at hp
    cases e : keyLess x a with
    | true =>
      rw [insW_go (by rw [hl]; exact e)]
      have e0 : A' ++ [a] ++ x :: C = A' ++ a :: x :: C := by simp
      have hs := swap_ap A' C a x
      rw [hA'] at hs
      rw [e0, hs]
      obtain ⟨A1, A2, h1, h2, h3, h4⟩ := insW_form x n A' hA' hp.1 (a :: C)
      refine ⟨A1, A2 ++ [a], by rw [h1]; simp, by rw [h2]; simp, fun b hb => ?_, h4⟩
      rcases List.mem_append.1 hb with hb | hb
      · exact h3 b hb
      · rw [List.mem_singleton.1 hb]; exact e
    | false =>
      rw [insW_stop (by rw [hl]; exact e)]
      refine ⟨A' ++ [a], [], by simp, by simp, by simp, fun b hb => ?_⟩
      rcases List.mem_append.1 hb with hb | hb
      · exact kle_trans (hp.2.2 b hb a (by simp)) e
      · rw [List.mem_singleton.1 hb]; exact e
theorem canonF_ok (l : List KeyD) : ∀ k, k ≤ l.length → (canonF (l.take k)).Perm (l.take k) ∧ (canonF (l.take k)).Pairwise (fun a b => keyLess b a = false)
  | 0, _ => by simp [canonF]
  | k + 1, hk => by
    obtain ⟨hp, hs⟩ := canonF_ok l k (by omega)
    obtain ⟨x, hx⟩ := ex_get (L := l) (k := k) (by omega)
    rw [take_snoc' hx, canonF_snoc]
    obtain ⟨A1, A2, h1, h2, h3, h4⟩ := insW_form x _ (canonF (l.take k)) rfl hs []
    rw [h2, List.append_nil]
    refine ⟨?_, ?_⟩
    · refine List.Perm.trans List.perm_middle ?_
      rw [← h1]
      exact (hp.cons x).trans (List.perm_append_singleton x _).symm
    · rw [h1, List.pairwise_append] at hs
      rw [List.pairwise_append, List.pairwise_cons]
      refine ⟨hs.1, ⟨fun a ha => kless_asymm (h3 a ha), hs.2.1⟩, fun a ha b hb => ?_⟩
      rcases List.mem_cons.1 hb with rfl | hb
      · exact h4 a ha
      · exact hs.2.2 a ha b hb
theorem canonF_perm (l : List KeyD) : (canonF l).Perm l := by have := (canonF_ok l l.length (Nat.le_refl _)).1; rwa [List.take_length] at this
theorem canonF_srt (l : List KeyD) : (canonF l).Pairwise (fun a b => keyLess b a = false) := by have := (canonF_ok l l.length (Nat.le_refl _)).2; rwa [List.take_length] at this
theorem srt_unique : ∀ (l1 l2 : List KeyD), l1.Perm l2 → l1.Pairwise (fun a b => keyLess b a = false) → l2.Pairwise (fun a b => keyLess b a = false) → l1 = l2
  | [], l2, hp, _, _ => by rw [List.nil_perm.1 hp]
  | a :: l1, [], hp, _, _ => by have := hp.length_eq; simp at this
  | a :: l1, b :: l2, hp, h1, h2 => by
    rw [List.pairwise_cons] at h1 h2
    have hab : a = b := by
      have m1 : a ∈ b :: l2 := hp.mem_iff.1 (by simp)
      have m2 : b ∈ a :: l1 := hp.mem_iff.2 (by simp)
      rcases List.mem_cons.1 m1 with e | m1
      · exact e
      · rcases List.mem_cons.1 m2 with e | m2
        · exact e.symm
        · exact kle_anti (h1.1 b m2) (h2.1 a m1)
    subst hab
    rw [srt_unique l1 l2 (List.Perm.cons_inv hp) h1.2 h2.2]
theorem canonF_congr {l1 l2 : List KeyD} (h : l1.Perm l2) : canonF l1 = canonF l2 :=
  srt_unique _ _ ((canonF_perm l1).trans (h.trans (canonF_perm l2).symm)) (canonF_srt l1) (canonF_srt l2)

inductive Alk : List SpanD → List SpanD → Prop
  | nil : Alk [] []
  | cons {a b : SpanD} {l1 l2 : List SpanD} : a.s = b.s → a.e = b.e → canonF a.ks = canonF b.ks → descB a.ks = true → few a → few b → Alk l1 l2 → Alk (a :: l1) (b :: l2)
section
variable {W1 W2 : List SpanD}
theorem walkP_len {W : List SpanD} : ∀ (l : List StepD) (p : Pos), (walkP W p l).length = l.length
  | [], p => rfl
  | s :: l, p => by simp [walkP, walkP_len l]
theorem alk_fm {α : Type} {f g : α → Option SpanD} : ∀ (L : List α), (∀ j, j ∈ L → (f j = none ∧ g j = none) ∨ ∃ a b, f j = some a ∧ g j = some b ∧ a.s = b.s ∧ a.e = b.e ∧ canonF a.ks = canonF b.ks ∧ descB a.ks = true ∧ few a ∧ few b) → Alk (L.filterMap f) (L.filterMap g)
  | [], _ => Alk.nil
  | x :: L, h => by
    have ih := alk_fm L fun j hj => h j (by simp [hj])
    rcases h x (by simp) with ⟨h1, h2⟩ | ⟨a, b, h1, h2, h3, h4, h5, h6, h7, h8⟩
    · rw [List.filterMap_cons, List.filterMap_cons, h1, h2]; exact ih
    · rw [List.filterMap_cons, List.filterMap_cons, h1, h2]; exact Alk.cons h3 h4 h5 h6 h7 h8 ih
end
set_option maxHeartbeats 1000000
def sB (a b : ByteArray) : Prop := slt a b = true
section
variable {l : List ByteArray} {key : ByteArray}
theorem idxB_hi : ∀ (n j : Nat), idxB l key n ≤ j → j < n → slt (atB l j) key = false
  | 0, j, _, h => by omega
  | n + 1, j, h1, h2 => by
    unfold idxB at h1
    by_cases e : slt (atB l n) key = true
    · rw [if_pos e] at h1; omega
    · rw [if_neg e] at h1
      by_cases e2 : j = n
      · subst e2; simpa using e
      · exact idxB_hi n j h1 (by omega)
theorem idxB_lo : ∀ (n : Nat), idxB l key n ≠ 0 → slt (atB l (idxB l key n - 1)) key = true
  | 0, h => absurd rfl h
  | n + 1, h => by
    unfold idxB at h ⊢
    by_cases e : slt (atB l n) key = true
    · rw [if_pos e]; exact e
    · rw [if_neg e] at h ⊢; exact idxB_lo n h
theorem pw_atB (hp : l.Pairwise sB) {i j : Nat} (hij : i < j) (hj : j < l.length) : slt (atB l i) (atB l j) = true := by
  rw [List.pairwise_iff_getElem] at hp
  have h1 := hp i j (by omega) hj hij
  rw [atB_some (List.getElem?_eq_getElem (by omega)), atB_some (List.getElem?_eq_getElem hj)]
  exact h1
theorem addB_ok (hp : l.Pairwise sB) : (addB l key).Pairwise sB ∧ ∀ x, x ∈ addB l key ↔ (x ∈ l ∨ x = key) := by
  have hle := idxB_le l key l.length
  unfold addB
  by_cases e : idxB l key l.length < l.length ∧ atB l (idxB l key l.length) = key
  · rw [if_pos e]
    refine ⟨hp, fun x => ⟨.inl, fun h => h.elim id fun h => ?_⟩⟩
    rw [h, ← e.2]
    exact List.mem_of_getElem? (atB_get e.1)
  · rw [if_neg e]
    constructor
    · rw [List.pairwise_append, List.pairwise_cons]
      have hta : ∀ a, a ∈ l.take (idxB l key l.length) → slt a key = true := fun a ha => by
        obtain ⟨j, hj, rfl⟩ := List.mem_iff_getElem.1 ha
        rw [List.length_take] at hj
        have h1 := idxB_lo (l := l) (key := key) l.length (by omega)
        rw [List.getElem_take]
        have h2 : l[j]'(by omega) = atB l j := (atB_some (List.getElem?_eq_getElem (by omega))).symm
        rw [h2]
        by_cases e2 : j = idxB l key l.length - 1
        · rw [e2]; exact h1
        · exact slt_tr (pw_atB hp (by omega) (by omega)) h1
      have hdr : ∀ a, a ∈ l.drop (idxB l key l.length) → slt key a = true := fun a ha => by
        obtain ⟨j, hj, rfl⟩ := List.mem_iff_getElem.1 ha
        rw [List.length_drop] at hj
        rw [List.getElem_drop]
        have h2 : l[idxB l key l.length + j]'(by omega) = atB l (idxB l key l.length + j) := (atB_some (List.getElem?_eq_getElem (by omega))).symm
        rw [h2]
        have h0 : slt key (atB l (idxB l key l.length)) = true := slt_of_sle_ne (not_slt.1 (idxB_hi l.length _ (Nat.le_refl _) (by omega))) (fun h => e ⟨by omega, h.symm⟩)
        by_cases e2 : j = 0
        · subst e2; exact h0
        · exact slt_tr h0 (pw_atB hp (by omega) (by omega))
      refine ⟨hp.sublist (List.take_sublist _ _), ⟨hdr, hp.sublist (List.drop_sublist _ _)⟩, fun a ha b hb => ?_⟩
      rcases List.mem_cons.1 hb with rfl | hb
      · exact hta a ha
      · exact slt_tr (hta a ha) (hdr b hb)
    · intro x
      have h1 : (x ∈ l.take (idxB l key l.length) ∨ x ∈ l.drop (idxB l key l.length)) ↔ x ∈ l := by
        rw [← List.mem_append, List.take_append_drop]
      rw [List.mem_append, List.mem_cons, ← h1]
      constructor
      · rintro (h | h | h)
        · exact .inl (.inl h)
        · exact .inr h
        · exact .inl (.inr h)
      · rintro ((h | h) | h)
        · exact .inl h
        · exact .inr (.inr h)
        · exact .inr (.inl h)
theorem bndF_ok : ∀ (W : List SpanD) (l : List ByteArray), l.Pairwise sB → (W.foldl (fun l s => addB (addB l s.s) s.e) l).Pairwise sB ∧ ∀ x, x ∈ W.foldl (fun l s => addB (addB l s.s) s.e) l ↔ (x ∈ l ∨ ∃ s, s ∈ W ∧ (x = s.s ∨ x = s.e))
  | [], l, h => ⟨h, fun x => by simp⟩
  | s :: W, l, h => by
    rw [List.foldl_cons]
    have h1 := addB_ok (key := s.s) h
    have h2 := addB_ok (key := s.e) h1.1
    have ih := bndF_ok W _ h2.1
    refine ⟨ih.1, fun x => ?_⟩
    rw [ih.2, h2.2, h1.2]
    constructor
    · rintro (((h | h) | h) | ⟨t, ht, h⟩)
      · exact .inl h
      · exact .inr ⟨s, by simp, .inl h⟩
      · exact .inr ⟨s, by simp, .inr h⟩
      · exact .inr ⟨t, by simp [ht], h⟩
    · rintro (h | ⟨t, ht, h⟩)
      · exact .inl (.inl (.inl h))
      · rcases List.mem_cons.1 ht with rfl | ht
        · rcases h with h | h
          · exact .inl (.inl (.inr h))
          · exact .inl (.inr h)
        · exact .inr ⟨t, ht, h⟩
end
theorem bndF_mem {W : List SpanD} {x : ByteArray} : x ∈ bndF W ↔ ∃ s, s ∈ W ∧ (x = s.s ∨ x = s.e) := by
  have := (bndF_ok W [] List.Pairwise.nil).2 x
  simpa [bndF] using this
theorem bnds_of {ws : List (List SpanD)} (hO : ∀ W, W ∈ ws → Tess.Ord W) : Bnds ws (bndF ws.flatten) := by
  refine ⟨hO, fun i j x y hij hx hy => ?_, fun W r hW h1 h2 => ?_, fun x hx => ?_⟩
  · have hp : (bndF ws.flatten).Pairwise sB := (bndF_ok ws.flatten [] List.Pairwise.nil).1
    have hj := (List.getElem?_eq_some_iff.1 hy).1
    have := pw_atB hp hij hj
    rw [atB_some hx, atB_some hy] at this; exact this
  · rw [bndF_mem]
    by_cases e : r % 2 = 1
    · obtain ⟨t, ht⟩ := ex_get (L := W) (k := (r - 1) / 2) (by omega)
      have h3 := bkW_s ht
      rw [show 2 * ((r - 1) / 2) + 1 = r from by omega] at h3
      exact ⟨t, List.mem_flatten.2 ⟨W, hW, List.mem_of_getElem? ht⟩, .inl h3⟩
    · obtain ⟨t, ht⟩ := ex_get (L := W) (k := r / 2 - 1) (by omega)
      have h3 := bkW_e ht
      rw [show 2 * (r / 2 - 1) + 2 = r from by omega] at h3
      exact ⟨t, List.mem_flatten.2 ⟨W, hW, List.mem_of_getElem? ht⟩, .inr h3⟩
  · obtain ⟨s, hs, h⟩ := bndF_mem.1 hx
    obtain ⟨W, hW, hsW⟩ := List.mem_flatten.1 hs
    obtain ⟨i, hi, e⟩ := List.mem_iff_getElem.1 hsW
    have hi2 : W[i]? = some s := by rw [List.getElem?_eq_getElem hi, e]
    rcases h with rfl | rfl
    · exact ⟨W, hW, 2 * i + 1, by omega, by omega, bkW_s hi2⟩
    · exact ⟨W, hW, 2 * i + 2, by omega, by omega, bkW_e hi2⟩
theorem filter_one {α : Type} {p : α → Bool} : ∀ (W : List α) (m : Nat), (∀ (i : Nat) x, W[i]? = some x → (p x = true ↔ i = m)) → W.filter p = (W[m]?).toList
  | [], m, _ => by simp
  | x :: W, m, h => by
    have h0 := h 0 x rfl
    cases m with
    | zero =>
      rw [List.filter_cons_of_pos (h0.2 rfl)]
      have : W.filter p = [] := List.filter_eq_nil_iff.2 fun y hy e => by
        obtain ⟨i, hi, e2⟩ := List.mem_iff_getElem.1 hy
        have := (h (i + 1) y (by rw [List.getElem?_cons_succ, List.getElem?_eq_getElem hi, e2])).1 e
        omega
      rw [this]; rfl
    | succ m =>
      rw [List.filter_cons_of_neg (fun e => by have := h0.1 e; omega), filter_one W m fun i y hy => by
        have := h (i + 1) y (by simpa using hy)
        exact this.trans (by omega)]
      simp
def lvK (W : List SpanD) (x : ByteArray) : List KeyD := if cE W x % 2 = 1 then ((W[cE W x / 2]?).map SpanD.ks).getD [] else []
theorem cov_lv {ws : List (List SpanD)} {B : List ByteArray} (h : Bnds ws B) {W : List SpanD} (hW : W ∈ ws) {j : Nat} (hj : j + 1 < B.length) :
    ((W.filter (fun x => sle x.s (atB B j) && sle (atB B (j + 1)) x.e)).map SpanD.ks).flatten = lvK W (atB B j) := by
  have hO := h.ord W hW
  have hc := cE_cL h hW hj
  have hle := cE_le W (atB B j)
  have key : ∀ (i : Nat) x, W[i]? = some x → ((sle x.s (atB B j) && sle (atB B (j + 1)) x.e) = true ↔ cE W (atB B j) = 2 * i + 1) := fun i x hx => by
    have hi := (List.getElem?_eq_some_iff.1 hx).1
    have h1 := cE_iff hO (k := atB B j) (r := 2 * i + 1) (by omega) (by omega)
    have h2 := cL_iff hO (k := atB B (j + 1)) (r := 2 * i + 2) (by omega) (by omega)
    rw [bkW_s hx] at h1
    rw [bkW_e hx] at h2
    rw [Bool.and_eq_true, ← h1, ← not_slt, ← Bool.not_eq_true, ← h2, ← hc]
    omega
  unfold lvK
  by_cases e : cE W (atB B j) % 2 = 1
  · rw [if_pos e, filter_one W (cE W (atB B j) / 2) fun i x hx => by rw [key i x hx]; omega]
    cases hx : W[cE W (atB B j) / 2]? <;> simp
  · rw [if_neg e]
    have : W.filter (fun x => sle x.s (atB B j) && sle (atB B (j + 1)) x.e) = [] := List.filter_eq_nil_iff.2 fun x hx e2 => by
      obtain ⟨i, hi, rfl⟩ := List.mem_iff_getElem.1 hx
      have := (key i _ (List.getElem?_eq_getElem hi)).1 e2
      omega
    rw [this]; rfl
theorem covK_flat {a b : ByteArray} : ∀ (ws : List (List SpanD)), covK ws.flatten a b = (ws.map (fun W => ((W.filter (fun x => sle x.s a && sle b x.e)).map SpanD.ks).flatten)).flatten
  | [] => by simp [covK]
  | W :: ws => by
    have ih := covK_flat (a := a) (b := b) ws
    unfold covK at ih ⊢
    rw [List.flatten_cons, List.filter_append, List.map_append, List.flatten_append, ih]; rfl
theorem flat_filter {α β : Type} {p : α → Bool} {f : α → List β} : ∀ (L : List α), ((L.filter p).map f).flatten = (L.map (fun i => if p i then f i else [])).flatten
  | [] => rfl
  | x :: L => by
    have ih := flat_filter (p := p) (f := f) L
    cases e : p x
    · rw [List.filter_cons_of_neg (by rw [e]; decide), ih, List.map_cons, List.flatten_cons, e]; rfl
    · rw [List.filter_cons_of_pos e, List.map_cons, List.flatten_cons, ih, List.map_cons, List.flatten_cons, e]; rfl
theorem range_opt {α β : Type} {F : Nat → β} {g : α → β} (L : List α) (h : ∀ (i : Nat) v, L[i]? = some v → F i = g v) : (List.range L.length).map F = L.map g := by
  refine List.ext_getElem (by simp) fun i h1 h2 => ?_
  simp at h1
  rw [List.getElem_map, List.getElem_map, List.getElem_range]
  exact h i _ (List.getElem?_eq_getElem h1)
def KeysOK (vs : List Lev) : Prop := ∀ v, v ∈ vs → ∀ (s : Nat) x, v.W[s]? = some x → (v.kt s).map KT.k = x.ks
theorem catX_keys {vs : List Lev} (hk : KeysOK vs) (x : ByteArray) : (catX vs x).map KT.k = ((wsO vs).map (fun W => lvK W x)).flatten := by
  unfold catX
  rw [flat_filter, range_opt (g := fun v : Lev => if cE v.W x % 2 = 1 then v.kt (cE v.W x / 2) else []) vs (fun i v hv => by simp [hv]), List.map_flatten, List.map_map]
  unfold wsO
  rw [List.map_map]
  congr 1
  refine List.map_congr_left fun v hv => ?_
  simp only [Function.comp, lvK]
  by_cases e : cE v.W x % 2 = 1
  · rw [if_pos e, if_pos e]
    have hle := cE_le v.W x
    obtain ⟨s, hs⟩ := ex_get (L := v.W) (k := cE v.W x / 2) (by omega)
    rw [hk v hv _ s hs, hs]; rfl
  · rw [if_neg e, if_neg e]; rfl
theorem covK_cat {vs : List Lev} {B : List ByteArray} (h : Bnds (wsO vs) B) (hk : KeysOK vs) {j : Nat} (hj : j + 1 < B.length) : covK (wsO vs).flatten (atB B j) (atB B (j + 1)) = (catX vs (atB B j)).map KT.k := by
  rw [covK_flat, catX_keys hk]
  congr 1
  exact List.map_congr_left fun W hW => cov_lv h hW hj
theorem covB_ne {vs : List Lev} {B : List ByteArray} (h : Bnds (wsO vs) B) (hk : KeysOK vs) (hne : ∀ W, W ∈ wsO vs → ∀ s, s ∈ W → s.ks ≠ []) {j : Nat} (hj : j + 1 < B.length) : covB (wsO vs) (atB B j) = true ↔ covK (wsO vs).flatten (atB B j) (atB B (j + 1)) ≠ [] := by
  rw [covK_cat h hk hj, catX_keys hk]
  unfold covB
  rw [List.any_eq_true]
  constructor
  · rintro ⟨W, hW, e⟩ e2
    have e : cE W (atB B j) % 2 = 1 := by simpa using e
    have hle := cE_le W (atB B j)
    obtain ⟨s, hs⟩ := ex_get (L := W) (k := cE W (atB B j) / 2) (by omega)
    have h1 : lvK W (atB B j) = [] := List.flatten_eq_nil_iff.1 e2 _ (List.mem_map.2 ⟨W, hW, rfl⟩)
    unfold lvK at h1
    rw [if_pos e, hs] at h1
    exact hne W hW s (List.mem_of_getElem? hs) h1
  · intro hn
    cases e : (wsO vs).any (fun W => cE W (atB B j) % 2 == 1) with
    | true => exact List.any_eq_true.1 e
    | false =>
      exfalso
      apply hn
      rw [List.flatten_eq_nil_iff]
      intro l hl
      obtain ⟨W, hW, rfl⟩ := List.mem_map.1 hl
      have := List.any_eq_false.1 e W hW
      unfold lvK
      rw [if_neg (by simpa using this)]
theorem kfM_perm {vs : List Lev} {snap : Nat} {B : List ByteArray} (h : Bnds (wsO vs) B) (hk : KeysOK vs) {j : Nat} (hj : j + 1 < B.length) : (kfM vs snap (atB B j)).Perm ((canonF (covK (wsO vs).flatten (atB B j) (atB B (j + 1)))).filter (visK snap)) := by
  rw [covK_cat h hk hj]
  unfold kfM
  have h1 : ((sortKT (catX vs (atB B j))).filter (fun y => visK snap y.k)).map KT.k = ((sortKT (catX vs (atB B j))).map KT.k).filter (visK snap) := by rw [List.filter_map]; rfl
  rw [h1]
  exact (((sortKT_perm _).map KT.k).trans (canonF_perm _).symm).filter _
theorem kfM_desc {vs : List Lev} {snap : Nat} {x : ByteArray} : descB (kfM vs snap x) = true := by
  rw [desc_pair]
  unfold kfM
  rw [List.pairwise_map]
  exact (sortKT_sorted _).filter _
theorem merged_alike {vs : List Lev} {snap : Nat} {B : List ByteArray} (h : Bnds (wsO vs) B) (hk : KeysOK vs) (hne : ∀ W, W ∈ wsO vs → ∀ s, s ∈ W → s.ks ≠ []) (hB : bndF (wsO vs).flatten = B) (hfew : ∀ x, ((catX vs x).map KT.k).length ≤ 100000) : Alk (mrgW vs snap B) ((fragF (wsO vs).flatten).map (visSp snap)) := by
  unfold mrgW fragF
  rw [hB]
  unfold sgM segs
  rw [List.filterMap_map, List.map_filterMap]
  refine alk_fm _ fun j hj => ?_
  rw [List.mem_range] at hj
  have hj : j + 1 < B.length := by omega
  have hp := kfM_perm (snap := snap) h hk hj
  have hfl : (covK (wsO vs).flatten (atB B j) (atB B (j + 1))).length ≤ 100000 := by rw [covK_cat h hk hj]; exact hfew _
  simp only [Function.comp]
  by_cases e : covB (wsO vs) (atB B j) = true
  · have e2 := (covB_ne h hk hne hj).1 e
    refine .inr ⟨⟨atB B j, atB B (j + 1), kfM vs snap (atB B j)⟩, visSp snap ⟨atB B j, atB B (j + 1), canonF (covK (wsO vs).flatten (atB B j) (atB B (j + 1)))⟩, by unfold covF; exact if_pos e, by unfold fragP; rw [if_neg e2]; rfl, rfl, rfl, canonF_congr hp, kfM_desc, ?_, ?_⟩
    · unfold few
      show (kfM vs snap (atB B j)).length ≤ _
      rw [hp.length_eq]
      refine Nat.le_trans (List.length_filter_le _ _) ?_
      rw [canonF_len]; exact hfl
    · unfold few
      show ((canonF _).filter _).length ≤ _
      refine Nat.le_trans (List.length_filter_le _ _) ?_
      rw [canonF_len]; exact hfl
  · have e2 : covK (wsO vs).flatten (atB B j) (atB B (j + 1)) = [] := Classical.byContradiction fun h2 => e ((covB_ne h hk hne hj).2 h2)
    exact .inl ⟨by unfold covF; exact if_neg e, by unfold fragP; rw [if_pos e2]; rfl⟩
set_option maxHeartbeats 1000000
def KRng (W : List SpanD) : Prop := ∀ s, s ∈ W → ∀ k, k ∈ s.ks → 0 ≤ k.tr ∧ k.tr < 18446744073709551616
theorem lev_good {ws : List (List SpanD)} {n : Int} (hf : fit3 ws = true) (hn : n ≤ 40) (h : levB ws n = true) : (∀ W, W ∈ ws → Good W) ∧ ws.length ≤ 6 ∧ ∀ W, W ∈ ws → (W.length : Int) ≤ n := by
  simp only [fit3, levB, Bool.and_eq_true, List.all_eq_true, decide_eq_true_eq] at hf h
  refine ⟨fun W hW => (good_of hn (hf.2 W hW) (by rw [Bool.and_eq_true]; exact h.1 W hW)).1, by omega, fun W hW => (good_of hn (hf.2 W hW) (by rw [Bool.and_eq_true]; exact h.1 W hW)).2⟩
theorem good_wok {W : List SpanD} (h : Good W) (hr : KRng W) : WOK W := ⟨by have := h.len; omega, h.ord, fun s hs => ⟨by have := (h.full s hs).2.2.2; omega, hr s hs⟩⟩
theorem bnd_small {ws : List (List SpanD)} (hf : fit3 ws = true) : ∀ x, x ∈ bndF ws.flatten → x.data.toList.length ≤ 100000000000 := fun x hx => by
  obtain ⟨s, hs, h⟩ := bndF_mem.1 hx
  obtain ⟨W, hW, hsW⟩ := List.mem_flatten.1 hs
  simp only [fit3, Bool.and_eq_true, List.all_eq_true, decide_eq_true_eq] at hf
  have h4 := hf.2 W hW
  simp only [fit4, Bool.and_eq_true, List.all_eq_true, decide_eq_true_eq] at h4
  have h5 := h4.2 s hsW
  simp only [fit5, Bool.and_eq_true, decide_eq_true_eq, MX] at h5
  have e : x.data.toList.length = x.size := Array.length_toList
  rw [e]
  rcases h with rfl | rfl <;> omega
theorem lvK_len {W : List SpanD} {n : Nat} (h : ∀ s, s ∈ W → s.ks.length ≤ n) (x : ByteArray) : (lvK W x).length ≤ n := by
  unfold lvK
  split
  · cases hs : W[cE W x / 2]? with
    | none => simp
    | some s => exact h s (List.mem_of_getElem? hs)
  · simp
theorem merged_alk {vs : List Lev} {ws : List (List SpanD)} {snap : Nat} (hvs : vs.map Lev.W = ws) (hk : KeysOK vs) (hG : ∀ W, W ∈ ws → Good W) (hl : ws.length ≤ 10) : Alk (mrgW vs snap (bndF ws.flatten)) (mergF ws snap) := by
  subst hvs
  refine merged_alike (bnds_of fun W hW => (hG W hW).ord) hk (fun W hW s hs => ((hG W hW).full s hs).2.1) rfl fun x => ?_
  rw [catX_keys hk]
  have h1 := flat_le (n := 40) ((wsO vs).map (fun W => lvK W x)) (fun c hc => by
    obtain ⟨W, hW, rfl⟩ := List.mem_map.1 hc
    exact lvK_len (fun s hs => ((hG W hW).full s hs).2.2.2) x)
  rw [List.length_map] at h1
  have : (wsO vs).length ≤ 10 := hl
  omega
open Go.Tess Go.ChangeShapes Go.WideShapes Go.ChangeAt Go.RowKit
def KRng1 (k : KeyD) : Prop := 0 ≤ k.tr ∧ k.tr < 18446744073709551616
theorem wf64 {n : Int} (h : (Lit.int .u64 n).wf = true) : 0 ≤ n ∧ n < 18446744073709551616 := by
  simp [Lit.wf, IntKind.min, IntKind.max, IntKind.bits, IntKind.signed] at h; omega
section
variable {H : Type} {enc : TypeId × Value → H} {χ : Chi} {h : Heap} {d : Nat} {sp : Nat → Bool} {hd : Bool}
theorem open_keyR {n : Nat} {cs : List Value} {x : DataW H × List MemPlace} (hx : DataW.trod enc Tryz.prog (mkw χ h d) 0 sp hd n 42 cs = some x) : ∃ k : KeyD, cs = k.cells ∧ KRng1 k := by
  have hl := struct_len st_key hx (sz := 3) (by kernel_rfl)
  match cs, hl with
  | [c0, c1, c2], _ =>
    obtain ⟨_, _, y0⟩ := field_open st_key hx 0 35 0 1 (by kernel_rfl) (by kernel_rfl)
    obtain ⟨_, _, y1⟩ := field_open st_key hx 1 9 1 1 (by kernel_rfl) (by kernel_rfl)
    obtain ⟨_, _, y2⟩ := field_open st_key hx 2 9 2 1 (by kernel_rfl) (by kernel_rfl)
    obtain ⟨i, e0, _, hw⟩ := DataW.trod_int u_uint64 y0
    obtain ⟨s, e1, _⟩ := DataW.trod_string u_string y1
    obtain ⟨u, e2, _⟩ := DataW.trod_string u_string y2
    cases e0; cases e1; cases e2
    exact ⟨⟨i, s, u⟩, rfl, wf64 hw⟩
theorem sl_all {α : Type} {A : Nat → Prop} {h : Heap} {sz : Nat} {R : Heap → Nat → Nat → α → Prop} {p : α → Prop} {v : Value} {xs : List α} (hs : SlR h A sz R v xs) (hp : ∀ b o a, R h b o a → p a) : ∀ a, a ∈ xs → p a := fun a ha => by
  obtain ⟨_, _, _, _, hx⟩ := hs
  obtain ⟨i, hi, e⟩ := List.mem_iff_getElem.1 ha
  obtain ⟨b, o, _, _, hr⟩ := hx i a (by rw [List.getElem?_eq_getElem hi, e])
  exact hp _ _ _ hr
theorem open_keysR {n : Nat} {v : Value} {x : DataW H × List MemPlace} (hx : DataW.trod enc Tryz.prog (mkw χ h d) 0 sp hd n 38 [v] = some x) : ∃ ks : List KeyD, RKeys (All h) h v ks ∧ ∀ k, k ∈ ks → KRng1 k := by
  obtain ⟨ks, hk⟩ := sl_open (R := fun cs (k : KeyD) => cs = k.cells ∧ KRng1 k) u_sl_spec_SpanKey (sz := 3) (by kernel_rfl) (by omega) (fun n cs x hx => open_keyR hx) hx
  exact ⟨ks, SlR.mono hk (fun _ h => h) fun b o x _ hc => by obtain ⟨cs, h1, rfl, _⟩ := hc; exact h1, sl_all hk fun b o a ⟨_, _, _, h⟩ => h⟩
theorem open_spanR {n : Nat} {cs : List Value} {x : DataW H × List MemPlace} (hx : DataW.trod enc Tryz.prog (mkw χ h d) 0 sp hd n 40 cs = some x) : ∃ s : SpanD, ∃ kv, cs = [.string s.s, .string s.e, kv] ∧ RKeys (All h) h kv s.ks ∧ ∀ k, k ∈ s.ks → KRng1 k := by
  have hl := struct_len st_span hx (sz := 3) (by kernel_rfl)
  match cs, hl with
  | [c0, c1, c2], _ =>
    obtain ⟨_, _, y0⟩ := field_open st_span hx 0 9 0 1 (by kernel_rfl) (by kernel_rfl)
    obtain ⟨_, _, y1⟩ := field_open st_span hx 1 9 1 1 (by kernel_rfl) (by kernel_rfl)
    obtain ⟨_, _, y2⟩ := field_open st_span hx 2 38 2 1 (by kernel_rfl) (by kernel_rfl)
    obtain ⟨s, e1, _⟩ := DataW.trod_string u_string y0
    obtain ⟨u, e2, _⟩ := DataW.trod_string u_string y1
    obtain ⟨ks, hk, hr⟩ := open_keysR y2
    cases e1; cases e2
    exact ⟨⟨s, u, ks⟩, _, rfl, hk, hr⟩
theorem open_spansR {n : Nat} {v : Value} {x : DataW H × List MemPlace} (hx : DataW.trod enc Tryz.prog (mkw χ h d) 0 sp hd n 25 [v] = some x) : ∃ W : List SpanD, RSpans (All h) h v W ∧ KRng W := by
  obtain ⟨W, hW⟩ := sl_open (R := fun cs (s : SpanD) => ∃ kv, cs = [.string s.s, .string s.e, kv] ∧ RKeys (All h) h kv s.ks ∧ ∀ k, k ∈ s.ks → KRng1 k) u_sl_spec_Span (sz := 3) (by kernel_rfl) (by omega) (fun n cs x hx => open_spanR hx) hx
  exact ⟨W, SlR.mono hW (fun _ h => h) fun b o x _ hc => by obtain ⟨cs, h1, kv, rfl, hk, _⟩ := hc; exact ⟨kv, h1, hk⟩, sl_all hW fun b o a ⟨_, _, _, _, _, h⟩ => h⟩
theorem open_levels {n : Nat} {v : Value} {x : DataW H × List MemPlace} (hx : DataW.trod enc Tryz.prog (mkw χ h d) 0 sp hd n 22 [v] = some x) : ∃ ws : List (List SpanD), RLevels (All h) h v ws ∧ ∀ W, W ∈ ws → KRng W := by
  obtain ⟨ws, hW⟩ := sl_open (R := fun cs (W : List SpanD) => ∃ v, cs = [v] ∧ RSpans (All h) h v W ∧ KRng W) u_sl_sl_spec_Span (sz := 1) (by kernel_rfl) (by omega) (fun n cs x hx => by
    have hcs : ∃ c0, cs = [c0] := by
      rcases DataW.trod_slice u_sl_spec_Span hx with ⟨e, _⟩ | ⟨_, _, _, _, _, _, _, e, _⟩
      · exact ⟨_, e⟩
      · exact ⟨_, e⟩
    obtain ⟨c0, rfl⟩ := hcs
    obtain ⟨W, h1, h2⟩ := open_spansR hx
    exact ⟨W, c0, rfl, h1, h2⟩) hx
  exact ⟨ws, SlR.mono hW (fun _ h => h) fun b o x _ hc => by obtain ⟨cs, h1, kv, rfl, hk, _⟩ := hc; exact ⟨kv, h1, hk⟩, sl_all hW fun b o a ⟨_, _, _, _, _, h⟩ => h⟩
end
set_option maxHeartbeats 2000000
theorem Alk.canon {W1 W2 : List SpanD} (h : Alk W1 W2) : W1.map canonS = W2.map canonS := by
  induction h with
  | nil => rfl
  | @cons a b l1 l2 hs he hc hd f1 f2 _ ih => simp [canonS, hs, he, hc, ih]
theorem Alk.good {W1 W2 : List SpanD} (h : Alk W1 W2) : ∀ s, s ∈ W1 → descB s.ks = true ∧ few s := by
  induction h with
  | nil => simp
  | @cons a b l1 l2 hs he hc hd f1 f2 _ ih => intro s hs; rcases List.mem_cons.1 hs with rfl | hs; exact ⟨hd, f1⟩; exact ih s hs
theorem lev_first {ws : List (List SpanD)} (h1 : ¬ (ws.length : Int) = 0) (h2 : ¬ (((ws[0]?).getD []).length : Int) = 0) : ∃ W0 s r, W0 ∈ ws ∧ W0 = s :: r := by
  obtain ⟨W0, hW0⟩ := ex_get (L := ws) (k := 0) (by omega)
  rw [hW0] at h2
  cases W0 with
  | nil => simp at h2
  | cons s r => exact ⟨_, s, r, List.mem_of_getElem? hW0, rfl⟩
section
variable {vs us : List Lev} {ws : List (List SpanD)} {snap : Nat}
theorem mrg_le {B : List ByteArray} : (mrgW vs snap B).length ≤ B.length - 1 := by
  unfold mrgW
  exact Nat.le_trans (List.length_filterMap_le _ _) (by rw [segs_len]; exact Nat.le_refl _)
theorem mrg_len (hvs : vs.map Lev.W = ws) (hf : ws.flatten.length ≤ 50) : (mrgW vs snap (bndF ws.flatten)).length ≤ 100 + 1 := by
  have h1 := mrg_le (vs := vs) (snap := snap) (B := bndF ws.flatten)
  have h2 := bndF_len ws.flatten
  omega
theorem mrg_n (hvs : vs.map Lev.W = ws) (hf : ws.flatten.length ≤ 50) : (mrgW vs snap (bndF ws.flatten)).length ≤ 100000 := by
  have := mrg_len (snap := snap) hvs hf; omega
theorem mrg_few (hvs : vs.map Lev.W = ws) (hk : KeysOK vs) (hG : ∀ W, W ∈ ws → Good W) (hl : ws.length ≤ 10) : ∀ s, s ∈ mrgW vs snap (bndF ws.flatten) → few s := fun s hs => ((merged_alk hvs hk hG hl).good s hs).2
theorem mrg_like (hvs : vs.map Lev.W = ws) (hk : KeysOK vs) (hus : us.map Lev.W = ws) (hku : KeysOK us) (hG : ∀ W, W ∈ ws → Good W) (hl : ws.length ≤ 10) : Like (mrgW vs snap (bndF ws.flatten)) (mrgW us snap (bndF ws.flatten)) :=
  ⟨(merged_alk hvs hk hG hl).canon.trans (merged_alk hus hku hG hl).canon.symm, fun s hs => ((merged_alk hvs hk hG hl).good s hs).1⟩
theorem mrg_pos {B : List ByteArray} {s : SpanD} {r : List SpanD} (hvs : vs.map Lev.W = ws) (hB : Bnds ws B) (hW : s :: r ∈ ws) : 0 < (mrgW vs snap B).length := by
  have hO := hB.ord _ hW
  have hse := hO.1 s (by simp)
  obtain ⟨j, hj, ej⟩ := hB.idx (hB.mem _ 1 hW (by omega) (by simp only [List.length_cons]; omega))
  obtain ⟨i, hi, ei⟩ := hB.idx (hB.mem _ 2 hW (by omega) (by simp only [List.length_cons]; omega))
  rw [bkW1] at ej
  rw [bkW2] at ei
  have hji := hB.idx_lt hj (show slt (atB B j) (atB B i) = true by rw [ej, ei]; exact hse)
  have hc : cE (s :: r) s.s = 1 := by
    show (if sle s.e s.s = true then cnt r _ + 2 else if sle s.s s.s = true then 1 else 0) = 1
    rw [if_neg (by rw [not_sle.2 hse]; decide), if_pos (sle_refl _)]
  have hcov : covB (wsO vs) (atB B j) = true := by
    show covB (vs.map Lev.W) _ = true
    rw [hvs, ej]
    exact List.any_eq_true.2 ⟨_, hW, by rw [hc]; rfl⟩
  have hseg := segs_at (B := B) (kf := kfM vs snap) (j := j) (by omega)
  have hm : (⟨atB B j, atB B (j + 1), kfM vs snap (atB B j)⟩ : SpanD) ∈ mrgW vs snap B := List.mem_filterMap.2 ⟨_, List.mem_of_getElem? hseg, if_pos hcov⟩
  exact List.length_pos_of_mem hm
end
set_option maxHeartbeats 1000000
theorem fm_congr {α β : Type} {f g : α → Option β} : ∀ (L : List α), (∀ x, x ∈ L → f x = g x) → L.filterMap f = L.filterMap g
  | [], _ => rfl
  | x :: L, h => by rw [List.filterMap_cons, List.filterMap_cons, h x (by simp), fm_congr L fun y hy => h y (by simp [hy])]
theorem bndF_srt (W : List SpanD) : (bndF W).Pairwise sB := (bndF_ok W [] List.Pairwise.nil).1
theorem fragF_congr {W W' : List SpanD} (h : bndF W = bndF W') (hk : ∀ j, j + 1 < (bndF W').length → (covK W (atB (bndF W') j) (atB (bndF W') (j + 1))).Perm (covK W' (atB (bndF W') j) (atB (bndF W') (j + 1)))) : fragF W = fragF W' := by
  unfold fragF
  rw [h]
  refine fm_congr _ fun j hj => ?_
  rw [List.mem_range] at hj
  have hp := hk j (by omega)
  unfold fragP
  rw [canonF_congr hp]
  by_cases e : covK W' (atB (bndF W') j) (atB (bndF W') (j + 1)) = []
  · rw [if_pos e, if_pos (by rw [e] at hp; exact List.perm_nil.1 hp)]
  · rw [if_neg e, if_neg (fun h2 => e (by rw [h2] at hp; exact List.nil_perm.1 hp))]
structure LG (ws : List (List SpanD)) : Prop where
  ord : ∀ W, W ∈ ws → Tess.Ord W
  ne : ∀ W, W ∈ ws → ∀ s, s ∈ W → s.ks ≠ []
  ks : ∀ W, W ∈ ws → ∀ s, s ∈ W → s.ks.length ≤ 1000
  len : ws.length ≤ 10
theorem LG.of {ws : List (List SpanD)} (hG : ∀ W, W ∈ ws → Good W) (hl : ws.length ≤ 10) : LG ws := ⟨fun W hW => (hG W hW).ord, fun W hW s hs => ((hG W hW).full s hs).2.1, fun W hW s hs => by have := ((hG W hW).full s hs).2.2.2; omega, hl⟩
theorem big_vis {k : KeyD} (h : 0 ≤ k.tr ∧ k.tr < 18446744073709551616) : visK 72057594037927935 k = true := by
  unfold visK visS trN
  have h1 : k.tr.toNat / 256 < 72057594037927936 := by omega
  by_cases e : k.tr.toNat / 256 < 72057594037927935
  · rw [decide_eq_true e]; rfl
  · have e2 : k.tr.toNat / 256 = 72057594037927935 := by omega
    rw [e2]; decide
theorem vis_all {W : List SpanD} (h : KRng W) {a b : ByteArray} : ((canonF (covK W a b)).filter (visK 72057594037927935)) = canonF (covK W a b) := List.filter_eq_self.2 fun k hk => by
  have h1 := canonF_sub hk
  unfold covK at h1
  obtain ⟨c, hc, hk2⟩ := List.mem_flatten.1 h1
  obtain ⟨x, hx, rfl⟩ := List.mem_map.1 hc
  exact big_vis (h x (List.mem_filter.1 hx).1 k hk2)
theorem krng_flat {ws : List (List SpanD)} (h : ∀ W, W ∈ ws → KRng W) : KRng ws.flatten := fun s hs => by
  obtain ⟨W, hW, h2⟩ := List.mem_flatten.1 hs
  exact h W hW s h2
structure MrgA (W : List SpanD) (a : List SpanD) : Prop where
  form : ∃ K : Nat → List KeyD, a = (List.range ((bndF W).length - 1)).filterMap (fun j => if covK W (atB (bndF W) j) (atB (bndF W) (j + 1)) = [] then none else some ⟨atB (bndF W) j, atB (bndF W) (j + 1), K j⟩) ∧ ∀ j, j + 1 < (bndF W).length → (K j).Perm (covK W (atB (bndF W) j) (atB (bndF W) (j + 1)))
theorem mrgA_of {vs : List Lev} {ws : List (List SpanD)} (hvs : vs.map Lev.W = ws) (hk : KeysOK vs) (hG : LG ws) (hr : ∀ W, W ∈ ws → KRng W) : MrgA ws.flatten (mrgW vs 72057594037927935 (bndF ws.flatten)) := by
  subst hvs
  have hB := bnds_of hG.ord
  refine ⟨fun j => kfM vs 72057594037927935 (atB (bndF (wsO vs).flatten) j), ?_, fun j hj => ?_⟩
  · unfold mrgW sgM segs
    rw [List.filterMap_map]
    refine fm_congr _ fun j hj => ?_
    rw [List.mem_range] at hj
    have h2 := covB_ne hB hk hG.ne (j := j) (by have : j < (bndF (wsO vs).flatten).length - 1 := hj; show j + 1 < (bndF (wsO vs).flatten).length; omega)
    simp only [Function.comp, covF]
    by_cases e : covB (wsO vs) (atB (bndF (wsO vs).flatten) j) = true
    · rw [if_pos (show covB (wsO vs) (atB (bndF (vs.map Lev.W).flatten) j) = true from e)]; exact (if_neg (h2.1 e)).symm
    · rw [if_neg (show ¬ covB (wsO vs) (atB (bndF (vs.map Lev.W).flatten) j) = true from e)]; exact (if_pos (Classical.byContradiction fun h3 => e (h2.2 h3))).symm
  · have hp := kfM_perm (snap := 72057594037927935) hB hk hj
    have e9 := vis_all (krng_flat hr) (a := atB (bndF (wsO vs).flatten) j) (b := atB (bndF (wsO vs).flatten) (j + 1))
    unfold wsO at e9 hp ⊢
    rw [e9] at hp
    exact hp.trans (canonF_perm _)
theorem flat_one {β : Type} {n i : Nat} {f : Nat → List β} (hi : i < n) (h : ∀ j, j < n → j ≠ i → f j = []) : ((List.range n).map f).flatten = f i := by
  induction n with
  | zero => omega
  | succ n ih =>
    rw [List.range_succ, List.map_append, List.flatten_append]
    by_cases e : i = n
    · subst e
      have : ((List.range i).map f).flatten = [] := List.flatten_eq_nil_iff.2 fun l hl => by
        obtain ⟨j, hj, rfl⟩ := List.mem_map.1 hl
        rw [List.mem_range] at hj
        exact h j (by omega) (by omega)
      rw [this]; simp
    · rw [ih (by omega) fun j hj => h j (by omega)]
      simp [h n (by omega) (fun h => e h.symm)]
theorem flat_none {β : Type} {n : Nat} {f : Nat → List β} (h : ∀ j, j < n → f j = []) : ((List.range n).map f).flatten = [] := List.flatten_eq_nil_iff.2 fun l hl => by
  obtain ⟨j, hj, rfl⟩ := List.mem_map.1 hl
  exact h j (List.mem_range.1 hj)
theorem covK_fm {α : Type} {x y : ByteArray} {f : α → Option SpanD} (L : List α) : covK (L.filterMap f) x y = (L.map (fun j => match f j with | none => [] | some s => if (sle s.s x && sle y s.e) = true then s.ks else [])).flatten := by
  unfold covK
  induction L with
  | nil => rfl
  | cons j L ih =>
    rw [List.filterMap_cons, List.map_cons, List.flatten_cons, ← ih]
    cases hj : f j with
    | none => rfl
    | some s =>
      simp only
      by_cases e : (sle s.s x && sle y s.e) = true
      · rw [if_pos e, List.filter_cons, if_pos e]; rfl
      · rw [if_neg e, List.filter_cons, if_neg e]; rfl
theorem pw_idx {B : List ByteArray} (hp : B.Pairwise sB) {i j : Nat} (hi : i < B.length) (hs : slt (atB B i) (atB B j) = true) : i < j := by
  rcases Nat.lt_trichotomy i j with e | e | e
  · exact e
  · subst e; rw [slt_irr] at hs; cases hs
  · have := slt_tr hs (pw_atB hp e hi); rw [slt_irr] at this; cases this
theorem pw_le {B : List ByteArray} (hp : B.Pairwise sB) {i j : Nat} (hij : i ≤ j) (hj : j < B.length) : sle (atB B i) (atB B j) = true := by
  by_cases e : i = j
  · subst e; exact sle_refl _
  · exact slt_sle (pw_atB hp (by omega) hj)
theorem mem_atB {B : List ByteArray} {x : ByteArray} (h : x ∈ B) : ∃ i, i < B.length ∧ atB B i = x := by
  obtain ⟨i, hi, e⟩ := List.mem_iff_getElem.1 h
  exact ⟨i, hi, atB_some (by rw [List.getElem?_eq_getElem hi, e])⟩
theorem last_le {B : List ByteArray} (hp : B.Pairwise sB) {x : ByteArray} {i0 : Nat} (h0 : i0 < B.length) (h1 : sle (atB B i0) x = true) : ∃ i, i < B.length ∧ sle (atB B i) x = true ∧ (∀ j, i < j → j < B.length → slt x (atB B j) = true) := by
  suffices H : ∀ n i, i < B.length → B.length - i ≤ n → sle (atB B i) x = true → ∃ i, i < B.length ∧ sle (atB B i) x = true ∧ (∀ j, i < j → j < B.length → slt x (atB B j) = true) from H _ i0 h0 (Nat.le_refl _) h1
  intro n
  induction n with
  | zero => intro i hi hn _; omega
  | succ n ih =>
    intro i hi hn hx
    by_cases e : i + 1 < B.length ∧ sle (atB B (i + 1)) x = true
    · exact ih (i + 1) e.1 (by omega) e.2
    · refine ⟨i, hi, hx, fun j hij hj => ?_⟩
      have e1 : slt x (atB B (i + 1)) = true := by
        cases h : sle (atB B (i + 1)) x with
        | true => exact absurd ⟨by omega, h⟩ e
        | false => exact not_sle.1 h
      exact slt_of_slt_sle e1 (pw_le hp (by omega) hj)
theorem mrgA_cov {W a : List SpanD} (h : MrgA W a) (hW : ∀ s, s ∈ W → slt s.s s.e = true) {x y : ByteArray} (hxy : slt x y = true) (hno : ∀ z, z ∈ bndF W → sle z x = true ∨ sle y z = true) : (covK a x y).Perm (covK W x y) := by
  obtain ⟨K, ha, hK⟩ := h.form
  have hp := bndF_srt W
  rw [ha, covK_fm]
  by_cases hex : ∃ i, i + 1 < (bndF W).length ∧ sle (atB (bndF W) i) x = true ∧ sle y (atB (bndF W) (i + 1)) = true
  · obtain ⟨i, hi, h1, h2⟩ := hex
    rw [flat_one (i := i) (by omega) fun j hj hne => ?_]
    · -- the same spans
      have hcov : covK W x y = covK W (atB (bndF W) i) (atB (bndF W) (i + 1)) := by
        unfold covK
        congr 2
        refine List.filter_congr fun s hs => ?_
        have m1 : s.s ∈ bndF W := bndF_mem.2 ⟨s, hs, .inl rfl⟩
        have m2 : s.e ∈ bndF W := bndF_mem.2 ⟨s, hs, .inr rfl⟩
        obtain ⟨p, hp1, ep⟩ := mem_atB m1
        obtain ⟨q, hq1, eq⟩ := mem_atB m2
        have c1 : sle s.s x = sle s.s (atB (bndF W) i) := by
          rw [Bool.eq_iff_iff]
          constructor
          · intro h5
            rw [← ep] at h5 ⊢
            rcases Nat.lt_or_ge i p with e | e
            · have h6 := pw_le hp (show i + 1 ≤ p from e) hp1
              have := slt_of_slt_sle hxy (sle_trans h2 (sle_trans h6 h5)); rw [slt_irr] at this; cases this
            · exact pw_le hp e (by omega)
          · intro h5; exact sle_trans h5 h1
        have c2 : sle y s.e = sle (atB (bndF W) (i + 1)) s.e := by
          rw [Bool.eq_iff_iff]
          constructor
          · intro h5
            rw [← eq] at h5 ⊢
            rcases Nat.lt_or_ge q (i + 1) with e | e
            · have h6 := pw_le hp (show q ≤ i by omega) (show i < (bndF W).length by omega)
              have := slt_of_slt_sle hxy (sle_trans h5 (sle_trans h6 h1)); rw [slt_irr] at this; cases this
            · exact pw_le hp e hq1
          · intro h5; exact sle_trans h2 h5
        rw [c1, c2]
      rw [hcov]
      by_cases e : covK W (atB (bndF W) i) (atB (bndF W) (i + 1)) = []
      · rw [if_pos e, e]
      · rw [if_neg e]
        simp only
        rw [if_pos (by rw [h1, h2]; rfl)]
        exact hK i hi
    · by_cases e : covK W (atB (bndF W) j) (atB (bndF W) (j + 1)) = []
      · rw [if_pos e]
      · rw [if_neg e]
        simp only
        rw [if_neg]
        intro h5
        rw [Bool.and_eq_true] at h5
        rcases Nat.lt_or_ge j i with e2 | e2
        · have h6 := pw_le hp (show j + 1 ≤ i from e2) (by omega)
          have := slt_of_slt_sle hxy (sle_trans h5.2 (sle_trans h6 h1)); rw [slt_irr] at this; cases this
        · have h6 := pw_le hp (show i + 1 ≤ j by omega) (by omega)
          have := slt_of_slt_sle hxy (sle_trans h2 (sle_trans h6 h5.1)); rw [slt_irr] at this; cases this
  · have hc : covK W x y = [] := by
      unfold covK
      have : W.filter (fun s => sle s.s x && sle y s.e) = [] := List.filter_eq_nil_iff.2 fun s hs h5 => by
        rw [Bool.and_eq_true] at h5
        have m1 : s.s ∈ bndF W := bndF_mem.2 ⟨s, hs, .inl rfl⟩
        have m2 : s.e ∈ bndF W := bndF_mem.2 ⟨s, hs, .inr rfl⟩
        obtain ⟨p, hp1, ep⟩ := mem_atB m1
        obtain ⟨q, hq1, eq⟩ := mem_atB m2
        obtain ⟨i, hi, h6, h7⟩ := last_le hp hp1 (by rw [ep]; exact h5.1)
        have hxe : slt x s.e = true := slt_of_slt_sle hxy h5.2
        have hiq : i < q := by
          rcases Nat.lt_or_ge i q with e | e
          · exact e
          · have := slt_of_slt_sle hxe (by rw [← eq]; exact sle_trans (pw_le hp e hi) h6); rw [slt_irr] at this; cases this
        have hi1 : i + 1 < (bndF W).length := by omega
        refine hex ⟨i, hi1, h6, ?_⟩
        rcases hno _ (List.mem_of_getElem? (atB_get hi1)) with h8 | h8
        · have := slt_of_sle_slt h8 (h7 (i + 1) (by omega) hi1); rw [slt_irr] at this; cases this
        · exact h8
      rw [this]; rfl
    rw [hc, flat_none fun j hj => ?_]
    by_cases e : covK W (atB (bndF W) j) (atB (bndF W) (j + 1)) = []
    · rw [if_pos e]
    · rw [if_neg e]
      simp only
      rw [if_neg]
      intro h5
      rw [Bool.and_eq_true] at h5
      exact hex ⟨j, by omega, h5.1, h5.2⟩
theorem mrgA_bnd {W a : List SpanD} (h : MrgA W a) (hW : ∀ s, s ∈ W → slt s.s s.e = true ∧ s.ks ≠ []) (x : ByteArray) : x ∈ bndF a ↔ x ∈ bndF W := by
  obtain ⟨K, ha, hK⟩ := h.form
  have hp := bndF_srt W
  have inA : ∀ j s, s ∈ W → j + 1 < (bndF W).length → sle s.s (atB (bndF W) j) = true → sle (atB (bndF W) (j + 1)) s.e = true → (⟨atB (bndF W) j, atB (bndF W) (j + 1), K j⟩ : SpanD) ∈ a := fun j s hs hj h1 h2 => by
    rw [ha]
    refine List.mem_filterMap.2 ⟨j, List.mem_range.2 (by omega), if_neg fun e => ?_⟩
    unfold covK at e
    rw [List.flatten_eq_nil_iff] at e
    exact (hW s hs).2 (e s.ks (List.mem_map.2 ⟨s, List.mem_filter.2 ⟨hs, by rw [h1, h2]; rfl⟩, rfl⟩))
  rw [bndF_mem, bndF_mem]
  constructor
  · rintro ⟨s, hs, h2⟩
    rw [ha] at hs
    obtain ⟨j, hj, h3⟩ := List.mem_filterMap.1 hs
    rw [List.mem_range] at hj
    split at h3
    · cases h3
    · cases h3
      have m : ∀ i, i < (bndF W).length → ∃ s, s ∈ W ∧ (atB (bndF W) i = s.s ∨ atB (bndF W) i = s.e) := fun i hi => bndF_mem.1 (List.mem_of_getElem? (atB_get hi))
      rcases h2 with rfl | rfl
      · exact m j (by omega)
      · exact m (j + 1) (by omega)
  · rintro ⟨s, hs, h2⟩
    have m1 : s.s ∈ bndF W := bndF_mem.2 ⟨s, hs, .inl rfl⟩
    have m2 : s.e ∈ bndF W := bndF_mem.2 ⟨s, hs, .inr rfl⟩
    obtain ⟨p, hp1, ep⟩ := mem_atB m1
    obtain ⟨q, hq1, eq⟩ := mem_atB m2
    have hpq : p < q := pw_idx hp hp1 (by rw [ep, eq]; exact (hW s hs).1)
    rcases h2 with rfl | rfl
    · exact ⟨_, inA p s hs (by omega) (by rw [ep]; exact sle_refl _) (by rw [← eq]; exact pw_le hp (by omega) hq1), .inl ep.symm⟩
    · refine ⟨_, inA (q - 1) s hs (by omega) (by rw [← ep]; exact pw_le hp (by omega) (by omega)) (by rw [show q - 1 + 1 = q from by omega, eq]; exact sle_refl _), .inr ?_⟩
      show s.e = atB (bndF W) (q - 1 + 1)
      rw [show q - 1 + 1 = q from by omega, eq]
theorem mrgA_ord {W a : List SpanD} (h : MrgA W a) : Tess.Ord a := by
  obtain ⟨K, ha, hK⟩ := h.form
  have hp := bndF_srt W
  have hm : ∀ j s, (if covK W (atB (bndF W) j) (atB (bndF W) (j + 1)) = [] then none else some (⟨atB (bndF W) j, atB (bndF W) (j + 1), K j⟩ : SpanD)) = some s → s.s = atB (bndF W) j ∧ s.e = atB (bndF W) (j + 1) := fun j s h3 => by
    split at h3
    · cases h3
    · cases h3; exact ⟨rfl, rfl⟩
  have key : ∀ (L : List Nat), L.Pairwise (· < ·) → (∀ j, j ∈ L → j + 1 < (bndF W).length) → (L.filterMap (fun j => if covK W (atB (bndF W) j) (atB (bndF W) (j + 1)) = [] then none else some (⟨atB (bndF W) j, atB (bndF W) (j + 1), K j⟩ : SpanD))).Pairwise (fun s t => sle s.e t.s = true) := by
    intro L hL hb
    rw [List.pairwise_filterMap]
    refine hL.imp_of_mem fun {i j} hi hj hij s hs t ht => ?_
    obtain ⟨_, e1⟩ := hm i s hs
    obtain ⟨e2, _⟩ := hm j t ht
    rw [e1, e2]
    exact pw_le hp hij (by have := hb j hj; omega)
  have hpw := key (List.range ((bndF W).length - 1)) List.pairwise_lt_range fun j hj => by rw [List.mem_range] at hj; omega
  rw [← ha] at hpw
  refine ⟨fun s hs => ?_, fun i s t hs ht => ?_⟩
  · rw [ha] at hs
    obtain ⟨j, hj, h3⟩ := List.mem_filterMap.1 hs
    rw [List.mem_range] at hj
    obtain ⟨e1, e2⟩ := hm j s h3
    rw [e1, e2]; exact pw_atB hp (by omega) (by omega)
  · rw [List.pairwise_iff_getElem] at hpw
    obtain ⟨h1, rfl⟩ := List.getElem?_eq_some_iff.1 hs
    obtain ⟨h2, rfl⟩ := List.getElem?_eq_some_iff.1 ht
    exact hpw i (i + 1) h1 h2 (by omega)
theorem mrgA_keys {W a : List SpanD} (h : MrgA W a) {s : SpanD} (hs : s ∈ a) : s.ks ≠ [] ∧ s.s ∈ bndF W ∧ s.e ∈ bndF W ∧ ∃ x y, s.ks.Perm (covK W x y) := by
  obtain ⟨K, ha, hK⟩ := h.form
  rw [ha] at hs
  obtain ⟨j, hj, h3⟩ := List.mem_filterMap.1 hs
  rw [List.mem_range] at hj
  split at h3
  · cases h3
  · rename_i hne
    cases h3
    have hp := hK j (by omega)
    exact ⟨fun e => hne (by have e2 : K j = [] := e; rw [e2] at hp; exact List.nil_perm.1 hp), List.mem_of_getElem? (atB_get (by omega)), List.mem_of_getElem? (atB_get (by omega)), _, _, hp⟩
theorem covK_memk {W : List SpanD} {x y : ByteArray} {k : KeyD} (h : k ∈ covK W x y) : ∃ s, s ∈ W ∧ k ∈ s.ks := by
  unfold covK at h
  obtain ⟨c, hc, hk2⟩ := List.mem_flatten.1 h
  obtain ⟨s, hs, rfl⟩ := List.mem_map.1 hc
  exact ⟨s, (List.mem_filter.1 hs).1, hk2⟩
end Go.Proofs.YtmckkklhonfmcaaGreat
namespace Go.Tess
open Go.RowKit
section
variable {P : Program} {χ : Chi} {ρ : Operand → Option Value} {h : Heap} {ty : TypeId} {pos : String} {after : Array Edge} {guard : Option (Nat × Bool)} {dst : Option Tmp} {x y : Operand} {t t2 : TypeId}
end
end Go.Tess
namespace Go.Proofs.YtmckkklhonfmcaaGreat
open Go.Tess Go.RowKit
set_option maxRecDepth 100000
set_option maxHeartbeats 2000000
theorem two_lev {W1 W2 a b : List SpanD} (h1 : MrgA W1 a) (h2 : MrgA W2 b) (n1 : W1.length ≤ 50) (n2 : W2.length ≤ 50) (k1 : ∀ s, s ∈ W1 → s.ks.length ≤ 40) (k2 : ∀ s, s ∈ W2 → s.ks.length ≤ 40) (m1 : ∀ s, s ∈ W1 → SpanD.small s) (m2 : ∀ s, s ∈ W2 → SpanD.small s) (r1 : KRng W1) (r2 : KRng W2) (l1 : a.length ≤ 101) (l2 : b.length ≤ 101) :
    (∀ W, W ∈ [a, b] → WOK W) ∧ (∀ W, W ∈ [a, b] → ∀ s, s ∈ W → SpanD.small s) ∧ (∀ W, W ∈ [a, b] → ∀ s, s ∈ W → s.ks ≠ [] ∧ s.ks.length ≤ 2000) := by
  have one : ∀ {W a : List SpanD}, MrgA W a → W.length ≤ 50 → (∀ s, s ∈ W → s.ks.length ≤ 40) → (∀ s, s ∈ W → SpanD.small s) → KRng W → ∀ s, s ∈ a → s.ks ≠ [] ∧ s.ks.length ≤ 2000 ∧ (∀ k, k ∈ s.ks → KRng1 k) ∧ SpanD.small s := by
    intro W a h hn hk hm hr s hs
    obtain ⟨e1, e2, e3, x, y, hp⟩ := mrgA_keys h hs
    have hl : s.ks.length ≤ 2000 := by
      rw [hp.length_eq]
      have := covK_len (W := W) (a := x) (b := y) (n := 40) hk
      omega
    have hin : ∀ k, k ∈ s.ks → ∃ t, t ∈ W ∧ k ∈ t.ks := fun k hk2 => covK_memk (hp.mem_iff.1 hk2)
    obtain ⟨t, ht, ht2⟩ := bndF_mem.1 e2
    obtain ⟨u, hu, hu2⟩ := bndF_mem.1 e3
    refine ⟨e1, hl, fun k hk2 => ?_, ?_, ?_, by omega, fun k hk2 => ?_⟩
    · obtain ⟨t, ht, hkt⟩ := hin k hk2
      exact hr t ht k hkt
    · have := hm t ht
      rcases ht2 with e | e <;> rw [e]
      · exact this.1
      · exact this.2.1
    · have := hm u hu
      rcases hu2 with e | e <;> rw [e]
      · exact this.1
      · exact this.2.1
    · obtain ⟨t, ht, hkt⟩ := hin k hk2
      exact (hm t ht).2.2.2 k hkt
  have o1 := one h1 n1 k1 m1 r1
  have o2 := one h2 n2 k2 m2 r2
  have w : ∀ W, W ∈ [a, b] → W = a ∨ W = b := fun W hW => by simpa using hW
  refine ⟨fun W hW => ?_, fun W hW s hs => ?_, fun W hW s hs => ?_⟩
  · rcases w W hW with rfl | rfl
    · exact ⟨by omega, mrgA_ord h1, fun s hs => ⟨by have := (o1 s hs).2.1; omega, (o1 s hs).2.2.1⟩⟩
    · exact ⟨by omega, mrgA_ord h2, fun s hs => ⟨by have := (o2 s hs).2.1; omega, (o2 s hs).2.2.1⟩⟩
  · rcases w W hW with rfl | rfl
    · exact (o1 s hs).2.2.2
    · exact (o2 s hs).2.2.2
  · rcases w W hW with rfl | rfl
    · exact ⟨(o1 s hs).1, (o1 s hs).2.1⟩
    · exact ⟨(o2 s hs).1, (o2 s hs).2.1⟩
end Go.Proofs.YtmckkklhonfmcaaGreat
namespace Go.Tess
open Go.RowKit
end Go.Tess
namespace Go.Proofs.YtmckkklhonfmcaaGreat
open Go.Tess Go.RowKit
set_option maxRecDepth 100000
set_option maxHeartbeats 2000000
theorem good_flat {us : List (List SpanD)} (hG : ∀ W, W ∈ us → Good W) : (∀ s, s ∈ us.flatten → slt s.s s.e = true ∧ s.ks ≠ []) ∧ (∀ s, s ∈ us.flatten → s.ks.length ≤ 40) ∧ (∀ s, s ∈ us.flatten → SpanD.small s) := by
  refine ⟨fun s hs => ?_, fun s hs => ?_, fun s hs => ?_⟩ <;> obtain ⟨W, hW, h2⟩ := List.mem_flatten.1 hs
  · have := (hG W hW).full s h2; exact ⟨this.1, this.2.1⟩
  · exact ((hG W hW).full s h2).2.2.2
  · exact (hG W hW).small s h2
set_option maxHeartbeats 2000000
abbrev le (a b : ByteArray) : Prop := sle a b = true
abbrev lt (a b : ByteArray) : Prop := slt a b = true
section
variable {lo up : ByteArray} {W : List SpanD}
end
set_option maxHeartbeats 2000000
theorem mrg_facts {ws : List (List SpanD)} {va : List Lev} (hG : ∀ W, W ∈ ws → Good W) (hr : ∀ W, W ∈ ws → KRng W) (hl : ws.length ≤ 10) (hf : ws.flatten.length ≤ 50) (aw : va.map Lev.W = ws) (ak : KeysOK va) :
    (∀ s, s ∈ mrgW va 72057594037927935 (bndF ws.flatten) → SpanD.small s) ∧ (∀ s, s ∈ mrgW va 72057594037927935 (bndF ws.flatten) → s.ks ≠ []) ∧ Tess.Ord (mrgW va 72057594037927935 (bndF ws.flatten)) := by
  have ga := good_flat hG
  have m1 := mrgA_of aw ak (LG.of hG hl) hr
  have n1 := mrg_len (snap := 72057594037927935) aw hf
  obtain ⟨t1, t2, t3⟩ := two_lev m1 m1 hf hf ga.2.1 ga.2.1 ga.2.2 ga.2.2 (krng_flat hr) (krng_flat hr) (by omega) (by omega)
  exact ⟨t2 _ (by simp), fun s hs => (t3 _ (by simp) s hs).1, mrgA_ord m1⟩
end Go.Proofs.YtmckkklhonfmcaaGreat
namespace Go.Tess
open Go.RowKit
section
variable {P : Program} {χ : Chi} {ρ : Operand → Option Value} {h : Heap} {ty : TypeId} {pos : String} {after : Array Edge} {guard : Option (Nat × Bool)} {dst : Option Tmp} {x y : Operand} {t t2 e : TypeId}
theorem run_copyN (P : Program) (w : World) (dT sT ty elem : TypeId) (sz g o dLen dCap : Nat) (a : Addr) (sLen sCap : Nat) (cur : Array Value) (t : TypeId) (cs : List Value)
    (hu : P.underlying dT = some (.slice elem)) (hs : (P.info? elem).map (·.size) = some sz)
    (hg : w.heap[g]? = some (.cells cur t (0, 0))) (hn : cs.length = Nat.min sLen dLen * sz)
    (hsrc : ∀ j v, cs[j]? = some v → w.cell? (a.add j) = some v) (hfit : o + cs.length ≤ cur.size) (h1 : ∀ v ∈ cs, v.oneCell' = true) :
    (Builtin.copy_ #[dT, sT] ty #[.slice (some ⟨g, o, none⟩) dLen dCap, .slice (some a) sLen sCap]).run P w =
      .ok (goInt (Nat.min sLen dLen)) (w.setRow g (cur.toList.take o ++ cs ++ cur.toList.drop (o + cs.length)).toArray) := by
  have hl := run_loadCells_list (P := P) w a cs hsrc
  have hst := run_storeCells_at P g o t cs 0 cur w hg (by simpa using hfit) h1
  cases hq : P.info? elem with
  | none => simp [hq] at hs
  | some i =>
    have hi : i.size = sz := by simpa [hq] using hs
    simp [Builtin.copy_, run_underlying hu, Builtin.lenOf, Builtin.firstCells, sizeOf, typeInfo, hq, hi, ← hn, hl, hst]
theorem w_copyN {sz g o n m c1 c2 b o2 : Nat} {cur cs : List Value} {T : TypeId} (ht : P.underlying t = some (.slice e)) (hs : (P.info? e).map (·.size) = some sz) (hx : ρ x = some (.slice (some ⟨g, o, none⟩) n c1)) (hy : ρ y = some (.slice (some ⟨b, o2, none⟩) m c2))
    (hg : Blk h g cur T) (hn : cs.length = Nat.min m n * sz) (hsrc : CellsAt h b o2 cs) (hfit : o + cs.length ≤ cur.length) (h1 : ∀ v, v ∈ cs → v.oneCell' = true) :
    OpW P χ ⟨dst, .call ⟨.builtin .copy, #[x, y], #[t, t2]⟩, ty, pos, after, guard⟩ ρ h (fun _ h' => Blk h' g (cur.take o ++ cs ++ cur.drop (o + cs.length)) T ∧ Keep [g] h h') := by
  refine w_of_run fun r d hr => ?_
  have e1 := hr x (by simp [Op.operands, Call.operands]) _ hx
  have e2 := hr y (by simp [Op.operands, Call.operands]) _ hy
  have hcl : ∀ j v, cs[j]? = some v → (mkw χ h d).cell? ((⟨b, o2, none⟩ : Addr).add j) = some v := fun j v hj => by rw [addr_add]; exact hsrc j v hj
  have hrun := run_copyN P (mkw χ h d) t t2 ty e sz g o n c1 ⟨b, o2, none⟩ m c2 cur.toArray T cs ht hs hg hn hcl (by simpa using hfit) h1
  refine ⟨.int .i64 (Nat.min m n : Int), ((mkw χ h d).setRow g (cur.take o ++ cs ++ cur.drop (o + cs.length)).toArray).heap, d, ?_, ?_, ?_⟩
  · simp only [List.toList_toArray] at hrun
    simp [execOp, resolve, invoke, builtin, e1, e2, hrun]
    refine ⟨rfl, ?_⟩
    rfl
  · have := setRow_heap (mkw χ h d) g cur.toArray (cur.take o ++ cs ++ cur.drop (o + cs.length)).toArray T (0, 0) hg
    exact this
  · refine ⟨by simp [World.setRow, mkw], fun k hk hx => ?_⟩
    have : k ≠ g := fun e => hx (by simp [e])
    exact setRow_other (mkw χ h d) g k _ this
theorem w_makeN {i : TypeInfo} {z0 : Value} {kl kc : IntKind} {c : Nat} {j j2 : Int} (ht : P.underlying t = some (.slice e)) (hi : P.info? e = some i) (hz : i.zero = some z0) (hx : ρ x = some (.int kl j)) (hy : ρ y = some (.int kc j2)) (hj : j = (c : Int)) (hj2 : j2 = (c : Int))
    (hb : (i.bytes : Int) * c ≤ 281474976710656) (hc : c ≤ 9223372036854775807) :
    OpW P χ ⟨dst, .makeSlice t x y, ty, pos, after, guard⟩ ρ h (fun v h' => v = .slice (some ⟨h.size, 0, none⟩) c c ∧ (∃ cs : List Value, cs.length = c * i.size ∧ Blk h' h.size cs e) ∧ Keep [] h h') := by
  refine w_of_run fun r d hr => ?_
  have e1 := hr x (by simp [Op.operands]) _ hx
  have e2 := hr y (by simp [Op.operands]) _ hy
  subst hj; subst hj2
  have hrun := run_make (P := P) (mkw χ h d) t e i z0 ht hi hz kl kc (c : Int) (c : Int) (by omega) (Int.le_refl _) hb (by omega)
  refine ⟨.slice (some ⟨h.size, 0, none⟩) c c, h.push (.cells (madeCells z0.cells (c * i.size)) e), d, by simp [execOp, e1, e2, hrun]; exact ⟨rfl, rfl⟩, rfl, ⟨(madeCells z0.cells (c * i.size)).toList, by simp [size_madeCells], Blk.new h _ e⟩, Keep.push _ _ _⟩
theorem v_slice_0h {y2 : Operand} {sz : Nat} {a : Option Addr} {m c i : Nat} {k k2 : IntKind} {j : Int} (ht : P.underlying t = some (.slice e)) (hs : Siz P e sz) (hx : ρ x = some (.slice a m c)) (hy : ρ y = some (.int k 0)) (hy2 : ρ y2 = some (.int k2 j)) (hj : j = (i : Int)) (hi : i ≤ c) :
    OpV P χ ⟨dst, .slice t x (some y) (some y2) none, ty, pos, after, guard⟩ ρ h (.slice a i c) := by
  intro r d hr
  have e1 := hr x (by simp [Op.operands]) _ hx
  have e2 := hr y (by simp [Op.operands]) _ hy
  have e3 := hr y2 (by simp [Op.operands]) _ hy2
  subst hj
  have he := elem_of ht
  have h1 := run_slice_lh (w := mkw χ h d) t a m c (by rw [he]; exact ht) k k2 0 (i : Int) (by omega) (by omega) (by omega)
  rw [he, hs, Result.andThen_ok] at h1
  have h2 : sliced a (Int.toNat 0) (Int.toNat (i : Int)) c sz = .slice a i c := by
    simp only [sliced, Int.toNat_zero, Nat.zero_mul, Nat.sub_zero, Int.toNat_natCast]
    congr 1
    split
    · rfl
    · cases a <;> simp [addr_add0]
  rw [h2] at h1
  simp [execOp, e1, e2, e3, run_sliceAt_slice (mkw χ h d) t _ _ _ _ (by rw [he]; exact ht), h1]
end
end Go.Tess
namespace Go.Proofs.YtmckkklhonfmcaaGreat
open Go.Tess Go.RowKit
set_option maxRecDepth 100000
set_option maxHeartbeats 2000000
def isB (k : KeyD) : Bool := decide (trN k / 256 &&& 36028797018963968 ≠ 0)
def isH (n : Nat) (k : KeyD) : Bool := !isB k && decide (n ≤ trN k / 256)
theorem vis_h (n : Nat) (k : KeyD) : visK n k = !isH n k := by
  unfold visK visS isH isB
  by_cases h1 : trN k / 256 < n
  · rw [decide_eq_true h1, decide_eq_false (show ¬ n ≤ trN k / 256 by omega)]; simp
  · rw [decide_eq_false h1, decide_eq_true (show n ≤ trN k / 256 by omega)]; simp
theorem isB_iff {k : KeyD} (h : KRng1 k) : isB k = true ↔ 36028797018963968 ≤ trN k / 256 := by
  unfold isB trN
  have hlt : k.tr.toNat / 256 < 72057594037927936 := by have := h.2; omega
  generalize k.tr.toNat / 256 = s at hlt
  rw [decide_eq_true_eq]
  have e2 : (36028797018963968 : Nat) = 2 ^ 55 := by decide
  have key : s &&& 36028797018963968 ≠ 0 ↔ s.testBit 55 = true := by
    rw [e2]
    constructor
    · intro h1
      cases h3 : s.testBit 55 with
      | true => rfl
      | false =>
        exfalso
        apply h1
        refine Nat.eq_of_testBit_eq fun i => ?_
        rw [Nat.testBit_and, Nat.testBit_two_pow, Nat.zero_testBit]
        by_cases e : 55 = i
        · subst e; rw [h3]; rfl
        · rw [decide_eq_false e, Bool.and_false]
    · intro h1 h3
      have h4 : (s &&& 2 ^ 55).testBit 55 = true := by rw [Nat.testBit_and, h1, Nat.testBit_two_pow_self]; rfl
      rw [h3, Nat.zero_testBit] at h4; cases h4
  rw [key, Nat.testBit_eq_decide_div_mod_eq, decide_eq_true_eq, ← e2]
  constructor
  · intro h1
    rcases Nat.lt_or_ge s 36028797018963968 with h3 | h3
    · rw [Nat.div_eq_of_lt h3] at h1; cases h1
    · exact h3
  · intro h1
    have : s / 36028797018963968 = 1 := by omega
    rw [this]
def lastN (p : KeyD → Bool) (l : List KeyD) : Nat → Nat
  | 0 => 0
  | k + 1 => if (match l[k]? with | some x => p x | none => false) = true then k + 1 else lastN p l k
section
variable {p : KeyD → Bool} {l : List KeyD} {x : KeyD}
theorem lastN_yes {k : Nat} (hx : l[k]? = some x) (h : p x = true) : lastN p l (k + 1) = k + 1 := by unfold lastN; rw [hx]; exact if_pos h
theorem lastN_no {k : Nat} (hx : l[k]? = some x) (h : p x = false) : lastN p l (k + 1) = lastN p l k := by rw [lastN, hx]; simp [h]
theorem lastN_le : ∀ k, lastN p l k ≤ k
  | 0 => Nat.le_refl _
  | k + 1 => by
    have ih := lastN_le k
    unfold lastN
    by_cases e : (match l[k]? with | some x => p x | none => false) = true
    · rw [if_pos e]; exact Nat.le_refl _
    · rw [if_neg e]; omega
theorem lastN_at : ∀ k, lastN p l k ≠ 0 → ∃ x, l[lastN p l k - 1]? = some x ∧ p x = true
  | 0, h => absurd rfl h
  | k + 1, h => by
    unfold lastN at h ⊢
    by_cases e : (match l[k]? with | some x => p x | none => false) = true
    · rw [if_pos e]
      cases hx : l[k]? with
      | none => rw [hx] at e; cases e
      | some x => rw [hx] at e; exact ⟨x, hx, e⟩
    · rw [if_neg e] at h ⊢; exact lastN_at k h
theorem lastN_above : ∀ k i x, lastN p l k ≤ i → i < k → l[i]? = some x → p x = false
  | 0, i, x, _, h, _ => by omega
  | k + 1, i, x, h1, h2, hx => by
    unfold lastN at h1
    by_cases e : (match l[k]? with | some x => p x | none => false) = true
    · rw [if_pos e] at h1; omega
    · rw [if_neg e] at h1
      by_cases e2 : i = k
      · subst e2; rw [hx] at e; simpa using e
      · exact lastN_above k i x h1 (by omega) hx
end
theorem filter_mid {α : Type} {p : α → Bool} {l : List α} {a b : Nat} (hab : a ≤ b) (h1 : ∀ i x, i < a → l[i]? = some x → p x = true) (h2 : ∀ i x, a ≤ i → i < b → l[i]? = some x → p x = false) (h3 : ∀ i x, b ≤ i → l[i]? = some x → p x = true) : l.filter p = l.take a ++ l.drop b := by
  have e : l = l.take a ++ ((l.drop a).take (b - a) ++ l.drop b) := by
    have : l.drop b = (l.drop a).drop (b - a) := by rw [List.drop_drop]; congr 1; omega
    rw [this, List.take_append_drop, List.take_append_drop]
  have f1 : (l.take a).filter p = l.take a := List.filter_eq_self.2 fun x hx => by
    obtain ⟨i, hi, rfl⟩ := List.mem_iff_getElem.1 hx
    rw [List.length_take] at hi
    rw [List.getElem_take]
    exact h1 i _ (by omega) (List.getElem?_eq_getElem (by omega))
  have f2 : ((l.drop a).take (b - a)).filter p = [] := List.filter_eq_nil_iff.2 fun x hx => by
    obtain ⟨i, hi, rfl⟩ := List.mem_iff_getElem.1 hx
    rw [List.length_take, List.length_drop] at hi
    rw [List.getElem_take, List.getElem_drop]
    rw [h2 (a + i) _ (by omega) (by omega) (List.getElem?_eq_getElem (by omega))]
    decide
  have f3 : (l.drop b).filter p = l.drop b := List.filter_eq_self.2 fun x hx => by
    obtain ⟨i, hi, rfl⟩ := List.mem_iff_getElem.1 hx
    rw [List.length_drop] at hi
    rw [List.getElem_drop]
    exact h3 (b + i) _ (by omega) (List.getElem?_eq_getElem (by omega))
  conv => lhs; rw [e]
  rw [List.filter_append, List.filter_append, f1, f2, f3, List.nil_append]
theorem vis_form {ks : List KeyD} {n : Nat} (hd : descB ks = true) (hr : ∀ k, k ∈ ks → KRng1 k) :
    (lastN (isH n) ks ks.length = 0 → ks.filter (visK n) = ks) ∧ (lastN (isH n) ks ks.length ≠ 0 → lastN isB ks ks.length < lastN (isH n) ks ks.length ∧ ks.filter (visK n) = ks.take (lastN isB ks ks.length) ++ ks.drop (lastN (isH n) ks ks.length)) := by
  have hab := lastN_above (p := isB) (l := ks) ks.length
  have hhb := lastN_above (p := isH n) (l := ks) ks.length
  have hm : ∀ i x, ks[i]? = some x → KRng1 x := fun i x hx => hr x (List.mem_of_getElem? hx)
  have hle : ∀ i j x y, i ≤ j → ks[i]? = some x → ks[j]? = some y → trN y / 256 ≤ trN x / 256 := fun i j x y hij hx hy => by
    have h1 : y.tr ≤ x.tr := by
      rcases Nat.lt_or_ge i j with e | e
      · obtain ⟨hi, rfl⟩ := List.getElem?_eq_some_iff.1 hx
        obtain ⟨hj, rfl⟩ := List.getElem?_eq_some_iff.1 hy
        exact (List.pairwise_iff_getElem.1 ((desc_pair ks).1 hd)) i j hi hj e
      · have : i = j := Nat.le_antisymm hij e
        subst this; rw [hx] at hy; cases hy; exact Int.le_refl _
    unfold trN
    have h2 := (hm _ _ hy).1
    exact Nat.div_le_div_right (by omega)
  refine ⟨fun h0 => List.filter_eq_self.2 fun x hx => ?_, fun h0 => ?_⟩
  · obtain ⟨i, hi, rfl⟩ := List.mem_iff_getElem.1 hx
    rw [vis_h, hhb i _ (by omega) hi (List.getElem?_eq_getElem hi)]; rfl
  · obtain ⟨xh, hxh, hph⟩ := lastN_at (p := isH n) (l := ks) ks.length h0
    have hph2 : isB xh = false ∧ n ≤ trN xh / 256 := by
      unfold isH at hph
      rw [Bool.and_eq_true, decide_eq_true_eq] at hph
      exact ⟨by simpa using hph.1, hph.2⟩
    have batch : ∀ i x, i < lastN isB ks ks.length → ks[i]? = some x → isB x = true := fun i x hi hx => by
      obtain ⟨xb, hxb, hpb⟩ := lastN_at (p := isB) (l := ks) ks.length (by omega)
      rw [isB_iff (hm _ _ hxb)] at hpb
      rw [isB_iff (hm _ _ hx)]
      exact Nat.le_trans hpb (hle i _ x xb (by omega) hx hxb)
    have hlt : lastN isB ks ks.length < lastN (isH n) ks ks.length := by
      rcases Nat.lt_or_ge (lastN (isH n) ks ks.length - 1) (lastN isB ks ks.length) with e | e
      · rw [batch _ _ e hxh] at hph2; cases hph2.1
      · omega
    refine ⟨hlt, filter_mid (Nat.le_of_lt hlt) (fun i x hi hx => ?_) (fun i x h1 h2 hx => ?_) (fun i x h1 hx => ?_)⟩
    · rw [vis_h]; unfold isH; rw [batch i x hi hx]; rfl
    · have hb := hab i x h1 (List.getElem?_eq_some_iff.1 hx).1 hx
      have := hle i _ x xh (by omega) hx hxh
      rw [vis_h]; unfold isH; rw [hb, decide_eq_true (by omega)]; rfl
    · rw [vis_h, hhb i x h1 (List.getElem?_eq_some_iff.1 hx).1 hx]; rfl
def Room (v : Value) : Prop := ∀ a n c, v = .slice a n c → n ≤ c
theorem room_own {h : Heap} {base : Nat} {e : TypeId} {sz n : Nat} {v : Value} {xs : List Value} (O : Own h base e sz v n xs) : Room v := fun a m c e => by
  subst e
  obtain ⟨a', c', e⟩ := Own.form3 O
  cases e
  exact own_room O
theorem c_spanKeysN (χ : Chi) (h : Heap) (A : Nat → Prop) (hA : Low A h) (kv : Value) (ks : List KeyD) (hk : RKeys A h kv ks) (hn : ks.length ≤ 100000) (hm : ∀ k, k ∈ ks → KeyD.small k) :
    Cl Tryz.prog χ 103 #[kv] h (fun r h' => (PKeys (Up N0 h h') h' r ks ∧ Room r) ∧ Keep [] h h') := by
  obtain ⟨hlen, a, c, rfl, hx⟩ := hk.form
  refine cl_intro Tryz.func103 rfl rfl rfl ?_
  have K : Keep [] h h := Keep.refl _ _
  refine rG <| rA rfl rfl <| rN <| rG <| rA rfl rfl <| rN ?_
  refine tr_seq ?_
  refine rG <| rM rfl rfl <| rs_v (v_len u_sl_impl_SpanKey rfl) rfl ?_
  refine rM rfl rfl <| rN <| tr_block ?_
  refine tr_loop (fun m E h' => ∃ k v n, k ≤ ks.length ∧ m = ks.length - k ∧ E = [(3, v), (6, .slice a ks.length c), (7, .int .i64 (ks.length : Int)), (8, .int .i64 (k : Int))] ∧ Keep [] h h' ∧ n = (ks.take k).length ∧ OutR N0 h h' h.size 194 3 cPKey v n (ks.take k)) ks.length [(3, _), (6, _), (7, _), (8, _)] ⟨rfl, rfl, rfl, rfl, trivial⟩ ⟨0, _, 0, Nat.zero_le _, rfl, rfl, K, rfl, OutR.nil _ _ _ _ _ _ _⟩ ?_
  rintro m E hL1 ⟨k, v, n, hk, rfl, rfl, K, hn, hout⟩
  have hout0 := hout
  obtain ⟨xs, F, O, hrow, hF⟩ := hout
  have hob := own_ne O; have KL := Keep.refl [] hL1
  refine rG <| rs_v (v_lt rfl rfl) rfl ?_
  refine rN ?_
  refine tr_seq ?_
  refine tr_ifn rfl (fun hif => ?_) (fun hif => ?_)
  · -- no
    simp only [dT, dF] at hif
    have hkk : k = ks.length := by omega
    subst hkk
    refine tr_exit <| q_thn_exit ?_
    refine q_lp_exit ?_
    refine q_blk_hit ?_
    refine q_thn ?_
    refine rG <| rM rfl rfl <| rA rfl rfl <| rN <| tr_ret <| q_ret (res_tmp rfl rfl) ?_
    rw [List.take_length] at hout0 hn
    exact ⟨⟨hout0.fin cPKey_st hn (Nat.le_refl _) cPKey_r, room_own O⟩, K⟩
  -- yes
  simp only [dT, dF] at hif
  rcases hx with rfl | ⟨b, o, rfl, hAb, hR⟩
  · simp at hif; omega
  obtain ⟨x, hsk⟩ := ex_get (L := ks) (k := k) (by omega)
  have hkl : k < ks.length := (List.getElem?_eq_some_iff.1 hsk).1
  have KL0 := K.1
  have hnk : n = k := by rw [hn, List.length_take]; omega
  have hcells := K.cells (by simp) (hR k x hsk)
  refine tr_skip ?_
  refine q_thn ?_
  refine tr_seq ?_
  refine tr_block <| rG <| rs_v (v_indexAddrN u_sl_impl_SpanKey siz_impl_SpanKey rfl rfl (by omega)) rfl ?_
  refine rs_v (v_loadAgg (vs := [_, _, _]) many_impl_SpanKey rfl (by exact hcells)) rfl ?_
  refine rs_w (w_new zero_impl_SpanKey) rfl ?_
  rintro _ h2 ⟨rfl, B2, K2, Z2⟩
  have O := O.keep2 K2 (fun x hm => by have := hob x hm; simp; try omega)
  have S2 := K.1; have K := K.new0 K2; have KL := KL.new0 K2
  refine rs_w0 (w_put siz_impl_SpanKey rfl rfl rfl rfl B2 rfl) ?_
  rintro _ h3 ⟨B3, K3⟩
  have O := O.keep2 K3 (fun x hm => by have := hob x hm; simp; try omega)
  have B2 := B3; have K := K.new1 K3 (by first | (right; omega) | (left; simp; done)); have Z3 := K3.1; have KL := KL.new1 K3 (.inr (by omega))
  refine rN ?_
  have S0 : hL1.size ≤ h3.size := KL.1
  obtain ⟨hz1, hz2⟩ := hm x (List.mem_of_getElem? hsk)
  refine tr_draw [(true, 11), (false, 2)] _ (by kernel_rfl) (by kernel_rfl) (by kernel_rfl) ?_
  refine rx_any (Keep []) (keep_pre _) ?_
  refine rm_v (keep_pre _) (fun h' hk => v_move rfl) ?_
  refine rm_v (keep_pre _) (fun h' hk => v_fieldAddr fa_impl_SpanKey_0 rfl) ?_
  refine rm_v (keep_pre _) (fun h' hk => v_load one_uint64 rfl (Blk.cell (hk.blk (by simp) B2) _ rfl)) ?_
  refine rm_v (keep_pre _) (fun h' hk => v_fieldAddr fa_impl_SpanKey_1 rfl) ?_
  refine rm_v (keep_pre _) (fun h' hk => v_load one_string rfl (Blk.cell (hk.blk (by simp) B2) _ rfl)) ?_
  refine rm_w (fun v h' => RBytes (Up N0 h3 h') h' v x.suf) (fun v _ _ k1 k2 hr => upb (n0low _) k1.1 hr k2) (fun h' hk => OpW.mono (w_call (vs := [_]) ok_impl_maybe rfl ⟨rfl, trivial⟩ (c_maybe χ h' x.suf hz1)) (fun v h'' hv => ⟨hv.2, hv.1.mono (n0up hk.1 (Nat.le_refl _))⟩)) ?_
  refine rm_v (keep_pre _) (fun h' hk => v_fieldAddr fa_impl_SpanKey_2 rfl) ?_
  refine rm_v (keep_pre _) (fun h' hk => v_load one_string rfl (Blk.cell (hk.blk (by simp) B2) _ rfl)) ?_
  refine rm_w (fun v h' => RBytes (Up N0 h3 h') h' v x.val) (fun v _ _ k1 k2 hr => upb (n0low _) k1.1 hr k2) (fun h' hk => OpW.mono (w_call (vs := [_]) ok_impl_maybe rfl ⟨rfl, trivial⟩ (c_maybe χ h' x.val hz2)) (fun v h'' hv => ⟨hv.2, hv.1.mono (n0up hk.1 (Nat.le_refl _))⟩)) ?_
  refine rm_o2 17 20 (fun v h' => ∃ sv vv, v = .agg #[.int .u64 x.tr, sv, vv] ∧ RBytes (Up N0 h3 h') h' sv x.suf ∧ RBytes (Up N0 h3 h') h' vv x.val) rfl rfl rfl (by kernel_rfl) (by kernel_rfl)
    (fun v _ _ k1 k2 hr => by obtain ⟨sv, vv, e, r1, r2⟩ := hr; exact ⟨sv, vv, e, upb (n0low _) k1.1 r1 k2, upb (n0low _) k1.1 r2 k2⟩)
    (fun u u2 h' hk hu hu2 => by
      obtain ⟨a1, n1, c1, rfl⟩ := hu.form2
      obtain ⟨a2, n2, c2, rfl⟩ := hu2.form2
      exact (v_build3 rfl rfl rfl (bld_keyspan_Key_0_1_2 _ _ _ _ _ _ _)).w.mono (fun _ _ e => by obtain ⟨e1, e2⟩ := e; subst e1; subst e2; exact ⟨Keep.refl _ _, _, _, rfl, hu, hu2⟩)) ?_
  refine rm_o 21 (fun v h' => ∃ g sv vv, v = .slice (some ⟨g, 0, none⟩) 1 1 ∧ Blk h' g [.int .u64 x.tr, sv, vv] 194 ∧ RBytes (Up N0 h3 h') h' sv x.suf ∧ RBytes (Up N0 h3 h') h' vv x.val) rfl (by kernel_rfl)
    (fun v _ _ k1 k2 hr => by obtain ⟨g, sv, vv, e, B, r1, r2⟩ := hr; exact ⟨g, sv, vv, e, k2.blk (by simp) B, upb (n0low _) k1.1 r1 k2, upb (n0low _) k1.1 r2 k2⟩)
    (fun u h' hk hu => by
      obtain ⟨sv, vv, rfl, r1, r2⟩ := hu
      exact OpW.mono (w_new1 u_sl_keyspan_Key siz_keyspan_Key zero_keyspan_Key rfl rfl rfl rfl rfl) (fun v h'' hv => by
        obtain ⟨e, B, K', _⟩ := hv
        exact ⟨K', _, _, _, e, B, upb (n0low _) hk.1 r1 K', upb (n0low _) hk.1 r2 K'⟩)) ?_
  refine rm_end ?_; intro ha Ka; simp only [endM, hypF, ofE, argE, List.nil_append]
  intro v22 hv22 v21 _ v20 _ v17 _
  obtain ⟨g, sv, vv, rfl, Bg, r1, r2⟩ := hv22
  obtain ⟨a1, n1, c1, rfl⟩ := r1.form2
  obtain ⟨a2, n2, c2, rfl⟩ := r2.form2
  have O := O.keep2 Ka (by simp)
  have K := K.new0 Ka; have Za := Ka.1
  have KL := KL.new0 Ka
  refine rx_seq ?_
  refine rs_w (w_app1 u_sl_keyspan_Key info_keyspan_Key rfl rfl rfl O rfl rfl Bg rfl (by omega) (by omega) (by omega)) rfl ?_
  rintro v4 h4 ⟨O4, K4, N4, F4⟩
  have K := K.newX K4 (fun x hm => .inr (by have := hob x hm; omega)); have Z4 := K4.1
  refine rA rfl rfl ?_
  refine rs_nil ?_
  refine q_con ?_
  refine rx_nil ?_
  refine q_blk_n ?_
  refine q_thn ?_
  refine tr_reg ?_
  refine rs_v (v_add rfl rfl (by omega) (by omega)) rfl ?_
  refine rM rfl rfl ?_
  refine rs_nil ?_
  refine q_lp (ks.length - (k + 1)) [(3, _), (6, _), (7, _), (8, _)] (by omega) ⟨rfl, rfl, rfl, rfl, trivial⟩ ⟨k + 1, v4, n + 1, by omega, rfl, rfl, K, ?_, ?_⟩
  · rw [take_snoc' hsk]; rw [List.length_append, ← hn]; rfl
  · rw [take_snoc' hsk]
    exact OutR.snoc cPKey_st (n0low h) (by omega) hob hrow hF KL0 KL O4 K4 F4 rfl (⟨_, _, rfl, r1.mono (n0up S0 (Nat.le_refl _)), r2.mono (n0up S0 (Nat.le_refl _))⟩)
theorem c_spanR (χ : Chi) (h : Heap) (A : Nat → Prop) (hA : Low A h) (s : SpanD) (kv : Value) (hks : RKeys A h kv s.ks) (hm : SpanD.small s) :
    Cl Tryz.prog χ 67 #[.agg #[.string s.s, .string s.e, kv]] h
      (fun r h' => (∃ sv ev kv', r = .agg #[sv, ev, kv', .int .i8 0] ∧ RBytes (Up N0 h h') h' sv s.s ∧ RBytes (Up N0 h h') h' ev s.e ∧ PKeys (Up N0 h h') h' kv' s.ks ∧ Room kv') ∧ Keep [] h h') := by
  obtain ⟨ka, kc, rfl⟩ := hks.form2
  refine cl_intro Tryz.func67 rfl rfl rfl ?_
  have K : Keep [] h h := Keep.refl _ _
  refine rG <| rs_w (w_newbox rfl) rfl ?_
  rintro _ h1 ⟨rfl, B1, K1, Z1⟩
  have S1 := K.1; have K := K.new0 K1
  refine rs_w (w_new zero_keyspan_Span) rfl ?_
  rintro _ h2 ⟨rfl, B2, K2, Z2⟩
  have B1 := K2.blk (by simp) B1
  have S2 := K.1; have K := K.new0 K2
  refine rN ?_
  refine tr_seq ?_
  have S0 : h.size ≤ h2.size := K.1
  have hA2 := hA.mono S0
  refine tr_draw [(true, 10), (false, 1)] _ (by kernel_rfl) (by kernel_rfl) (by kernel_rfl) ?_
  refine rx_any (Keep []) (keep_pre _) ?_
  refine rm_v (keep_pre _) (fun h' hk => v_fieldAddr fa_impl_Span_0 rfl) ?_
  refine rm_v (keep_pre _) (fun h' hk => v_load one_string rfl (Blk.cell (hk.blk (by simp) B1) _ rfl)) ?_
  refine rm_w (fun v h' => RBytes (Up N0 h2 h') h' v s.s) (fun v _ _ k1 k2 hr => upb (n0low _) k1.1 hr k2) (fun h' hk => OpW.mono (w_bytes u_string u_sl_uint8 u_uint8 rfl hm.1) (fun v h'' hv => by
    obtain ⟨c, e, K', r⟩ := hv
    exact ⟨K', r.mono (fun b hb => .inr ⟨by have := hk.1; omega, hb.2⟩)⟩)) ?_
  refine rm_v (keep_pre _) (fun h' hk => v_fieldAddr fa_impl_Span_1 rfl) ?_
  refine rm_v (keep_pre _) (fun h' hk => v_load one_string rfl (Blk.cell (hk.blk (by simp) B1) _ rfl)) ?_
  refine rm_w (fun v h' => RBytes (Up N0 h2 h') h' v s.e) (fun v _ _ k1 k2 hr => upb (n0low _) k1.1 hr k2) (fun h' hk => OpW.mono (w_bytes u_string u_sl_uint8 u_uint8 rfl hm.2.1) (fun v h'' hv => by
    obtain ⟨c, e, K', r⟩ := hv
    exact ⟨K', r.mono (fun b hb => .inr ⟨by have := hk.1; omega, hb.2⟩)⟩)) ?_
  refine rm_v (keep_pre _) (fun h' hk => v_fieldAddr fa_impl_Span_2 rfl) ?_
  refine rm_v (keep_pre _) (fun h' hk => v_load one_sl_impl_SpanKey rfl (Blk.cell (hk.blk (by simp) B1) _ rfl)) ?_
  refine rm_w (fun v h' => PKeys (Up N0 h2 h') h' v s.ks ∧ Room v) (fun v _ _ k1 k2 hr => ⟨upp (n0low _) k1.1 hr.1 k2, hr.2⟩) (fun h' hk => OpW.mono (w_call (vs := [_]) ok_impl_spanKeys rfl ⟨rfl, trivial⟩ (c_spanKeysN χ h' A (hA.mono (K.new0 hk).1) _ s.ks (hks.stab ((K.new0 hk).st hA)) hm.2.2.1 hm.2.2.2)) (fun v h'' hv => ⟨hv.2, hv.1.1.mono (Up.trans2 hk.1 (Nat.le_refl _)), hv.1.2⟩)) ?_
  refine rm_o3 5 8 11 (fun v h' => ∃ sv ev kv', v = .agg #[sv, ev, kv', .int .i8 0] ∧ RBytes (Up N0 h2 h') h' sv s.s ∧ RBytes (Up N0 h2 h') h' ev s.e ∧ PKeys (Up N0 h2 h') h' kv' s.ks ∧ Room kv') rfl rfl rfl rfl rfl rfl (by kernel_rfl) (by kernel_rfl) (by kernel_rfl)
    (fun v _ _ k1 k2 hr => by obtain ⟨a, b, c, e, r1, r2, r3, r4⟩ := hr; exact ⟨a, b, c, e, upb (n0low _) k1.1 r1 k2, upb (n0low _) k1.1 r2 k2, upp (n0low _) k1.1 r3 k2, r4⟩)
    (fun u u2 u3 h' hk hu hu2 hu3 => by
      obtain ⟨a1, n1, c1, rfl⟩ := hu.form2
      obtain ⟨a2, n2, c2, rfl⟩ := hu2.form2
      obtain ⟨hu3, hu4⟩ := hu3
      obtain ⟨a3, n3, c3, rfl⟩ := hu3.form2
      exact (v_build3 rfl rfl rfl (bld_keyspan_Span_0_1_2 _ _ _ _ _ _ _ _ _)).w.mono (fun _ _ e => by obtain ⟨e1, e2⟩ := e; subst e1; subst e2; exact ⟨Keep.refl _ _, _, _, _, rfl, hu, hu2, hu3, hu4⟩)) ?_
  refine rm_end ?_; intro ha Ka; simp only [endM, hypF, ofE, argE, List.nil_append]
  intro v12 hv12 v11 _ v8 _ v5 _
  obtain ⟨sv, ev, kv', rfl, r1, r2, r3, r4⟩ := hv12
  obtain ⟨a1, n1, c1, rfl⟩ := r1.form2
  obtain ⟨a2, n2, c2, rfl⟩ := r2.form2
  obtain ⟨a3, n3, c3, rfl⟩ := r3.form2
  have B2 := Ka.blk (by simp) B2
  have K := K.new0 Ka; have Za := Ka.1
  refine rx_seq ?_
  refine rs_w0 (w_put siz_keyspan_Span rfl rfl rfl rfl B2 rfl) ?_
  rintro _ h3 ⟨B3, K3⟩
  have K := K.new1 K3 (.inr (by omega))
  refine rs_nil ?_
  refine q_con ?_
  refine rx_nil ?_
  refine q_thn ?_
  refine tr_ret <| q_ret (res_cell (vs := [_, _, _, _]) rfl rfl many_keyspan_Span (by exact B3.sub 0 4 rfl)) ?_
  have hs := stab_skip (n0low h) S0 Za K3 (by omega) (by omega)
  exact ⟨⟨_, _, _, rfl, (r1.stab hs).mono (Up.trans2 S0 K3.1), (r2.stab hs).mono (Up.trans2 S0 K3.1), (r3.stab hs).mono (Up.trans2 S0 K3.1), r4⟩, K⟩
end Go.Proofs.YtmckkklhonfmcaaGreat
namespace Go.Tess
open Go.RowKit
theorem w_makeI {P : Program} {χ : Chi} {ρ : Operand → Option Value} {h : Heap} {ty : TypeId} {pos : String} {after : Array Edge} {guard : Option (Nat × Bool)} {dst : Option Tmp} {x y : Operand} {t e : TypeId} {z0 : Value} {sz bytes : Nat} {kl kc : IntKind} {c : Nat} {j j2 : Int} (ht : P.underlying t = some (.slice e)) (hi : (P.info? e).map (fun i => (i.zero, i.size, i.bytes)) = some (some z0, sz, bytes)) (hx : ρ x = some (.int kl j)) (hy : ρ y = some (.int kc j2)) (hj : j = (c : Int)) (hj2 : j2 = (c : Int))
    (hb : (bytes : Int) * c ≤ 281474976710656) (hc : c ≤ 9223372036854775807) :
    OpW P χ ⟨dst, .makeSlice t x y, ty, pos, after, guard⟩ ρ h (fun v h' => v = .slice (some ⟨h.size, 0, none⟩) c c ∧ (∃ cs : List Value, cs.length = c * sz ∧ Blk h' h.size cs e) ∧ Keep [] h h') := by
  cases hq : P.info? e with
  | none => rw [hq] at hi; cases hi
  | some i =>
    rw [hq] at hi
    simp only [Option.map_some, Option.some.injEq, Prod.mk.injEq] at hi
    obtain ⟨h1, h2, h3⟩ := hi
    subst h2; subst h3
    exact w_makeN ht hq h1 hx hy hj hj2 hb hc
end Go.Tess
namespace Go.Proofs.YtmckkklhonfmcaaGreat
open Go.Tess Go.RowKit
set_option maxRecDepth 100000
set_option maxHeartbeats 2000000
theorem info_sz_Key : (Tryz.prog.info? 194).map (·.size) = some 3 := by kernel_rfl
section
variable {A : Nat → Prop} {h : Heap} {ks : List KeyD}
theorem pk_take {a : Option Addr} {c : Nat} (H : PKeys A h (.slice a ks.length c) ks) {i : Nat} (hi : i ≤ ks.length) : PKeys A h (.slice a i c) (ks.take i) := by
  obtain ⟨hl, a', c', e, hx⟩ := H
  cases e
  have e : (ks.take i).length = i := by rw [List.length_take]; omega
  refine ⟨by omega, a, c, by rw [e], fun j x hj => ?_⟩
  rw [List.getElem?_take] at hj
  split at hj
  · exact hx j x hj
  · cases hj
theorem pk_drop {b o c : Nat} (H : PKeys A h (.slice (some ⟨b, o, none⟩) ks.length c) ks) {i : Nat} (hi : i ≤ ks.length) (hc : ks.length ≤ c) : PKeys A h (.slice (some ⟨b, if c = i then o else o + i * 3, none⟩) (ks.length - i) (c - i)) (ks.drop i) := by
  obtain ⟨hl, a', c', e, hx⟩ := H
  cases e
  have e : (ks.drop i).length = ks.length - i := by rw [List.length_drop]
  refine ⟨by omega, _, _, by rw [e], fun j x hj => ?_⟩
  rw [List.getElem?_drop] at hj
  have hlt := (List.getElem?_eq_some_iff.1 hj).1
  obtain ⟨b', o', e2, hA, hr⟩ := hx (i + j) x hj
  cases e2
  rw [if_neg (by omega)]
  exact ⟨b, o + i * 3, rfl, hA, by rw [show o + i * 3 + j * 3 = o + (i + j) * 3 from by omega]; exact hr⟩
theorem cells_take {b o : Nat} {xs : List Value} (h1 : CellsAt h b o xs) (n : Nat) : CellsAt h b o (xs.take n) := fun j v hj => by
  rw [List.getElem?_take] at hj
  split at hj
  · exact h1 j v hj
  · cases hj
theorem cells_drop {b o : Nat} {xs : List Value} (h1 : CellsAt h b o xs) (n : Nat) : CellsAt h b (o + n) (xs.drop n) := fun j v hj => by
  rw [List.getElem?_drop] at hj
  have := h1 (n + j) v hj
  rw [show o + n + j = o + (n + j) from by omega]; exact this
theorem pkeys_row {b o c : Nat} (H : PKeys A h (.slice (some ⟨b, o, none⟩) ks.length c) ks) : ∃ news, news.length = ks.length * 3 ∧ CellsAt h b o news ∧ ∀ u, u ∈ news → u.oneCell' = true := by
  obtain ⟨hl, a', c', e, hx⟩ := H
  cases e
  by_cases h0 : ks = []
  · subst h0; exact ⟨[], rfl, fun j v hj => by simp at hj, by simp⟩
  have one : ∀ (cs : List Value) (k : KeyD), cPKey A h cs k → cs.all (fun u => u.oneCell') = true := fun cs k hc => by
    obtain ⟨sv, vv, rfl, r1, r2⟩ := hc
    obtain ⟨x1, x2, x3, rfl⟩ := r1.form2
    obtain ⟨y1, y2, y3, rfl⟩ := r2.form2
    rfl
  obtain ⟨news, h1, h2⟩ := rows_of (h := h) (b := b) (o := o) (sz := 3) (R := cPKey A h) (xs := ks) (fun i x hi => by
    obtain ⟨b', o', e2, hA, sv, vv, hc, r1, r2⟩ := hx i x hi
    cases e2
    exact ⟨_, rfl, hc, sv, vv, rfl, r1, r2⟩) (by omega)
  exact ⟨news, h2.len, h1, fun u hu => List.all_eq_true.1 (h2.all1 one) u hu⟩
theorem pk_two {A' : Nat → Prop} {b o c a l g N : Nat} {T : TypeId} {news F : List Value} (H : PKeys A h (.slice (some ⟨b, o, none⟩) ks.length c) ks) (hcn : CellsAt h b o news) (hln : news.length = ks.length * 3) (ha : a ≤ l) (hl2 : l ≤ ks.length) (Bm : Blk h g F T) (hF : F = news.take (a * 3) ++ news.drop (l * 3)) (hA' : ∀ b, A b → A' b) (hg : A' g) :
    PKeys A' h (.slice (some ⟨g, 0, none⟩) (a + (ks.length - l)) N) (ks.take a ++ ks.drop l) := by
  obtain ⟨hl, a', c', e, hx⟩ := H
  cases e
  have hlen : (ks.take a ++ ks.drop l).length = a + (ks.length - l) := by rw [List.length_append, List.length_take, List.length_drop]; omega
  refine ⟨by omega, _, N, by rw [hlen], fun i x hi => ⟨g, 0, rfl, hg, ?_⟩⟩
  have hsrc : ∃ s, ks[s]? = some x ∧ ∀ j, j < 3 → F[i * 3 + j]? = news[s * 3 + j]? := by
    have hil := (List.getElem?_eq_some_iff.1 hi).1
    rw [hlen] at hil
    have hta : (news.take (a * 3)).length = a * 3 := by rw [List.length_take]; omega
    rcases Nat.lt_or_ge i a with e | e
    · refine ⟨i, ?_, fun j hj => ?_⟩
      · rw [List.getElem?_append_left (by rw [List.length_take]; omega), List.getElem?_take, if_pos e] at hi; exact hi
      · rw [hF, List.getElem?_append_left (by rw [hta]; omega), List.getElem?_take, if_pos (by omega)]
    · refine ⟨l + (i - a), ?_, fun j hj => ?_⟩
      · rw [List.getElem?_append_right (by rw [List.length_take]; omega), List.getElem?_drop, List.length_take, show min a ks.length = a from Nat.min_eq_left (by omega)] at hi; exact hi
      · rw [hF, List.getElem?_append_right (by rw [hta]; omega), List.getElem?_drop, hta]; congr 1; omega
  obtain ⟨s, hs, hF2⟩ := hsrc
  have hsl := (List.getElem?_eq_some_iff.1 hs).1
  obtain ⟨b', o', e2, hA, sv, vv, hc, r1, r2⟩ := hx s x hs
  cases e2
  refine ⟨sv, vv, fun j v hj => ?_, r1.mono hA', r2.mono hA'⟩
  have hj3 : j < 3 := (List.getElem?_eq_some_iff.1 hj).1
  have h1 := hc j v hj
  obtain ⟨w, hw⟩ := ex_get (L := news) (k := s * 3 + j) (by omega)
  have h2 := hcn _ w hw
  rw [show o + (s * 3 + j) = o + s * 3 + j from by omega, h1] at h2
  cases h2
  have := Bm.cells (i * 3 + j) v (by rw [hF2 j hj3]; exact hw)
  rw [show 0 + i * 3 + j = 0 + (i * 3 + j) from by omega]; exact this
end
theorem c_keyspanVisible (χ : Chi) (h : Heap) (A : Nat → Prop) (hA : Low A h) (a1 a2 : Option Addr) (n1 c1 n2 c2 : Nat) (kv : Value) (ks : List KeyD) (n : Nat) (hk : PKeys A h kv ks) (hroom : Room kv) (hn : ks.length ≤ 100000) (hr : ∀ k, k ∈ ks → KRng1 k) (hd : descB ks = true) :
    Cl Tryz.prog χ 68 #[.agg #[.slice a1 n1 c1, .slice a2 n2 c2, kv, .int .i8 0], .int .u64 (n : Int)] h (fun r h' => (∃ kv', r = .agg #[.slice a1 n1 c1, .slice a2 n2 c2, kv', .int .i8 0] ∧ PKeys (Up A h h') h' kv' (ks.filter (visK n))) ∧ Keep [] h h') := by
  obtain ⟨hlen, ka, kc, rfl, hx⟩ := SlR.form hk
  have hkc : ks.length ≤ kc := hroom _ _ _ rfl
  obtain ⟨hv0, hv1⟩ := vis_form (n := n) hd hr
  have hle1 := lastN_le (p := isB) (l := ks) ks.length
  have hle2 := lastN_le (p := isH n) (l := ks) ks.length
  refine cl_intro Tryz.func68 rfl rfl rfl ?_
  have K : Keep [] h h := Keep.refl _ _
  refine rG <| rs_w (w_newbox rfl) rfl ?_
  rintro _ h1 ⟨rfl, B1, K1, Z1⟩
  have S1 := K.1; have K := K.new0 K1
  refine rs_w (w_new zero_keyspan_Span) rfl ?_
  rintro _ h2 ⟨rfl, B2, K2, Z2⟩
  have B1 := K2.blk (by simp) B1
  have S2 := K.1; have K := K.new0 K2
  refine rN ?_
  refine tr_seq ?_
  refine rG <| rF fa_keyspan_Span_3 rfl rfl <| rs_v (v_load one_keyspan_KeysOrder rfl (by exact B1.cell _ rfl)) rfl ?_
  refine rs_v (v_ne rfl rfl) rfl ?_
  refine rN <| tr_if_f rfl ?_
  refine tr_skip ?_
  refine q_thn ?_
  refine rG <| rF fa_keyspan_Span_0 rfl rfl <| rs_v (v_load one_sl_uint8 rfl (by exact B1.cell _ rfl)) rfl ?_
  refine rF fa_keyspan_Span_1 rfl rfl <| rs_v (v_load one_sl_uint8 rfl (by exact B1.cell _ rfl)) rfl ?_
  refine rs_v (v_build2 rfl rfl (bld_keyspan_Span_0_1 _ _ _ _ _ _)) rfl ?_
  refine rs_w (w_new zero_keyspan_Span) rfl ?_
  rintro _ h3 ⟨rfl, B3, K3, Z3⟩
  have B1 := K3.blk (by simp) B1
  have B2 := K3.blk (by simp) B2
  have S3 := K.1; have K := K.new0 K3
  refine rs_w0 (w_put siz_keyspan_Span rfl rfl rfl rfl B3 rfl) ?_
  rintro _ h4 ⟨B4, K4⟩
  have B1 := K4.blk (by simp; omega) B1
  have B2 := K4.blk (by simp; omega) B2
  have B3 := B4; have K := K.new1 K4 (by first | (right; omega) | (left; simp; done)); have Z4 := K4.1
  refine rN ?_
  refine tr_seq ?_
  refine rG <| rF fa_keyspan_Span_2 rfl rfl <| rs_v (v_load one_sl_keyspan_Key rfl (by exact B1.cell _ rfl)) rfl ?_
  refine rs_v (v_len u_sl_keyspan_Key rfl) rfl ?_
  refine rs_v (v_eq rfl rfl) rfl ?_
  refine rN ?_
  refine tr_if rfl (fun hif => ?_) (fun hif => ?_)
  · -- yes
    simp only [dT, dF] at hif
    refine rG <| rs_v (v_loadAgg (vs := [_, _, _, _]) many_keyspan_Span rfl (by exact B3.sub _ 4 rfl)) rfl ?_
    refine rs_w0 (w_put siz_keyspan_Span rfl rfl rfl rfl B2 rfl) ?_
    rintro _ h5 ⟨B5, K5⟩
    have B1 := K5.blk (by simp; omega) B1
    have B3 := K5.blk (by simp; omega) B3
    have B2 := B5; have K := K.new1 K5 (by first | (right; omega) | (left; simp; done)); have Z5 := K5.1
    refine rN <| tr_ret <| q_thn_ret <| q_ret (res_cell (vs := [_, _, _, _]) rfl rfl many_keyspan_Span (by exact B2.sub 0 4 rfl)) ?_
    have e0 : ks = [] := List.eq_nil_of_length_eq_zero (by omega)
    subst e0
    exact ⟨⟨_, rfl, SlR.nil _ _ _ _⟩, K⟩
  -- no
  simp only [dT, dF] at hif
  rcases hx with e9 | ⟨b, o, rfl, hAb, hR⟩
  · rw [e9] at hif; simp at hif
  refine tr_skip ?_
  refine q_thn ?_
  refine rG <| rA rfl rfl <| rN <| rG <| rA rfl rfl <| rN ?_
  refine tr_seq ?_
  refine rG <| rF fa_keyspan_Span_2 rfl rfl <| rs_v (v_load one_sl_keyspan_Key rfl (by exact B1.cell _ rfl)) rfl ?_
  refine rs_v (v_len u_sl_keyspan_Key rfl) rfl ?_
  refine rM rfl rfl <| rN <| tr_block ?_
  refine tr_loop (fun m E h' => ∃ k i j, k ≤ ks.length ∧ m = ks.length - k ∧ E = [(1, .int .u64 (n : Int)), (2, .pointer (some ⟨h.size, 0, none⟩)), (4, .pointer (some ⟨h1.size, 0, none⟩)), (5, .pointer (some ⟨h2.size, 0, none⟩)), (6, .int .i64 i), (7, .int .i64 j), (26, .int .i64 (ks.length : Int)), (27, .int .i64 (k : Int))] ∧ i = (lastN isB ks k : Int) - 1 ∧ j = (lastN (isH n) ks k : Int) - 1 ∧ Keep [] h h' ∧ Blk h' h.size [.slice a1 n1 c1, .slice a2 n2 c2, .slice (some ⟨b, o, none⟩) ks.length kc, .int .i8 0] 89 ∧ Blk h' h1.size [.slice none 0 0, .slice none 0 0, .slice none 0 0, .int .i8 0] 89 ∧ Blk h' h2.size [.slice a1 n1 c1, .slice a2 n2 c2, .slice none 0 0, .int .i8 0] 89) ks.length [(1, _), (2, _), (4, _), (5, _), (6, _), (7, _), (26, _), (27, _)] ⟨rfl, rfl, rfl, rfl, rfl, rfl, rfl, rfl, trivial⟩ ⟨0, _, _, Nat.zero_le _, rfl, rfl, rfl, rfl, K, B1, B2, B3⟩ ?_
  rintro m E hL6 ⟨k, i, j, hk9, rfl, rfl, hi9, hj9, K, B1, B2, B3⟩
  have hZ1 := B1.lt; have hZ2 := B2.lt; have hZ3 := B3.lt
  refine rG <| rs_v (v_lt rfl rfl) rfl ?_
  refine rN ?_
  refine tr_seq ?_
  refine tr_ifn rfl (fun hif => ?_) (fun hif => ?_)
  · -- no
    simp only [dT, dF] at hif
    have hkk : k = ks.length := by omega
    subst hkk
    refine tr_exit <| q_thn_exit ?_
    refine q_lp_exit ?_
    refine q_blk_hit ?_
    refine q_thn ?_
    refine tr_seq ?_
    refine tr_block <| rG <| rM rfl rfl <| rs_v (v_eq rfl rfl) rfl ?_
    refine rA rfl rfl <| rN ?_
    refine tr_if rfl (fun hif => ?_) (fun hif => ?_)
    · -- yes
      simp only [dT, dF] at hif
      have h0 : lastN (isH n) ks ks.length = 0 := by omega
      have hfe := hv0 h0
      refine tr_reg ?_
      refine rF fa_keyspan_Span_2 rfl rfl <| rs_v (v_load one_sl_keyspan_Key rfl (by exact B1.cell _ rfl)) rfl ?_
      refine rF fa_keyspan_Span_2 rfl rfl <| rs_w0 (w_put siz_sl_keyspan_Key rfl rfl rfl rfl B3 rfl) ?_
      rintro _ h7 ⟨B7, K7⟩
      have B1 := K7.blk (by simp; omega) B1
      have B2 := K7.blk (by simp; omega) B2
      have B3 := B7; have K := K.new1 K7 (by first | (right; omega) | (left; simp; done)); have Z7 := K7.1
      refine rs_nil ?_
      refine q_blk_n ?_
      refine q_thn ?_
      refine rG <| rs_v (v_loadAgg (vs := [_, _, _, _]) many_keyspan_Span rfl (by exact B3.sub _ 4 rfl)) rfl ?_
      refine rs_w0 (w_put siz_keyspan_Span rfl rfl rfl rfl B2 rfl) ?_
      rintro _ h8 ⟨B8, K8⟩
      have B1 := K8.blk (by simp; omega) B1
      have B3 := K8.blk (by simp; omega) B3
      have B2 := B8; have K := K.new1 K8 (by first | (right; omega) | (left; simp; done)); have Z8 := K8.1
      refine rN <| tr_ret <| q_ret (res_cell (vs := [_, _, _, _]) rfl rfl many_keyspan_Span (by exact B2.sub 0 4 rfl)) ?_
      exact ⟨⟨_, rfl, by rw [hfe]; exact (PKeys.stab hk (K.st hA)).mono Up.old⟩, K⟩
    -- no
    simp only [dT, dF] at hif
    have hn0 : lastN (isH n) ks ks.length ≠ 0 := by omega
    refine rG <| rM rfl rfl <| rs_v (v_eq rfl rfl) rfl ?_
    refine rA rfl rfl <| rN ?_
    refine tr_if rfl (fun hif => ?_) (fun hif => ?_)
    · -- yes
      simp only [dT, dF] at hif
      have h1 : lastN isB ks ks.length = 0 := by omega
      have hfe := (hv1 hn0).2
      rw [h1, List.take_zero, List.nil_append] at hfe
      refine tr_reg ?_
      refine rF fa_keyspan_Span_2 rfl rfl <| rs_v (v_load one_sl_keyspan_Key rfl (by exact B1.cell _ rfl)) rfl ?_
      refine rM rfl rfl <| rs_v (v_add rfl rfl (by omega) (by omega)) rfl ?_
      refine rs_v (v_slice_lo (i := lastN (isH n) ks ks.length) u_sl_keyspan_Key siz_keyspan_Key rfl rfl (by omega) hle2 hkc) rfl ?_
      refine rF fa_keyspan_Span_2 rfl rfl <| rs_w0 (w_put siz_sl_keyspan_Key rfl rfl rfl rfl B3 rfl) ?_
      rintro _ h9 ⟨B9, K9⟩
      have B1 := K9.blk (by simp; omega) B1
      have B2 := K9.blk (by simp; omega) B2
      have B3 := B9; have K := K.new1 K9 (by first | (right; omega) | (left; simp; done)); have Z9 := K9.1
      refine rs_nil ?_
      refine q_blk_n ?_
      refine q_thn ?_
      refine rG <| rs_v (v_loadAgg (vs := [_, _, _, _]) many_keyspan_Span rfl (by exact B3.sub _ 4 rfl)) rfl ?_
      refine rs_w0 (w_put siz_keyspan_Span rfl rfl rfl rfl B2 rfl) ?_
      rintro _ h10 ⟨B10, K10⟩
      have B1 := K10.blk (by simp; omega) B1
      have B3 := K10.blk (by simp; omega) B3
      have B2 := B10; have K := K.new1 K10 (by first | (right; omega) | (left; simp; done)); have Z10 := K10.1
      refine rN <| tr_ret <| q_ret (res_cell (vs := [_, _, _, _]) rfl rfl many_keyspan_Span (by exact B2.sub 0 4 rfl)) ?_
      exact ⟨⟨_, rfl, by rw [hfe]; exact pk_drop ((PKeys.stab hk (K.st hA)).mono Up.old) hle2 hkc⟩, K⟩
    -- no
    simp only [dT, dF] at hif
    have hn1 : lastN isB ks ks.length ≠ 0 := by omega
    refine rG <| rM rfl rfl <| rF fa_keyspan_Span_2 rfl rfl <| rs_v (v_load one_sl_keyspan_Key rfl (by exact B1.cell _ rfl)) rfl ?_
    refine rs_v (v_len u_sl_keyspan_Key rfl) rfl ?_
    refine rs_v (v_sub rfl rfl (by omega) (by omega)) rfl ?_
    refine rs_v (v_eq rfl rfl) rfl ?_
    refine rA rfl rfl <| rN ?_
    refine tr_if rfl (fun hif => ?_) (fun hif => ?_)
    · -- yes
      simp only [dT, dF] at hif
      have h2 : lastN (isH n) ks ks.length = ks.length := by omega
      have hfe := (hv1 hn0).2
      rw [h2, List.drop_length, List.append_nil] at hfe
      refine tr_reg ?_
      refine rF fa_keyspan_Span_2 rfl rfl <| rs_v (v_load one_sl_keyspan_Key rfl (by exact B1.cell _ rfl)) rfl ?_
      refine rM rfl rfl <| rs_v (v_add rfl rfl (by omega) (by omega)) rfl ?_
      refine rs_v (v_slice_0h (i := lastN isB ks ks.length) u_sl_keyspan_Key siz_keyspan_Key rfl rfl rfl (by omega) (by omega)) rfl ?_
      refine rF fa_keyspan_Span_2 rfl rfl <| rs_w0 (w_put siz_sl_keyspan_Key rfl rfl rfl rfl B3 rfl) ?_
      rintro _ h11 ⟨B11, K11⟩
      have B1 := K11.blk (by simp; omega) B1
      have B2 := K11.blk (by simp; omega) B2
      have B3 := B11; have K := K.new1 K11 (by first | (right; omega) | (left; simp; done)); have Z11 := K11.1
      refine rs_nil ?_
      refine q_blk_n ?_
      refine q_thn ?_
      refine rG <| rs_v (v_loadAgg (vs := [_, _, _, _]) many_keyspan_Span rfl (by exact B3.sub _ 4 rfl)) rfl ?_
      refine rs_w0 (w_put siz_keyspan_Span rfl rfl rfl rfl B2 rfl) ?_
      rintro _ h12 ⟨B12, K12⟩
      have B1 := K12.blk (by simp; omega) B1
      have B3 := K12.blk (by simp; omega) B3
      have B2 := B12; have K := K.new1 K12 (by first | (right; omega) | (left; simp; done)); have Z12 := K12.1
      refine rN <| tr_ret <| q_ret (res_cell (vs := [_, _, _, _]) rfl rfl many_keyspan_Span (by exact B2.sub 0 4 rfl)) ?_
      exact ⟨⟨_, rfl, by rw [hfe]; exact pk_take ((PKeys.stab hk (K.st hA)).mono Up.old) hle1⟩, K⟩
    -- no
    simp only [dT, dF] at hif
    have hn2 : lastN (isH n) ks ks.length ≠ ks.length := by omega
    have hfe := (hv1 hn0).2
    have hlt9 := (hv1 hn0).1
    obtain ⟨news, hnl, hnc, hn1c⟩ := pkeys_row hk
    have hcd := cells_drop hnc (lastN (isH n) ks ks.length * 3)
    have hct := cells_take hnc (lastN isB ks ks.length * 3)
    refine rG <| rM rfl rfl <| rs_v (v_add rfl rfl (by omega) (by omega)) rfl ?_
    refine rF fa_keyspan_Span_2 rfl rfl <| rs_v (v_load one_sl_keyspan_Key rfl (by exact B1.cell _ rfl)) rfl ?_
    refine rs_v (v_len u_sl_keyspan_Key rfl) rfl ?_
    refine rM rfl rfl <| rs_v (v_sub rfl rfl (by omega) (by omega)) rfl ?_
    refine rs_v (v_sub rfl rfl (by omega) (by omega)) rfl ?_
    refine rs_v (v_add rfl rfl (by omega) (by omega)) rfl ?_
    refine rs_w (w_makeI (c := lastN isB ks ks.length + (ks.length - lastN (isH n) ks ks.length)) u_sl_keyspan_Key info_keyspan_Key rfl rfl (by omega) (by omega) (by omega) (by omega)) rfl ?_
    rintro _ h13 ⟨rfl, ⟨mc, hml, Bm⟩, K13⟩
    have hZm := Bm.lt
    have B1 := K13.blk (by simp) B1
    have B2 := K13.blk (by simp) B2
    have B3 := K13.blk (by simp) B3
    have K := K.new0 K13; have Z13 := K13.1
    refine rF fa_keyspan_Span_2 rfl rfl <| rs_w0 (w_put siz_sl_keyspan_Key rfl rfl rfl rfl B3 rfl) ?_
    rintro _ h14 ⟨B14, K14⟩
    have B1 := K14.blk (by simp; omega) B1
    have B2 := K14.blk (by simp; omega) B2
    have Bm := (K14).blk (by simp; omega) Bm
    have B3 := B14; have K := K.new1 K14 (by first | (right; omega) | (left; simp; done)); have Z14 := K14.1
    refine rN ?_
    refine tr_seq ?_
    refine tr_draw [(true, 7), (false, 1)] _ (by kernel_rfl) (by kernel_rfl) (by kernel_rfl) ?_
    refine rx_any Same same_pre ?_
    refine rq_v (v_fieldAddr fa_keyspan_Span_2 rfl) <| rq_v (v_load one_sl_keyspan_Key rfl (by exact B3.cell _ rfl)) ?_
    refine rq_v (v_fieldAddr fa_keyspan_Span_2 rfl) <| rq_v (v_load one_sl_keyspan_Key rfl (by exact B1.cell _ rfl)) ?_
    refine rq_v (v_move rfl) <| rq_v (v_add rfl rfl (by omega) (by omega)) ?_
    refine rq_v (v_slice_h (i := lastN isB ks ks.length) u_sl_keyspan_Key siz_keyspan_Key rfl rfl (by omega) (by omega)) ?_
    refine rm_end ?_; intro ha15 Ka15; simp only [endM, hypF, ofE, argE, List.nil_append]
    have Ka15 : h14 = ha15 := Eq.symm Ka15
    subst Ka15
    refine rx_seq ?_
    refine rs_w (w_copyN (sz := 3) (cs := news.take (lastN isB ks ks.length * 3)) u_sl_keyspan_Key info_sz_Key rfl rfl Bm (by rw [List.length_take, show Nat.min (lastN isB ks ks.length) (lastN isB ks ks.length + (ks.length - lastN (isH n) ks ks.length)) = lastN isB ks ks.length from Nat.min_eq_left (by omega)]; omega) (K.cells (by simp) hct) (by rw [List.length_take]; omega) (fun u hu => hn1c u (List.mem_of_mem_take hu))) rfl ?_
    rintro _ h16 ⟨Bm, K16⟩
    have B1 := K16.blk (by simp; omega) B1
    have B2 := K16.blk (by simp; omega) B2
    have B3 := K16.blk (by simp; omega) B3
    have K := K.new1 K16 (.inr (by omega)); have Z16 := K16.1
    refine rs_nil ?_
    refine q_con ?_
    refine rx_nil ?_
    refine q_thn ?_
    refine tr_draw [(true, 10), (false, 1)] _ (by kernel_rfl) (by kernel_rfl) (by kernel_rfl) ?_
    refine rx_any Same same_pre ?_
    refine rq_v (v_fieldAddr fa_keyspan_Span_2 rfl) <| rq_v (v_load one_sl_keyspan_Key rfl (by exact B3.cell _ rfl)) ?_
    refine rq_v (v_move rfl) <| rq_v (v_add rfl rfl (by omega) (by omega)) ?_
    refine rq_v (v_slice_l (i := lastN isB ks ks.length) u_sl_keyspan_Key siz_keyspan_Key rfl rfl (by omega) (by omega) (by omega)) ?_
    refine rq_v (v_fieldAddr fa_keyspan_Span_2 rfl) <| rq_v (v_load one_sl_keyspan_Key rfl (by exact B1.cell _ rfl)) ?_
    refine rq_v (v_move rfl) <| rq_v (v_add rfl rfl (by omega) (by omega)) ?_
    refine rq_v (v_slice_l (i := lastN (isH n) ks ks.length) u_sl_keyspan_Key siz_keyspan_Key rfl rfl (by omega) (by omega) (by omega)) ?_
    refine rm_end ?_; intro ha17 Ka17; simp only [endM, hypF, ofE, argE, List.nil_append]
    have Ka17 : h16 = ha17 := Eq.symm Ka17
    subst Ka17
    refine rx_seq ?_
    refine rs_w (w_copyN (sz := 3) (cs := news.drop (lastN (isH n) ks ks.length * 3)) u_sl_keyspan_Key info_sz_Key rfl rfl Bm (by rw [List.length_drop, show Nat.min (ks.length - lastN (isH n) ks ks.length) (lastN isB ks ks.length + (ks.length - lastN (isH n) ks ks.length) - lastN isB ks ks.length) = ks.length - lastN (isH n) ks ks.length from Nat.min_eq_left (by omega)]; omega) (K.cells (by simp) hcd) (by simp only [List.length_append, List.length_take, List.length_drop]; omega) (fun u hu => hn1c u (List.mem_of_mem_drop hu))) rfl ?_
    rintro _ h18 ⟨Bm, K18⟩
    have B1 := K18.blk (by simp; omega) B1
    have B2 := K18.blk (by simp; omega) B2
    have B3 := K18.blk (by simp; omega) B3
    have K := K.new1 K18 (.inr (by omega)); have Z18 := K18.1
    refine rs_nil ?_
    refine q_con ?_
    refine rx_nil ?_
    refine q_blk_n ?_
    refine q_thn ?_
    refine rG <| rs_v (v_loadAgg (vs := [_, _, _, _]) many_keyspan_Span rfl (by exact B3.sub _ 4 rfl)) rfl ?_
    refine rs_w0 (w_put siz_keyspan_Span rfl rfl rfl rfl B2 rfl) ?_
    rintro _ h19 ⟨B19, K19⟩
    have B1 := K19.blk (by simp; omega) B1
    have B3 := K19.blk (by simp; omega) B3
    have Bm := (K19).blk (by simp; omega) Bm
    have B2 := B19; have K := K.new1 K19 (by first | (right; omega) | (left; simp; done)); have Z19 := K19.1
    refine rN <| tr_ret <| q_ret (res_cell (vs := [_, _, _, _]) rfl rfl many_keyspan_Span (by exact B2.sub 0 4 rfl)) ?_
    refine ⟨⟨_, rfl, ?_⟩, K⟩
    rw [hfe]
    refine pk_two ((PKeys.stab hk (K.st hA)).mono Up.old) (K.cells (by simp) hnc) hnl (by omega) hle2 Bm ?_ (fun b hb => hb) (.inr ⟨by omega, by omega⟩)
    have hta : (news.take (lastN isB ks ks.length * 3)).length = lastN isB ks ks.length * 3 := by rw [List.length_take]; omega
    simp only [List.take_zero, List.nil_append, hta, Nat.zero_add]
    rw [List.take_append_of_le_length (by omega), List.take_of_length_le (by omega)]
    rw [show List.drop (lastN isB ks ks.length * 3 + (List.drop (lastN (isH n) ks ks.length * 3) news).length) (List.take (lastN isB ks ks.length * 3) news ++ List.drop (lastN isB ks ks.length * 3) mc) = [] from List.drop_of_length_le (by simp only [List.length_append, List.length_take, List.length_drop]; omega), List.append_nil]
  -- yes
  simp only [dT, dF] at hif
  obtain ⟨x, hsk⟩ := ex_get (L := ks) (k := k) (by omega)
  obtain ⟨sv, vv, hcc, r1, r2⟩ := hR k x hsk
  obtain ⟨x1, x2, x3, rfl⟩ := r1.form2
  obtain ⟨y1, y2, y3, rfl⟩ := r2.form2
  have hxr := hr x (List.mem_of_getElem? hsk)
  have hxr1 := hxr.1
  have hxr2 := hxr.2
  obtain ⟨T, hT⟩ : ∃ T : Nat, x.tr = (T : Int) := ⟨x.tr.toNat, by omega⟩
  have hTx : trN x = T := by unfold trN; omega
  rw [hT] at hcc
  have hcells := K.cells (by simp) hcc
  refine tr_skip ?_
  refine q_thn ?_
  refine tr_seq ?_
  refine tr_block <| rG <| rM rfl rfl <| rA rfl rfl <| rN <| rG <| rF fa_keyspan_Span_2 rfl rfl <| rs_v (v_load one_sl_keyspan_Key rfl (by exact B1.cell _ rfl)) rfl ?_
  refine rM rfl rfl <| rs_v (v_indexAddrN u_sl_keyspan_Key siz_keyspan_Key rfl rfl (by omega)) rfl ?_
  refine rs_v (v_loadAgg (vs := [_, _, _]) many_keyspan_Key rfl (by exact hcells)) rfl ?_
  refine rs_w (w_call (vs := [_]) ok_keyspan_Key_SeqNum rfl ⟨rfl, trivial⟩ (c_keySeq (T := T) (by omega))) rfl ?_
  rintro _ h20 ⟨rfl, K20⟩
  have B1 := K20.blk (by simp) B1
  have B2 := K20.blk (by simp) B2
  have B3 := K20.blk (by simp) B3
  have K := K.new0 K20; have Z20 := K20.1
  refine rA rfl rfl <| rN <| rG <| rM rfl rfl <| rs_v (v_andN (b := 36028797018963968) rfl rfl (by omega) (by omega)) rfl ?_
  refine rs_v (v_ne rfl rfl) rfl ?_
  refine rN ?_
  refine tr_if rfl (fun hif => ?_) (fun hif => ?_)
  · -- yes
    have hb : isB x = true := by
      unfold isB; rw [hTx]; rw [decide_eq_true_eq]; intro e; rw [e] at hif; simp at hif
    have hh : isH n x = false := by unfold isH; rw [hb]; rfl
    refine tr_reg ?_
    refine rM rfl rfl <| rA rfl rfl ?_
    refine rs_nil ?_
    refine q_blk_n ?_
    refine q_thn ?_
    refine tr_reg ?_
    refine rs_v (v_add rfl rfl (by omega) (by omega)) rfl ?_
    refine rM rfl rfl ?_
    refine rs_nil ?_
    refine q_lp (ks.length - (k + 1)) [(1, _), (2, _), (4, _), (5, _), (6, _), (7, _), (26, _), (27, _)] (by omega) ⟨rfl, rfl, rfl, rfl, rfl, rfl, rfl, rfl, trivial⟩ ⟨k + 1, _, _, by omega, rfl, rfl, ?_, ?_, K, B1, B2, B3⟩
    · rw [lastN_yes hsk hb]; omega
    · rw [lastN_no hsk hh]; exact hj9
  -- no
  have hb : isB x = false := by
    unfold isB; rw [hTx]; rw [decide_eq_false_iff_not]; intro e; apply e; simpa using hif
  refine rG <| rM rfl rfl <| rM rfl rfl <| rs_v (v_ge rfl rfl) rfl ?_
  refine rN ?_
  refine tr_if rfl (fun hif => ?_) (fun hif => ?_)
  · -- yes
    simp only [dT, dF] at hif
    have hh : isH n x = true := by unfold isH; rw [hb, hTx, decide_eq_true (by omega)]; rfl
    refine tr_reg ?_
    refine rM rfl rfl <| rA rfl rfl ?_
    refine rs_nil ?_
    refine q_blk_n ?_
    refine q_thn ?_
    refine tr_reg ?_
    refine rs_v (v_add rfl rfl (by omega) (by omega)) rfl ?_
    refine rM rfl rfl ?_
    refine rs_nil ?_
    refine q_lp (ks.length - (k + 1)) [(1, _), (2, _), (4, _), (5, _), (6, _), (7, _), (26, _), (27, _)] (by omega) ⟨rfl, rfl, rfl, rfl, rfl, rfl, rfl, rfl, trivial⟩ ⟨k + 1, _, _, by omega, rfl, rfl, ?_, ?_, K, B1, B2, B3⟩
    · rw [lastN_no hsk hb]; exact hi9
    · rw [lastN_yes hsk hh]; omega
  -- no
  simp only [dT, dF] at hif
  have hh : isH n x = false := by unfold isH; rw [hb, hTx, decide_eq_false (by omega)]; rfl
  refine tr_skip <| q_blk_n ?_
  refine q_thn ?_
  refine tr_reg ?_
  refine rs_v (v_add rfl rfl (by omega) (by omega)) rfl ?_
  refine rM rfl rfl ?_
  refine rs_nil ?_
  refine q_lp (ks.length - (k + 1)) [(1, _), (2, _), (4, _), (5, _), (6, _), (7, _), (26, _), (27, _)] (by omega) ⟨rfl, rfl, rfl, rfl, rfl, rfl, rfl, rfl, trivial⟩ ⟨k + 1, _, _, by omega, rfl, rfl, ?_, ?_, K, B1, B2, B3⟩
  · rw [lastN_no hsk hb]; exact hi9
  · rw [lastN_no hsk hh]; exact hj9
set_option maxHeartbeats 2000000
theorem mrg_vis {ws : List (List SpanD)} {va : List Lev} {n : Nat} {B : List ByteArray} (aw : va.map Lev.W = ws) (ak : KeysOK va) (hr : ∀ W, W ∈ ws → KRng W) : (mrgW va 72057594037927935 B).map (visSp n) = mrgW va n B := by
  have hx : ∀ x, (kfM va 72057594037927935 x).filter (visK n) = kfM va n x := fun x => by
    unfold kfM
    rw [List.filter_map, List.filter_filter]
    congr 1
    refine List.filter_congr fun y hy => ?_
    have hy2 : y.k ∈ (catX va x).map KT.k := List.mem_map.2 ⟨y, (sortKT_perm _).mem_iff.1 hy, rfl⟩
    rw [catX_keys ak] at hy2
    obtain ⟨c, hc, hyc⟩ := List.mem_flatten.1 hy2
    obtain ⟨W, hW, rfl⟩ := List.mem_map.1 hc
    have hWm : W ∈ ws := by rw [← aw]; exact hW
    have hrg : KRng1 y.k := by
      unfold lvK at hyc
      split at hyc
      · cases hs : W[cE W x / 2]? with
        | none => rw [hs] at hyc; simp at hyc
        | some s => rw [hs] at hyc; exact hr W hWm s (List.mem_of_getElem? hs) _ hyc
      · cases hyc
    simp only [Function.comp]
    rw [big_vis hrg, Bool.and_true]
  unfold mrgW
  rw [List.map_filterMap]
  unfold sgM segs
  rw [List.filterMap_map, List.filterMap_map]
  refine fm_congr _ fun j _ => ?_
  simp only [Function.comp, covF]
  split
  · rw [Option.map_some]; unfold visSp; rw [hx]
  · rfl
theorem mrg_rng {ws : List (List SpanD)} {va : List Lev} (hG : ∀ W, W ∈ ws → Good W) (hr : ∀ W, W ∈ ws → KRng W) (hl : ws.length ≤ 10) (aw : va.map Lev.W = ws) (ak : KeysOK va) : ∀ s, s ∈ mrgW va 72057594037927935 (bndF ws.flatten) → (∀ k, k ∈ s.ks → KRng1 k) ∧ descB s.ks = true := fun s hs => by
  have m1 := mrgA_of aw ak (LG.of hG hl) hr
  obtain ⟨_, _, _, x, y, hp⟩ := mrgA_keys m1 hs
  refine ⟨fun k hk => ?_, ((merged_alk aw ak hG hl).good s hs).1⟩
  obtain ⟨t, ht, hkt⟩ := covK_memk (hp.mem_iff.1 hk)
  exact krng_flat hr t ht k hkt
theorem c_implSpanVisible (χ : Chi) (h : Heap) (A : Nat → Prop) (hA : Low A h) (s : SpanD) (kv : Value) (n : Nat) (hks : RKeys A h kv s.ks) (hm : SpanD.small s) (hr : ∀ k, k ∈ s.ks → KRng1 k) (hd : descB s.ks = true) :
    Cl Tryz.prog χ 35 #[.agg #[.string s.s, .string s.e, kv], .int .u64 (n : Int)] h (fun r h' => (∃ kv', r = .agg #[.string s.s, .string s.e, kv'] ∧ RKeys (Up N0 h h') h' kv' (s.ks.filter (visK n))) ∧ Keep [] h h') := by
  obtain ⟨ka, kc, rfl⟩ := hks.form2
  refine cl_intro Tryz.func35 rfl rfl rfl ?_
  have K : Keep [] h h := Keep.refl _ _
  refine rG <| rs_w (w_newbox rfl) rfl ?_
  rintro _ h1 ⟨rfl, B1, K1, Z1⟩
  have S1 := K.1; have K := K.new0 K1
  refine rs_w (w_new zero_impl_Span) rfl ?_
  rintro _ h2 ⟨rfl, B2, K2, Z2⟩
  have B1 := K2.blk (by simp) B1
  have S2 := K.1; have K := K.new0 K2
  refine rN <| rG <| rs_v (v_loadAgg (vs := [_, _, _]) many_impl_Span rfl (by exact B1.sub _ 3 rfl)) rfl ?_
  refine rs_w (w_call (vs := [_]) ok_impl_Span_span rfl ⟨rfl, trivial⟩ (c_spanR χ _ A (hA.mono K.1) s _ (hks.stab (K.st hA)) hm)) rfl ?_
  rintro _ h3 ⟨⟨sv, ev, kv1, rfl, r1, r2, r3, r4⟩, K3⟩
  obtain ⟨a1, n1, c1, rfl⟩ := r1.form2
  obtain ⟨a2, n2, c2, rfl⟩ := r2.form2
  obtain ⟨a3, n3, c3, rfl⟩ := r3.form2
  have hlo3 := (n0low h2).up K3.1
  have B1 := K3.blk (by simp) B1
  have B2 := K3.blk (by simp) B2
  have K := K.new0 K3; have Z3 := K3.1
  refine rM rfl rfl <| rs_w (w_call (vs := [_, _]) ok_keyspan_Span_Visible rfl ⟨rfl, rfl, trivial⟩ (c_keyspanVisible χ _ (Up N0 h2 h3) hlo3 _ _ _ _ _ _ _ s.ks n r3 r4 hm.2.2.1 hr hd)) rfl ?_
  rintro _ h4 ⟨⟨kv2, rfl, r5⟩, K4⟩
  obtain ⟨a5, n5, c5, rfl⟩ := r5.form2
  have B1 := K4.blk (by simp) B1
  have B2 := K4.blk (by simp) B2
  have K := K.new0 K4; have Z4 := K4.1
  refine rs_w (w_call (vs := [_]) ok_impl_plainSpan rfl ⟨rfl, trivial⟩ (c_plainSpan χ _ _ (hlo3.up K4.1) (visSp n s) _ _ _ 0 ((r1.stab (K4.st hlo3)).mono Up.old) ((r2.stab (K4.st hlo3)).mono Up.old) r5 (Nat.le_trans (List.length_filter_le _ _) hm.2.2.1))) rfl ?_
  rintro _ h5 ⟨⟨kv6, rfl, r6⟩, K5⟩
  obtain ⟨a6, c6, rfl⟩ := r6.form2
  have B1 := K5.blk (by simp) B1
  have B2 := K5.blk (by simp) B2
  have K := K.new0 K5; have Z5 := K5.1
  refine rs_w0 (w_put siz_impl_Span rfl rfl rfl rfl B2 rfl) ?_
  rintro _ h6 ⟨B6, K6⟩
  have B1 := K6.blk (by simp; omega) B1
  have B2 := B6; have K := K.new1 K6 (by first | (right; omega) | (left; simp; done)); have Z6 := K6.1
  refine rN <| tr_ret <| q_ret (res_cell (vs := [_, _, _]) rfl rfl many_impl_Span (by exact B2.sub 0 3 rfl)) ?_
  have hs := stab_skip (n0low h) (by omega) K5.1 K6 (by omega) (by omega)
  exact ⟨⟨_, rfl, (r6.stab hs).mono (Up.trans2 (by omega) K6.1)⟩, K⟩
end Go.Proofs.YtmckkklhonfmcaaGreat
