/- Texts W101 to W119, as far as the statement reaches them, laid together by a program of ours. Conditions: those that each theorem names. -/
import Derived.Test.YtmckkklhonfmcaaGreatK4
set_option linter.unusedVariables false
set_option linter.unusedSimpArgs false
set_option linter.unusedSectionVars false
namespace Go.Proofs.YtmckkklhonfmcaaGreat
open Go.Tess Go.RowKit
set_option maxRecDepth 100000
set_option maxHeartbeats 4000000
theorem c_findNextFragmentSet {χ : Chi} {A : Nat → Prop} {bf mi sb : Nat} {vs : List Lev} {snap : Nat} {B : List ByteArray} {F : Nat → Prop} {rs : Nat → Nat} {q : List Nat} {st en bv : Value} {k : Nat} {h : Heap} (C : MC A bf mi sb vs B) (hbad : ∀ b, badB A bf mi sb vs b → F b) (hl : Low F h)
    (X : MXt A bf mi sb vs snap F rs false 1 q st en bv h) (hp : q.Perm (validQ vs rs vs.length)) (hH : HFrom (hlO false vs rs) q.length 0 q) (hk : k ≤ B.length) (hF : FNk (wsO vs) B k rs) :
    Cl Tryz.prog χ 117 #[.pointer (some ⟨mi, 0, none⟩)] h (MPost A bf mi sb vs snap B F h (fwdP (covF (wsO vs)) (sgM vs snap B) (posF B k))) := by
  refine cl_intro Tryz.func117 rfl rfl rfl ?_
  have K : Keep [] h h := Keep.refl _ _
  refine rG <| rA rfl rfl <| rN ?_
  refine tr_seq ?_
  refine tr_block ?_
  refine tr_loop (fun m E h' => ∃ k1 rs1 q1 st1 en1 bv1, k1 ≤ B.length ∧ m = B.length - k1 ∧ E = [(0, .pointer (some ⟨mi, 0, none⟩)), (2, .pointer none)] ∧ MXt A bf mi sb vs snap (fun b => F b ∨ h.size ≤ b) rs1 false 1 q1 st1 en1 bv1 h' ∧ q1.Perm (validQ vs rs1 vs.length) ∧ HFrom (hlO false vs rs1) q1.length 0 q1 ∧ FNk (wsO vs) B k1 rs1 ∧ fwdP (covF (wsO vs)) (sgM vs snap B) (posF B k) = fwdP (covF (wsO vs)) (sgM vs snap B) (posF B k1) ∧ KeepP F h h') (B.length - k) [(0, _), (2, _)] ⟨rfl, rfl, trivial⟩ ⟨k, rs, q, st, en, bv, hk, rfl, rfl, X.ent, hp, hH, hF, rfl, KeepP.refl _ _⟩ ?_
  rintro m E hL1 ⟨k1, rs1, q1, st1, en1, bv1, hk1, rfl, rfl, X, hp, hH, hF, hpos, KP⟩
  obtain ⟨s0, s1, s2, s3, kv1, L1, tl1, lk1, lb1, H, O⟩ := X
  have hq1 := q_lt hp
  have H2 := H.hs hq1
  refine tr_seq ?_
  refine tr_cut (fun E h' => hL1 = h' ∧ ∃ b : Bool, E = [(0, .pointer (some ⟨mi, 0, none⟩)), (2, .pointer none), (19, .bool b)] ∧ (b = false → q1 = []) ∧ (b = true → ∃ x q2, q1 = x :: q2)) ?_ ?_
  ·
    rcases q1 with _ | ⟨x, q2⟩
    · skip
      refine tr_reg ?_
      refine rM rfl rfl <| rC rfl rfl <| rF fa_keyspan_MergingIter_0 rfl rfl <| rs_v (v_load one_p_keyspan_MergingBuffers rfl (by exact H.mb.b2.cell 0 rfl)) rfl ?_
      refine rC rfl rfl <| rF fa_keyspan_MergingBuffers_2 rfl rfl <| rs_w (w_call (vs := [_]) ok_keyspan_mergingIterHeap_len rfl ⟨rfl, trivial⟩ (c_hLen H2)) rfl ?_
      rintro _ h2 ⟨rfl, hsame⟩; have hsame := hsame.symm; subst hsame
      refine rs_v (v_gt rfl rfl) rfl ?_
      refine rM rfl rfl <| rs_gs rfl (rfl) rfl rfl <| rs_gs rfl (rfl) rfl rfl <| rs_gs rfl (rfl) rfl rfl <| rs_gs rfl (rfl) rfl rfl <| rs_gs rfl (rfl) rfl rfl <| rs_v (v_pick_f rfl rfl) rfl ?_
      refine rs_nil ?_
      exact q_cut [(0, _), (2, _), (19, _)] ⟨rfl, rfl, rfl, trivial⟩ ⟨rfl, _, rfl, fun _ => rfl, fun e => by cases e⟩
    · have g1 : decide ((0 : Int) < ((x :: q2).length : Int)) = true := decide_eq_true (by simp only [List.length_cons]; omega)
      refine tr_reg ?_
      refine rM rfl rfl <| rC rfl rfl <| rF fa_keyspan_MergingIter_0 rfl rfl <| rs_v (v_load one_p_keyspan_MergingBuffers rfl (by exact H.mb.b2.cell 0 rfl)) rfl ?_
      refine rC rfl rfl <| rF fa_keyspan_MergingBuffers_2 rfl rfl <| rs_w (w_call (vs := [_]) ok_keyspan_mergingIterHeap_len rfl ⟨rfl, trivial⟩ (c_hLen H2)) rfl ?_
      rintro _ h3 ⟨rfl, hsame⟩; have hsame := hsame.symm; subst hsame
      refine rs_v (v_gt rfl rfl) rfl ?_
      refine rM rfl rfl <| rs_gv rfl (lkb g1) (v_move rfl) rfl <| rs_gv rfl (lkb g1) (v_nilCheck_ptr rfl) rfl ?_
      refine rs_gv rfl (lkb g1) (v_fieldAddr fa_keyspan_MergingIter_5 rfl) rfl ?_
      refine rs_gv rfl (lkb g1) (v_load one_error rfl (by exact H.mb.b2.cell 8 rfl)) rfl ?_
      refine rs_gv rfl (lkb g1) (v_ieq_nil isi_error rfl rfl) rfl ?_
      refine rs_v (v_pick_t (lkb g1) rfl) rfl ?_
      refine rs_nil ?_
      exact q_cut [(0, _), (2, _), (19, _)] ⟨rfl, rfl, rfl, trivial⟩ ⟨rfl, _, rfl, fun e => (by cases e), fun _ => ⟨x, q2, rfl⟩⟩
  rintro E h99 ⟨hh, b, rfl, hb0, hb1⟩
  subst hh
  refine tr_ifn rfl (fun hif => ?_) (fun hif => ?_)
  · -- no
    have hq0 := hb0 hif
    subst hq0
    obtain ⟨ak, ck, rfl⟩ := O.k.slice
    refine tr_exit <| q_thn_exit ?_
    refine q_lp_exit ?_
    refine q_blk_hit ?_
    refine q_thn ?_
    refine rG <| rM rfl rfl <| rs_w (w_call (vs := [_]) ok_keyspan_MergingIter_clear rfl ⟨rfl, trivial⟩ (c_clear H O.k O.ll)) rfl ?_
    rintro _ h5 ⟨rfl, H, HK9, K5⟩
    have KP := KeepP.newX KP K5 (fun y hy => by
      rcases List.mem_cons.1 hy with rfl | hy
      · exact .inl (hbad _ (.inr (.inl rfl)))
      · exact O.ok y hy)
    have O := O.clr C HK9 K5
    refine rN <| rG <| rA rfl rfl <| rN <| tr_ret <| q_ret (res_tmp rfl rfl) ?_
    have hk9 := fn_none hF (q_none hp rfl)
    exact mpost_behind hbad hl KP ⟨_, _, _, _, _, _, _, _, _, H, O⟩ hp hH (fnk_end hF hk9) (by rw [hpos, fwdF_end (by omega)])
  -- yes
  obtain ⟨x, q2, rfl⟩ := hb1 hif
  obtain ⟨v, hv, hok⟩ := root_ok hp
  have hvm := List.mem_of_getElem? hv
  obtain ⟨hkB, hκ⟩ := fn_root' C.hB hF hp hH hv
  obtain ⟨a5, n5, c5, ek5⟩ := at_nn (H.sv v hvm).1 hok
  have hnd := hp.nodup_iff.2 (validQ_nodup _ _ _)
  have hb1' := fnk_bnd hF hkB
  have hlen : (bkW v.W (rs1 x)).data.toList.length ≤ 100000000000 := by rw [hκ]; exact C.bl _ (List.mem_of_getElem? (atB_get hkB))
  have hit := (H.hs hq1).item (i := 0) (x := x) rfl
  have hlv := H.mb.lev (H.lv x v hv).1
  have hkey : cellH hL1 mi (10 + x * 4 + 1 + 1) = some (.slice (some a5) n5 c5) := by rw [← ek5]; exact hlv 2 _ rfl
  have hkb : RBytes A hL1 (.slice (some a5) n5 c5) (bkW v.W (rs1 x)) := by rw [← ek5]; exact bk_key (H.sv v (List.mem_of_getElem? hv)).1 _
  refine tr_skip ?_
  refine q_thn ?_
  refine tr_block <| rG <| rM rfl rfl <| rM rfl rfl <| rC rfl rfl <| rF fa_keyspan_MergingIter_0 rfl rfl <| rs_v (v_load one_p_keyspan_MergingBuffers rfl (by exact H.mb.b2.cell 0 rfl)) rfl ?_
  refine rC rfl rfl <| rF fa_keyspan_MergingBuffers_2 rfl rfl <| rF fa_keyspan_mergingIterHeap_2 rfl rfl <| rs_v (v_load one_sl_keyspan_mergingIterItem rfl (by exact H.b1.cell 4 rfl)) rfl ?_
  refine rs_v (v_indexAddrE (i := 0) u_sl_keyspan_mergingIterItem siz_keyspan_mergingIterItem rfl rfl rfl (Nat.succ_pos _)) rfl ?_
  refine rF fa_keyspan_mergingIterItem_0 rfl rfl <| rs_v (v_load one_p_keyspan_boundKey rfl (by exact hit 0 _ rfl)) rfl ?_
  refine rC rfl rfl <| rF fa_keyspan_boundKey_1 rfl rfl <| rs_v (v_load one_sl_uint8 rfl (by exact hkey)) rfl ?_
  refine rC rfl rfl <| rF fa_keyspan_MergingIter_1 rfl rfl <| rs_w0 (w_store siz_sl_uint8 rfl rfl rfl rfl H.mb.b2 (by rw [H.mb.len]; omega)) ?_
  rintro _ h6 ⟨B9, K6⟩
  have KP := KeepP.newX KP K6 (fun y hy => .inl (hbad y (C.kmi y hy).1))
  have H := H.hdr (hd' := hdC bf (.slice (some a5) n5 c5) en1 (.iface 188 (visF sb)) s0 s1 s2 s3 1) (by rw [mi_putH (show (2 : Nat) ≤ 10 by omega)] at B9; exact B9) rfl K6
  have O := O.keep K6 C.kmi
  have hit := (H.hs hq1).item (i := 0) (x := x) rfl
  have hlv := H.mb.lev (H.lv x v hv).1
  have hkey : cellH h6 mi (10 + x * 4 + 1 + 1) = some (.slice (some a5) n5 c5) := by rw [← ek5]; exact hlv 2 _ rfl
  have hkb : RBytes A h6 (.slice (some a5) n5 c5) (bkW v.W (rs1 x)) := by rw [← ek5]; exact bk_key (H.sv v (List.mem_of_getElem? hv)).1 _
  refine rN ?_
  refine tr_cut (fun E h' => ∃ st2 bv2, E = [(0, .pointer (some ⟨mi, 0, none⟩)), (2, .pointer none)] ∧ MXt A bf mi sb vs snap (fun b => F b ∨ h.size ≤ b) rs1 false 1 (x :: q2) st2 en1 bv2 h' ∧ RBytes (fun b => A b ∨ b ∈ bv2.ownBlock.toList) h' st2 (bkW v.W (rs1 x)) ∧ NN st2 ∧ KeepP F h h') ?_ ?_
  ·
    refine rG <| rM rfl rfl <| rC rfl rfl <| rF fa_keyspan_MergingIter_0 rfl rfl <| rs_v (v_load one_p_keyspan_MergingBuffers rfl (by exact H.mb.b2.cell 0 rfl)) rfl ?_
    refine rC rfl rfl <| rF fa_keyspan_MergingBuffers_2 rfl rfl <| rF fa_keyspan_mergingIterHeap_2 rfl rfl <| rs_v (v_load one_sl_keyspan_mergingIterItem rfl (by exact H.b1.cell 4 rfl)) rfl ?_
    refine rs_v (v_indexAddrE (i := 0) u_sl_keyspan_mergingIterItem siz_keyspan_mergingIterItem rfl rfl rfl (Nat.succ_pos _)) rfl ?_
    refine rF fa_keyspan_mergingIterItem_0 rfl rfl <| rs_v (v_load one_p_keyspan_boundKey rfl (by exact hit 0 _ rfl)) rfl ?_
    refine rC rfl rfl <| rF fa_keyspan_boundKey_0 rfl rfl <| rs_v (v_load one_keyspan_boundKind rfl (by exact hlv 1 _ rfl)) rfl ?_
    refine rs_v (v_eq rfl rfl) rfl ?_
    refine rN ?_
    refine tr_if rfl (fun hif => ?_) (fun hif => ?_)
    · -- yes
      have hkd : (v.at (rs1 x)).kind = 2 := of_decide_eq_true hif
      obtain ⟨ab, cb, rfl⟩ := O.b.slice
      have O0 := O
      refine tr_seq ?_
      have hmiX : mi ∉ (.slice ab lb1.length cb : Value).ownBlock.toList := fun hx => O.b.2 _ hx (.inr (.inr (.inl rfl)))
      have hbfX : bf ∉ (.slice ab lb1.length cb : Value).ownBlock.toList := fun hx => O.b.2 _ hx (.inr (.inl rfl))
      refine tr_draw [(true, 17), (false, 3)] _ (by kernel_rfl) (by kernel_rfl) (by kernel_rfl) ?_
      refine rx_big (Keep []) (Keep (.slice ab lb1.length cb : Value).ownBlock.toList) (keep_pre _) (keep_pre _) (fun _ _ k => k.any) ?_
      refine rb_v (keep_pre _) (fun h' hk => v_move rfl) ?_
      refine rb_v (keep_pre _) (fun h' hk => v_nilCheck_ptr rfl) ?_
      refine rb_v (keep_pre _) (fun h' hk => v_fieldAddr fa_keyspan_MergingIter_0 rfl) ?_
      refine rb_v (keep_pre _) (fun h' hk => v_load one_p_keyspan_MergingBuffers rfl (Blk.cell (hk.blk hmiX H.mb.b2) 0 rfl)) ?_
      refine rb_v (keep_pre _) (fun h' hk => v_move rfl) ?_
      refine rb_v (keep_pre _) (fun h' hk => v_nilCheck_ptr rfl) ?_
      refine rb_v (keep_pre _) (fun h' hk => v_fieldAddr fa_keyspan_MergingIter_0 rfl) ?_
      refine rb_v (keep_pre _) (fun h' hk => v_load one_p_keyspan_MergingBuffers rfl (Blk.cell (hk.blk hmiX H.mb.b2) 0 rfl)) ?_
      refine rb_v (keep_pre _) (fun h' hk => v_nilCheck_ptr rfl) ?_
      refine rb_v (keep_pre _) (fun h' hk => v_fieldAddr fa_keyspan_MergingBuffers_3 rfl) ?_
      refine rb_v (keep_pre _) (fun h' hk => v_load one_sl_uint8 rfl (Blk.cell (hk.blk hbfX H.b1) 5 rfl)) ?_
      refine rb_v (keep_pre _) (fun h' hk => v_slice_h u_sl_uint8 siz_uint8 (i := 0) rfl rfl rfl (Nat.zero_le _)) ?_
      refine rb_v (keep_pre _) (fun h' hk => v_move rfl) ?_
      refine rb_v (keep_pre _) (fun h' hk => v_nilCheck_ptr rfl) ?_
      refine rb_v (keep_pre _) (fun h' hk => v_fieldAddr fa_keyspan_MergingIter_1 rfl) ?_
      refine rb_v (keep_pre _) (fun h' hk => v_load one_sl_uint8 rfl (Blk.cell (hk.blk hmiX H.mb.b2) 1 rfl)) ?_
      refine rb_big (fun v' h' => BW (badB A bf mi sb vs) v' (bkW v.W (rs1 x)).data.toList h' ∧ (v'.ownBlock = (.slice ab lb1.length cb : Value).ownBlock ∨ ∃ z, v'.ownBlock = some z ∧ h6.size ≤ z)) (fun v _ _ k1 k2 hr => ⟨hr.1.keep k2 (by simp), hr.2⟩)
        (fun h' hk => OpW.mono (w_appBW rfl rfl (O.b.cut.keep hk (by simp)) (hkb.stab (hk.st H.low)) hlen (fun y hy => Nat.lt_of_lt_of_le (H.bad_lt O.s.lt y hy) hk.1)) (fun v h'' hv => ⟨by rw [own_block0 (m2 := lb1.length) (c2 := cb)] at hv; exact hv.2.1, hv.1, by
          rw [own_block0 (m2 := lb1.length) (c2 := cb)] at hv
          exact hv.2.2.imp id (fun e => ⟨_, e, hk.1⟩)⟩)) ?_
      refine rb_end ?_; intro ha Ka; simp only [endM, hypF, ofE, argE, List.nil_append]
      rintro v57 ⟨H3, he⟩
      obtain ⟨ab2, cb2, rfl⟩ := H3.slice
      have H := H.keep Ka (fun y hy => ⟨fun e => O.b.2 y hy (.inl e), fun e => O.b.2 y hy (.inr (.inl e)), fun e => O.b.2 y hy (.inr (.inr (.inl e))), fun v hv e => O.b.2 y hy (.inr (.inr (.inr (.inr ⟨v, hv, e⟩))))⟩)
      have O := O.app C Ka H3 (fun y hy => by
        rcases he with e | ⟨z, e, hz⟩
        · rw [e] at hy; exact .inl hy
        · rw [e] at hy; simp at hy; exact .inr (by omega)) (fun y hy => .inr (by have := KP.1; omega))
      have KP := KeepP.newX KP Ka (fun y hy => O0.ob y hy)
      refine rx_seq ?_
      refine rC rfl rfl <| rF fa_keyspan_MergingBuffers_3 rfl rfl <| rs_w0 (w_put siz_sl_uint8 rfl rfl rfl rfl H.b1 rfl) ?_
      rintro _ h7 ⟨B, K9⟩
      have KP := KeepP.newX KP K9 (fun y hy => .inl (hbad y (C.kbf y hy).1))
      have H := H.both (q' := x :: q2) (tl' := tl1) (kv' := kv1) (rev' := false) B (K9.blk (by simpa using fun e => H.ne e.symm) H.mb.b2) H.mb.hdl H.mb.ql (K9.sub (by simp))
      have O := O.keep K9 C.kbf
      refine rs_nil ?_
      refine q_con ?_
      refine rx_nil ?_
      refine q_thn ?_
      refine tr_reg ?_
      refine rM rfl rfl <| rM rfl rfl <| rC rfl rfl <| rF fa_keyspan_MergingIter_0 rfl rfl <| rs_v (v_load one_p_keyspan_MergingBuffers rfl (by exact H.mb.b2.cell 0 rfl)) rfl ?_
      refine rC rfl rfl <| rF fa_keyspan_MergingBuffers_3 rfl rfl <| rs_v (v_load one_sl_uint8 rfl (by exact H.b1.cell 5 rfl)) rfl ?_
      refine rC rfl rfl <| rF fa_keyspan_MergingIter_1 rfl rfl <| rs_w0 (w_store siz_sl_uint8 rfl rfl rfl rfl H.mb.b2 (by rw [H.mb.len]; omega)) ?_
      rintro _ h8 ⟨B9, K8⟩
      have KP := KeepP.newX KP K8 (fun y hy => .inl (hbad y (C.kmi y hy).1))
      have H := H.hdr (hd' := hdC bf (.slice ab2 (bkW v.W (rs1 x)).data.toList.length cb2) en1 (.iface 188 (visF sb)) s0 s1 s2 s3 1) (by rw [mi_putH (show (2 : Nat) ≤ 10 by omega)] at B9; exact B9) rfl K8
      have O := O.keep K8 C.kmi
      have hst9 : RBytes (fun b => A b ∨ b ∈ (.slice ab2 (bkW v.W (rs1 x)).data.toList.length cb2 : Value).ownBlock.toList) h8 (.slice ab2 (bkW v.W (rs1 x)).data.toList.length cb2) (bkW v.W (rs1 x)) := O.b.bytes (by omega) (fun y hy => .inr hy)
      refine rs_nil ?_
      exact q_cut [(0, _), (2, _)] ⟨rfl, rfl, trivial⟩ ⟨_, _, rfl, ⟨_, _, _, _, _, _, _, _, _, H, O⟩, hst9, (end_pos (C.ord v hvm) hok hkd hst9), KP⟩
    -- no
    skip
    refine tr_skip ?_
    exact q_cut [(0, _), (2, _)] ⟨rfl, rfl, trivial⟩ ⟨_, _, rfl, ⟨_, _, _, _, _, _, _, _, _, H, O⟩, hkb.mono (fun b hb => .inl hb), ⟨_, _, _, rfl⟩, KP⟩
  rintro E h98 ⟨st2, bv2, rfl, X, hst, hstn, KP⟩
  obtain ⟨s0, s1, s2, s3, kv2, L2, tl2, lk2, lb2, H, O⟩ := X
  rw [hκ] at hst
  obtain ⟨a7, n7, c7, rfl⟩ := hstn
  refine rG <| rM rfl rfl <| rs_w (w_call (vs := [_]) ok_keyspan_MergingIter_nextEntry rfl ⟨rfl, trivial⟩ (c_nextEntry H hv hok.2 hq1 (hfrom_step hnd hH))) rfl ?_
  rintro _ h10 ⟨rfl, L3, q3, tl3, H', hq3, hH3, K10⟩
  have hst := st_keep H O hst K10 (C.klv (List.mem_of_getElem? hv)) (H.nAx (List.mem_of_getElem? hv))
  have H := H'
  have KP := KeepP.newX KP K10 (fun y hy => .inl (hbad y (C.klv (List.mem_of_getElem? hv) y hy).1))
  have O := O.keep K10 (C.klv (List.mem_of_getElem? hv))
  have hp3 := perm_step hp hv hq3
  refine rN ?_
  refine tr_seq ?_
  refine tr_block ?_
  refine tr_loop (fun m E h' => ∃ rs4 q4 L4 tl4, m = tot vs rs4 vs.length ∧ E = [(0, .pointer (some ⟨mi, 0, none⟩)), (2, .pointer none)] ∧ MG A bf mi vs rs4 kv2 bv2 false (hdC bf (.slice (some a7) n7 c7) en1 (.iface 188 (visF sb)) s0 s1 s2 s3 1) L4 q4 tl4 h' ∧ MO A bf mi sb vs snap (fun b => F b ∨ h.size ≤ b) kv2 bv2 lk2 lb2 h' ∧ RBytes (fun b => A b ∨ b ∈ bv2.ownBlock.toList) h' (.slice (some a7) n7 c7) (atB B k1) ∧ q4.Perm (validQ vs rs4 vs.length) ∧ HFrom (hlO false vs rs4) q4.length 0 q4 ∧ (∀ (i : Nat) W, (wsO vs)[i]? = some W → cL W (atB B k1) + 1 ≤ rs4 i ∧ rs4 i ≤ cE W (atB B k1) + 1) ∧ KeepP F h h') (tot vs (upd rs1 x (rs1 x + 1)) vs.length) [(0, _), (2, _)] ⟨rfl, rfl, trivial⟩ ⟨_, q3, L3, tl3, rfl, rfl, H, O, hst, hp3, hH3, bnd_step C.ord hv hok hκ hb1', KP⟩ ?_
  rintro m E hL11 ⟨rs4, q4, L4, tl4, rfl, rfl, H, O, hst, hp4, hH4, hb4, KP⟩
  have hq4 := q_lt hp4
  have H2 := H.hs hq4
  refine tr_seq ?_
  refine tr_cut (fun E h' => hL11 = h' ∧ ∃ b : Bool, E = [(0, .pointer (some ⟨mi, 0, none⟩)), (2, .pointer none), (110, .bool b)] ∧ (b = false → ∀ x q1 v, q4 = x :: q1 → vs[x]? = some v → bkW v.W (rs4 x) ≠ (atB B k1)) ∧ (b = true → ∃ y q5 w, q4 = y :: q5 ∧ vs[y]? = some w ∧ bkW w.W (rs4 y) = (atB B k1))) ?_ ?_
  ·
    rcases q4 with _ | ⟨y, q5⟩
    · skip
      refine tr_quiet (by kernel_rfl) (by kernel_rfl) ?_
      refine rq_v (v_move rfl) <| rq_v (v_nilCheck_ptr rfl) <| rq_v (v_fieldAddr fa_keyspan_MergingIter_0 rfl) <| rq_v (v_load one_p_keyspan_MergingBuffers rfl (by exact H.mb.b2.cell 0 rfl)) ?_
      refine rq_v (v_nilCheck_ptr rfl) <| rq_v (v_fieldAddr fa_keyspan_MergingBuffers_2 rfl) <| rq_v (v_fieldAddr fa_keyspan_mergingIterHeap_2 rfl) <| rq_v (v_load one_sl_keyspan_mergingIterItem rfl (by exact H.b1.cell 4 rfl)) ?_
      refine rq_v (v_len u_sl_keyspan_mergingIterItem rfl) ?_
      refine rq_v (v_gt rfl rfl) ?_
      refine rq_v (v_move rfl) ?_
      refine rm_gs same_pre rfl (rfl) rfl ?_
      refine rm_gs same_pre rfl (rfl) rfl ?_
      refine rm_gs same_pre rfl (rfl) rfl ?_
      refine rm_gs same_pre rfl (rfl) rfl ?_
      refine rm_gs same_pre rfl (rfl) rfl ?_
      refine rq_v (v_pick_f rfl rfl) ?_
      refine rq_v (v_move rfl) ?_
      refine rm_gs same_pre rfl (rfl) rfl ?_
      refine rm_gs same_pre rfl (rfl) rfl ?_
      refine rm_gs same_pre rfl (rfl) rfl ?_
      refine rm_gs same_pre rfl (rfl) rfl ?_
      refine rm_gs same_pre rfl (rfl) rfl ?_
      refine rm_gs same_pre rfl (rfl) rfl ?_
      refine rm_gs same_pre rfl (rfl) rfl ?_
      refine rm_gs same_pre rfl (rfl) rfl ?_
      refine rm_gs same_pre rfl (rfl) rfl ?_
      refine rq_v (v_pick_f rfl rfl) ?_
      refine rm_end ?_; simp only [endM, hypF, ofE, argE]
      exact q_cut [(0, _), (2, _), (110, _)] ⟨rfl, rfl, rfl, trivial⟩ ⟨rfl, _, rfl, fun _ x q1 v e => (by cases e), fun e => (by cases e)⟩
    · have g1 : decide ((0 : Int) < ((y :: q5).length : Int)) = true := decide_eq_true (by simp only [List.length_cons]; omega)
      obtain ⟨w, hw, how⟩ := root_ok hp4
      obtain ⟨a6, n6, c6, ek6⟩ := at_nn (H.sv w (List.mem_of_getElem? hw)).1 how
      have hkb6 := bk_key (H.sv w (List.mem_of_getElem? hw)).1 (rs4 y)
      rw [ek6] at hkb6
      refine tr_quiet (by kernel_rfl) (by kernel_rfl) ?_
      refine rq_v (v_move rfl) <| rq_v (v_nilCheck_ptr rfl) <| rq_v (v_fieldAddr fa_keyspan_MergingIter_0 rfl) <| rq_v (v_load one_p_keyspan_MergingBuffers rfl (by exact H.mb.b2.cell 0 rfl)) ?_
      refine rq_v (v_nilCheck_ptr rfl) <| rq_v (v_fieldAddr fa_keyspan_MergingBuffers_2 rfl) <| rq_v (v_fieldAddr fa_keyspan_mergingIterHeap_2 rfl) <| rq_v (v_load one_sl_keyspan_mergingIterItem rfl (by exact H.b1.cell 4 rfl)) ?_
      refine rq_v (v_len u_sl_keyspan_mergingIterItem rfl) ?_
      refine rq_v (v_gt rfl rfl) ?_
      refine rq_v (v_move rfl) ?_
      refine rq_gv rfl (lkm g1) (v_move rfl) ?_
      refine rq_gv rfl (lkm g1) (v_nilCheck_ptr rfl) ?_
      refine rq_gv rfl (lkm g1) (v_fieldAddr fa_keyspan_MergingIter_5 rfl) ?_
      refine rq_gv rfl (lkm g1) (v_load one_error rfl (by exact H.mb.b2.cell 8 rfl)) ?_
      refine rq_gv rfl (lkm g1) (v_ieq_nil isi_error rfl rfl) ?_
      refine rq_v (v_pick_t (lkb g1) rfl) ?_
      refine rq_v (v_move rfl) ?_
      refine rq_gv rfl (rfl) (v_move rfl) ?_
      refine rq_gv rfl (rfl) (v_move rfl) ?_
      refine rq_gw rfl (rfl) (w_call (vs := [_]) ok_keyspan_MergingIter_heapRoot rfl ⟨rfl, trivial⟩ (c_heapRoot2 H hq4 hw ek6)) ?_
      refine rq_gv rfl (rfl) (v_move rfl) ?_
      refine rq_gv rfl (rfl) (v_nilCheck_ptr rfl) ?_
      refine rq_gv rfl (rfl) (v_fieldAddr fa_keyspan_MergingIter_1 rfl) ?_
      refine rq_gv rfl (rfl) (v_load one_sl_uint8 rfl (by exact H.mb.b2.cell 1 rfl)) ?_
      refine rq_gw rfl (rfl) (w_call (vs := [_, _, _]) ok_keyspan_MergingIter_cmp rfl ⟨rfl, rfl, rfl, trivial⟩ (c_mcmp H (RBytes.by hkb6) (RBytes.by hst))) ?_
      refine rq_gv rfl (rfl) (v_eq rfl rfl) ?_
      refine rq_v (v_pick_t rfl rfl) ?_
      refine rm_end ?_; simp only [endM, hypF, ofE, argE]
      exact q_cut [(0, _), (2, _), (110, _)] ⟨rfl, rfl, rfl, trivial⟩ ⟨rfl, _, rfl, fun e x q1 v e1 e2 e3 => (by
        cases e1; rw [hw] at e2; cases e2
        exact absurd (show cmpB (w.bk (rs4 y)) (atB B k1) = 0 by rw [bk_eq, e3]; exact cmpB_refl _) (of_decide_eq_false e)), fun e => ⟨y, q5, w, rfl, hw, cmpB_eq (of_decide_eq_true e)⟩⟩
  rintro E h97 ⟨hh, b, rfl, hb0, hb1⟩
  subst hh
  refine tr_ifn rfl (fun hif => ?_) (fun hif => ?_)
  · -- no
    have hdone := in_done C.ord hp4 hH4 hb4 (hb0 hif)
    have hFn := fn_next C.hB hkB hdone
    refine tr_exit <| q_thn_exit ?_
    refine q_lp_exit ?_
    refine q_blk_hit ?_
    refine q_thn ?_
    refine tr_seq ?_
    refine tr_cut (fun E h' => hL11 = h' ∧ ∃ b : Bool, E = [(0, .pointer (some ⟨mi, 0, none⟩)), (2, .pointer none), (129, .bool b)] ∧ (b = true → q4 = []) ∧ (b = false → ∃ y q5, q4 = y :: q5)) ?_ ?_
    ·
      rcases q4 with _ | ⟨y, q5⟩
      · skip
        refine tr_reg ?_
        refine rM rfl rfl <| rC rfl rfl <| rF fa_keyspan_MergingIter_0 rfl rfl <| rs_v (v_load one_p_keyspan_MergingBuffers rfl (by exact H.mb.b2.cell 0 rfl)) rfl ?_
        refine rC rfl rfl <| rF fa_keyspan_MergingBuffers_2 rfl rfl <| rF fa_keyspan_mergingIterHeap_2 rfl rfl <| rs_v (v_load one_sl_keyspan_mergingIterItem rfl (by exact H.b1.cell 4 rfl)) rfl ?_
        refine rs_v (v_len u_sl_keyspan_mergingIterItem rfl) rfl ?_
        refine rs_v (v_eq rfl rfl) rfl ?_
        refine rM rfl rfl <| rs_gs rfl (rfl) rfl rfl <| rs_gs rfl (rfl) rfl rfl <| rs_gs rfl (rfl) rfl rfl <| rs_gs rfl (rfl) rfl rfl <| rs_gs rfl (rfl) rfl rfl <| rs_v (v_pick_t rfl rfl) rfl ?_
        refine rs_nil ?_
        exact q_cut [(0, _), (2, _), (129, _)] ⟨rfl, rfl, rfl, trivial⟩ ⟨rfl, _, rfl, fun _ => rfl, fun e => by cases e⟩
      · have g1 : decide (((y :: q5).length : Int) = 0) = false := decide_eq_false (by simp only [List.length_cons]; omega)
        refine tr_reg ?_
        refine rM rfl rfl <| rC rfl rfl <| rF fa_keyspan_MergingIter_0 rfl rfl <| rs_v (v_load one_p_keyspan_MergingBuffers rfl (by exact H.mb.b2.cell 0 rfl)) rfl ?_
        refine rC rfl rfl <| rF fa_keyspan_MergingBuffers_2 rfl rfl <| rF fa_keyspan_mergingIterHeap_2 rfl rfl <| rs_v (v_load one_sl_keyspan_mergingIterItem rfl (by exact H.b1.cell 4 rfl)) rfl ?_
        refine rs_v (v_len u_sl_keyspan_mergingIterItem rfl) rfl ?_
        refine rs_v (v_eq rfl rfl) rfl ?_
        refine rM rfl rfl <| rs_gv rfl (lkb g1) (v_move rfl) rfl <| rs_gv rfl (lkb g1) (v_nilCheck_ptr rfl) rfl ?_
        refine rs_gv rfl (lkb g1) (v_fieldAddr fa_keyspan_MergingIter_5 rfl) rfl ?_
        refine rs_gv rfl (lkb g1) (v_load one_error rfl (by exact H.mb.b2.cell 8 rfl)) rfl ?_
        refine rs_gv rfl (lkb g1) (v_ine_nil isi_error rfl rfl) rfl ?_
        refine rs_v (v_pick_f (lkb g1) rfl) rfl ?_
        refine rs_nil ?_
        exact q_cut [(0, _), (2, _), (129, _)] ⟨rfl, rfl, rfl, trivial⟩ ⟨rfl, _, rfl, fun e => (by cases e), fun _ => ⟨y, q5, rfl⟩⟩
    rintro E h96 ⟨hh, b, rfl, hb2, hb3⟩
    subst hh
    refine tr_if rfl (fun hif => ?_) (fun hif => ?_)
    · -- yes
      have hq0 := hb2 hif
      subst hq0
      obtain ⟨ak, ck, rfl⟩ := O.k.slice
      refine tr_exit <| q_thn_exit ?_
      refine q_blk_miss rfl ?_
      refine q_lp_exit ?_
      refine q_blk_hit ?_
      refine q_thn ?_
      refine rG <| rM rfl rfl <| rs_w (w_call (vs := [_]) ok_keyspan_MergingIter_clear rfl ⟨rfl, trivial⟩ (c_clear H O.k O.ll)) rfl ?_
      rintro _ h14 ⟨rfl, H, HK9, K14⟩
      have KP := KeepP.newX KP K14 (fun y hy => by
        rcases List.mem_cons.1 hy with rfl | hy
        · exact .inl (hbad _ (.inr (.inl rfl)))
        · exact O.ok y hy)
      have O := O.clr C HK9 K14
      refine rN <| rG <| rA rfl rfl <| rN <| tr_ret <| q_ret (res_tmp rfl rfl) ?_
      have hk9 := fn_none hFn (q_none hp4 rfl)
      exact mpost_behind hbad hl KP ⟨_, _, _, _, _, _, _, _, _, H, O⟩ hp4 hH4 (fnk_end hFn hk9) (by rw [hpos, fwdF_end (by omega)])
    -- no
    obtain ⟨y, q5, rfl⟩ := hb3 hif
    obtain ⟨w, hw, how⟩ := root_ok hp4
    obtain ⟨hkB2, hκ2⟩ := fn_root' C.hB hFn hp4 hH4 hw
    obtain ⟨a6, n6, c6, ek6⟩ := at_nn (H.sv w (List.mem_of_getElem? hw)).1 how
    have hit6 := (H.hs hq4).item (i := 0) (x := y) rfl
    have hlv6 := H.mb.lev (H.lv y w hw).1
    have hkey6 : cellH hL11 mi (10 + y * 4 + 1 + 1) = some (.slice (some a6) n6 c6) := by rw [← ek6]; exact hlv6 2 _ rfl
    have hkb6 : RBytes A hL11 (.slice (some a6) n6 c6) (bkW w.W (rs4 y)) := by rw [← ek6]; exact bk_key (H.sv w (List.mem_of_getElem? hw)).1 _
    refine tr_skip ?_
    refine q_thn ?_
    refine rG <| rM rfl rfl <| rM rfl rfl <| rC rfl rfl <| rF fa_keyspan_MergingIter_0 rfl rfl <| rs_v (v_load one_p_keyspan_MergingBuffers rfl (by exact H.mb.b2.cell 0 rfl)) rfl ?_
    refine rC rfl rfl <| rF fa_keyspan_MergingBuffers_2 rfl rfl <| rF fa_keyspan_mergingIterHeap_2 rfl rfl <| rs_v (v_load one_sl_keyspan_mergingIterItem rfl (by exact H.b1.cell 4 rfl)) rfl ?_
    refine rs_v (v_indexAddrE (i := 0) u_sl_keyspan_mergingIterItem siz_keyspan_mergingIterItem rfl rfl rfl (Nat.succ_pos _)) rfl ?_
    refine rF fa_keyspan_mergingIterItem_0 rfl rfl <| rs_v (v_load one_p_keyspan_boundKey rfl (by exact hit6 0 _ rfl)) rfl ?_
    refine rC rfl rfl <| rF fa_keyspan_boundKey_1 rfl rfl <| rs_v (v_load one_sl_uint8 rfl (by exact hkey6)) rfl ?_
    refine rC rfl rfl <| rF fa_keyspan_MergingIter_2 rfl rfl <| rs_w0 (w_store siz_sl_uint8 rfl rfl rfl rfl H.mb.b2 (by rw [H.mb.len]; omega)) ?_
    rintro _ h15 ⟨B9, K15⟩
    have KP := KeepP.newX KP K15 (fun y hy => .inl (hbad y (C.kmi y hy).1))
    have hst := st_keep H O hst K15 C.kmi H.nAm
    have H := H.hdr (hd' := hdC bf (.slice (some a7) n7 c7) (.slice (some a6) n6 c6) (.iface 188 (visF sb)) s0 s1 s2 s3 1) (by rw [mi_putH (show (3 : Nat) ≤ 10 by omega)] at B9; exact B9) rfl K15
    have O := O.keep K15 C.kmi
    have hit6 := (H.hs hq4).item (i := 0) (x := y) rfl
    have hlv6 := H.mb.lev (H.lv y w hw).1
    have hkey6 : cellH h15 mi (10 + y * 4 + 1 + 1) = some (.slice (some a6) n6 c6) := by rw [← ek6]; exact hlv6 2 _ rfl
    have hkb6 : RBytes A h15 (.slice (some a6) n6 c6) (bkW w.W (rs4 y)) := by rw [← ek6]; exact bk_key (H.sv w (List.mem_of_getElem? hw)).1 _
    obtain ⟨ak, ck, rfl⟩ := O.k.slice
    refine rN <| rG <| rM rfl rfl <| rs_w (w_call (vs := [_, _]) ok_keyspan_MergingIter_synthesizeKeys rfl ⟨rfl, rfl, trivial⟩ (c_synthP H O.k O.s C.nb C.nm C.kl2 (C.kr2))) rfl ?_
    rintro _ h16 ⟨rfl, ka, kc, nd, l8, H8, HK8, hl8, htk, hnd8, hown, BS8, K16⟩
    have O0 := O
    have hX8 : ∀ y, y ∈ mi :: bf :: (.slice ak lk2.length ck : Value).ownBlock.toList → ¬ A y ∧ y ∉ bv2.ownBlock.toList := fun y hy => syn_out H O y hy
    have hst := st_keep0 H O hst K16 hX8
    have hkb8 := hkb6.stab (K16.stab fun y hy => ⟨H.low y hy, fun hm => (hX8 y hm).1 hy⟩)
    have hcat := cat_P hdone
    rw [hcat.1] at htk hnd8
    have hrb : ∀ y, y ∈ (sortKT (catX vs (atB B k1))).filter (fun y => visK snap y.k) → RBytes A h16 (.slice y.a1 y.n1 y.c1) y.k.suf ∧ RBytes A h16 (.slice y.a2 y.n2 y.c2) y.k.val := fun y hy => catK_rb (D := 2) H8 (by decide) (by rw [hcat.1]; exact (sortKT_perm _).mem_iff.1 (List.mem_filter.1 hy).1)
    have O := O.syn C (fun y hy => .inr (by have := KP.1; omega)) HK8 hl8 hown BS8 K16
    have KP := KeepP.newX KP K16 (syn_kp hbad O0)
    have H := H8
    have hspan : PSpan (FU F h h16) h16 mi 4 ⟨atB B k1, atB B (k1 + 1), kfM vs snap (atB B k1)⟩ := by
      have hF9 : ∀ b, A b → FU F h h16 b := fun b hb => .inl (hbad b (.inl hb))
      have hst9 : ∀ b, A b ∨ b ∈ bv2.ownBlock.toList → FU F h h16 b := fun b hb => hb.elim (hF9 b) (fun e => (O.ob b e).imp id (fun e2 => ⟨e2, own_lt O.b.1 b e⟩))
      refine ⟨_, _, _, 0, H.mb.b2.sub 4 4 rfl, hst.mono hst9, ?_, ?_⟩
      · have := hkb8.mono hF9; rw [hκ2] at this; exact this
      · exact pkeys_of HK8 htk hnd8 hl8 hF9 (fun y hy => (O.ok y hy).imp id (fun e2 => ⟨e2, HK8.lt y hy⟩)) hrb
    refine rM rfl rfl <| rs_v (v_extract rfl rfl) rfl ?_
    refine rs_v (v_extract rfl rfl) rfl ?_
    refine rA rfl rfl <| rA rfl rfl <| rN ?_
    refine tr_cut (fun E h' => h16 = h' ∧ ∃ b : Bool, E = [(0, .pointer (some ⟨mi, 0, none⟩)), (2, .pointer none), (4, .pointer (some ⟨mi, 4, none⟩)), (156, .bool b)] ∧ b = covB (wsO vs) (atB B k1)) ?_ ?_
    ·
      rcases Bool.eq_false_or_eq_true (anyK 2 vs rs4 vs.length) with g1 | g1
      · skip
        refine tr_reg ?_
        refine rM rfl rfl <| rM rfl rfl <| rs_gv rfl (lkb g1) (v_move rfl) rfl <| rs_gv rfl (lkb g1) (v_pne u_p_keyspan_Span rfl rfl) rfl ?_
        refine rs_v (v_pick_t (lkb g1) rfl) rfl ?_
        refine rs_nil ?_
        exact q_cut [(0, _), (2, _), (4, _), (156, _)] ⟨rfl, rfl, rfl, rfl, trivial⟩ ⟨rfl, _, rfl, by rw [← hcat.2, g1]; rfl⟩
      · skip
        refine tr_reg ?_
        refine rM rfl rfl <| rM rfl rfl <| rs_gs rfl (lkb g1) rfl rfl <| rs_gs rfl (lkb g1) rfl rfl <| rs_v (v_pick_f (lkb g1) rfl) rfl ?_
        refine rs_nil ?_
        exact q_cut [(0, _), (2, _), (4, _), (156, _)] ⟨rfl, rfl, rfl, rfl, trivial⟩ ⟨rfl, _, rfl, by rw [← hcat.2, g1]⟩
    rintro E h95 ⟨hh, b, rfl, hcv⟩
    subst hh
    refine tr_if rfl (fun hif => ?_) (fun hif => ?_)
    · -- yes
      skip
      refine rG <| rM rfl rfl <| rA rfl rfl <| rN <| tr_ret <| q_blk_ret ?_
      refine q_lp_ret ?_
      refine q_blk_ret <| q_thn_ret <| q_ret (res_tmp rfl rfl) ?_
      have hcov : covB (wsO vs) (atB B k1) = true := by rw [← hcv]; exact hif
      exact mpost_pt hbad hl KP ⟨_, _, _, _, _, _, _, _, _, H, O⟩ hp4 hH4 ⟨hkB2, ⟨_, _, _, rfl⟩, ⟨_, _, _, rfl⟩, .inl ⟨rfl, rfl, hdone⟩⟩ (by rw [hpos]; exact (fwdF_yes hkB2 hcov).2) hspan
    -- no
    skip
    refine tr_skip <| q_blk_n ?_
    have hcov : covB (wsO vs) (atB B k1) = false := by rw [← hcv]; exact hif
    refine q_lp (B.length - (k1 + 1)) [(0, _), (2, _)] (by omega) ⟨rfl, rfl, trivial⟩ ⟨k1 + 1, rs4, _, _, _, _, by omega, rfl, rfl, ⟨_, _, _, _, _, _, _, _, _, H, O⟩, hp4, hH4, hFn, by rw [hpos]; exact fwdF_no hkB2 hcov, KP⟩
  -- yes
  obtain ⟨y, q5, w, hqe, hw, hκ5⟩ := hb1 hif
  subst hqe
  obtain ⟨w', hw', how⟩ := root_ok hp4
  rw [hw] at hw'; cases hw'
  have hnd4 := hp4.nodup_iff.2 (validQ_nodup _ _ _)
  refine tr_skip ?_
  refine q_thn ?_
  refine tr_block ?_
  refine tr_reg ?_
  refine rM rfl rfl <| rs_w (w_call (vs := [_]) ok_keyspan_MergingIter_nextEntry rfl ⟨rfl, trivial⟩ (c_nextEntry H hw how.2 hq4 (hfrom_step hnd4 hH4))) rfl ?_
  rintro _ h18 ⟨rfl, L6, q6, tl6, H', hq6, hH6, K18⟩
  have hst := st_keep H O hst K18 (C.klv (List.mem_of_getElem? hw)) (H.nAx (List.mem_of_getElem? hw))
  have H := H'
  have KP := KeepP.newX KP K18 (fun y hy => .inl (hbad y (C.klv (List.mem_of_getElem? hw) y hy).1))
  have O := O.keep K18 (C.klv (List.mem_of_getElem? hw))
  have hp6 := perm_step hp4 hw hq6
  refine rs_nil ?_
  refine q_blk_n ?_
  refine q_lp (tot vs (upd rs4 y (rs4 y + 1)) vs.length) [(0, _), (2, _)] (tot_step hw how.2 _ (hq4 y (by simp))) ⟨rfl, rfl, trivial⟩ ⟨_, q6, L6, tl6, rfl, rfl, H, O, hst, hp6, hH6, bnd_step C.ord hw how hκ5 hb4, KP⟩
set_option maxHeartbeats 4000000
theorem c_findPrevFragmentSet {χ : Chi} {A : Nat → Prop} {bf mi sb : Nat} {vs : List Lev} {snap : Nat} {B : List ByteArray} {F : Nat → Prop} {rs : Nat → Nat} {q : List Nat} {st en bv : Value} {k : Nat} {h : Heap} (C : MC A bf mi sb vs B) (hbad : ∀ b, badB A bf mi sb vs b → F b) (hl : Low F h)
    (X : MXt A bf mi sb vs snap F rs true (-1) q st en bv h) (hp : q.Perm (validQ vs rs vs.length)) (hH : HFrom (hlO true vs rs) q.length 0 q) (hk : k ≤ B.length) (hF : FPk (wsO vs) B k rs) :
    Cl Tryz.prog χ 183 #[.pointer (some ⟨mi, 0, none⟩)] h (MPost A bf mi sb vs snap B F h (bwdP (covF (wsO vs)) (sgM vs snap B) (posB k))) := by
  refine cl_intro Tryz.func183 rfl rfl rfl ?_
  have K : Keep [] h h := Keep.refl _ _
  refine rG <| rA rfl rfl <| rN ?_
  refine tr_seq ?_
  refine tr_block ?_
  refine tr_loop (fun m E h' => ∃ k1 rs1 q1 st1 en1 bv1, k1 ≤ B.length ∧ k1 = m ∧ E = [(0, .pointer (some ⟨mi, 0, none⟩)), (2, .pointer none)] ∧ MXt A bf mi sb vs snap (fun b => F b ∨ h.size ≤ b) rs1 true (-1) q1 st1 en1 bv1 h' ∧ q1.Perm (validQ vs rs1 vs.length) ∧ HFrom (hlO true vs rs1) q1.length 0 q1 ∧ FPk (wsO vs) B k1 rs1 ∧ bwdP (covF (wsO vs)) (sgM vs snap B) (posB k) = bwdP (covF (wsO vs)) (sgM vs snap B) (posB k1) ∧ KeepP F h h') k [(0, _), (2, _)] ⟨rfl, rfl, trivial⟩ ⟨k, rs, q, st, en, bv, hk, rfl, rfl, X.ent, hp, hH, hF, rfl, KeepP.refl _ _⟩ ?_
  rintro m E hL1 ⟨k1, rs1, q1, st1, en1, bv1, hk1, rfl, rfl, X, hp, hH, hF, hpos, KP⟩
  obtain ⟨s0, s1, s2, s3, kv1, L1, tl1, lk1, lb1, H, O⟩ := X
  have hq1 := q_lt hp
  have H2 := H.hs hq1
  refine tr_seq ?_
  refine tr_cut (fun E h' => hL1 = h' ∧ ∃ b : Bool, E = [(0, .pointer (some ⟨mi, 0, none⟩)), (2, .pointer none), (19, .bool b)] ∧ (b = false → q1 = []) ∧ (b = true → ∃ x q2, q1 = x :: q2)) ?_ ?_
  ·
    rcases q1 with _ | ⟨x, q2⟩
    · skip
      refine tr_reg ?_
      refine rM rfl rfl <| rC rfl rfl <| rF fa_keyspan_MergingIter_0 rfl rfl <| rs_v (v_load one_p_keyspan_MergingBuffers rfl (by exact H.mb.b2.cell 0 rfl)) rfl ?_
      refine rC rfl rfl <| rF fa_keyspan_MergingBuffers_2 rfl rfl <| rs_w (w_call (vs := [_]) ok_keyspan_mergingIterHeap_len rfl ⟨rfl, trivial⟩ (c_hLen H2)) rfl ?_
      rintro _ h2 ⟨rfl, hsame⟩; have hsame := hsame.symm; subst hsame
      refine rs_v (v_gt rfl rfl) rfl ?_
      refine rM rfl rfl <| rs_gs rfl (rfl) rfl rfl <| rs_gs rfl (rfl) rfl rfl <| rs_gs rfl (rfl) rfl rfl <| rs_gs rfl (rfl) rfl rfl <| rs_gs rfl (rfl) rfl rfl <| rs_v (v_pick_f rfl rfl) rfl ?_
      refine rs_nil ?_
      exact q_cut [(0, _), (2, _), (19, _)] ⟨rfl, rfl, rfl, trivial⟩ ⟨rfl, _, rfl, fun _ => rfl, fun e => by cases e⟩
    · have g1 : decide ((0 : Int) < ((x :: q2).length : Int)) = true := decide_eq_true (by simp only [List.length_cons]; omega)
      refine tr_reg ?_
      refine rM rfl rfl <| rC rfl rfl <| rF fa_keyspan_MergingIter_0 rfl rfl <| rs_v (v_load one_p_keyspan_MergingBuffers rfl (by exact H.mb.b2.cell 0 rfl)) rfl ?_
      refine rC rfl rfl <| rF fa_keyspan_MergingBuffers_2 rfl rfl <| rs_w (w_call (vs := [_]) ok_keyspan_mergingIterHeap_len rfl ⟨rfl, trivial⟩ (c_hLen H2)) rfl ?_
      rintro _ h3 ⟨rfl, hsame⟩; have hsame := hsame.symm; subst hsame
      refine rs_v (v_gt rfl rfl) rfl ?_
      refine rM rfl rfl <| rs_gv rfl (lkb g1) (v_move rfl) rfl <| rs_gv rfl (lkb g1) (v_nilCheck_ptr rfl) rfl ?_
      refine rs_gv rfl (lkb g1) (v_fieldAddr fa_keyspan_MergingIter_5 rfl) rfl ?_
      refine rs_gv rfl (lkb g1) (v_load one_error rfl (by exact H.mb.b2.cell 8 rfl)) rfl ?_
      refine rs_gv rfl (lkb g1) (v_ieq_nil isi_error rfl rfl) rfl ?_
      refine rs_v (v_pick_t (lkb g1) rfl) rfl ?_
      refine rs_nil ?_
      exact q_cut [(0, _), (2, _), (19, _)] ⟨rfl, rfl, rfl, trivial⟩ ⟨rfl, _, rfl, fun e => (by cases e), fun _ => ⟨x, q2, rfl⟩⟩
  rintro E h99 ⟨hh, b, rfl, hb0, hb1⟩
  subst hh
  refine tr_ifn rfl (fun hif => ?_) (fun hif => ?_)
  · -- no
    have hq0 := hb0 hif
    subst hq0
    obtain ⟨ak, ck, rfl⟩ := O.k.slice
    refine tr_exit <| q_thn_exit ?_
    refine q_lp_exit ?_
    refine q_blk_hit ?_
    refine q_thn ?_
    refine rG <| rM rfl rfl <| rs_w (w_call (vs := [_]) ok_keyspan_MergingIter_clear rfl ⟨rfl, trivial⟩ (c_clear H O.k O.ll)) rfl ?_
    rintro _ h5 ⟨rfl, H, HK9, K5⟩
    have KP := KeepP.newX KP K5 (fun y hy => by
      rcases List.mem_cons.1 hy with rfl | hy
      · exact .inl (hbad _ (.inr (.inl rfl)))
      · exact O.ok y hy)
    have O := O.clr C HK9 K5
    refine rN <| rG <| rA rfl rfl <| rN <| tr_ret <| q_ret (res_tmp rfl rfl) ?_
    have hk9 := fp_none hF (q_none hp rfl)
    exact mpost_ahead hbad hl KP ⟨_, _, _, _, _, _, _, _, _, H, O⟩ hp hH (fpk_end hF hk9) (by rw [hpos, bwdF_end (by omega)])
  -- yes
  obtain ⟨x, q2, rfl⟩ := hb1 hif
  obtain ⟨v, hv, hok⟩ := root_ok hp
  have hvm := List.mem_of_getElem? hv
  obtain ⟨hk0, hκ⟩ := fp_root' C.hB hF hp hH hv
  obtain ⟨k2, rfl⟩ : ∃ k2, k1 = k2 + 1 := ⟨k1 - 1, by omega⟩
  rw [Nat.add_sub_cancel] at hκ
  have hkB : k2 < B.length := by omega
  obtain ⟨r1, hr1⟩ : ∃ r1, rs1 x = r1 + 1 := ⟨rs1 x - 1, by have := hok.1; omega⟩
  obtain ⟨a5, n5, c5, ek5⟩ := at_nn (H.sv v hvm).1 hok
  have hnd := hp.nodup_iff.2 (validQ_nodup _ _ _)
  have hb1' := fpk_bnd hF
  have hlen : (bkW v.W (rs1 x)).data.toList.length ≤ 100000000000 := by rw [hκ]; exact C.bl _ (List.mem_of_getElem? (atB_get hkB))
  have hit := (H.hs hq1).item (i := 0) (x := x) rfl
  have hlv := H.mb.lev (H.lv x v hv).1
  have hkey : cellH hL1 mi (10 + x * 4 + 1 + 1) = some (.slice (some a5) n5 c5) := by rw [← ek5]; exact hlv 2 _ rfl
  have hkb : RBytes A hL1 (.slice (some a5) n5 c5) (bkW v.W (rs1 x)) := by rw [← ek5]; exact bk_key (H.sv v (List.mem_of_getElem? hv)).1 _
  refine tr_skip ?_
  refine q_thn ?_
  refine tr_block <| rG <| rM rfl rfl <| rM rfl rfl <| rC rfl rfl <| rF fa_keyspan_MergingIter_0 rfl rfl <| rs_v (v_load one_p_keyspan_MergingBuffers rfl (by exact H.mb.b2.cell 0 rfl)) rfl ?_
  refine rC rfl rfl <| rF fa_keyspan_MergingBuffers_2 rfl rfl <| rF fa_keyspan_mergingIterHeap_2 rfl rfl <| rs_v (v_load one_sl_keyspan_mergingIterItem rfl (by exact H.b1.cell 4 rfl)) rfl ?_
  refine rs_v (v_indexAddrE (i := 0) u_sl_keyspan_mergingIterItem siz_keyspan_mergingIterItem rfl rfl rfl (Nat.succ_pos _)) rfl ?_
  refine rF fa_keyspan_mergingIterItem_0 rfl rfl <| rs_v (v_load one_p_keyspan_boundKey rfl (by exact hit 0 _ rfl)) rfl ?_
  refine rC rfl rfl <| rF fa_keyspan_boundKey_1 rfl rfl <| rs_v (v_load one_sl_uint8 rfl (by exact hkey)) rfl ?_
  refine rC rfl rfl <| rF fa_keyspan_MergingIter_2 rfl rfl <| rs_w0 (w_store siz_sl_uint8 rfl rfl rfl rfl H.mb.b2 (by rw [H.mb.len]; omega)) ?_
  rintro _ h6 ⟨B9, K6⟩
  have KP := KeepP.newX KP K6 (fun y hy => .inl (hbad y (C.kmi y hy).1))
  have H := H.hdr (hd' := hdC bf st1 (.slice (some a5) n5 c5) (.iface 188 (visF sb)) s0 s1 s2 s3 (-1)) (by rw [mi_putH (show (3 : Nat) ≤ 10 by omega)] at B9; exact B9) rfl K6
  have O := O.keep K6 C.kmi
  have hit := (H.hs hq1).item (i := 0) (x := x) rfl
  have hlv := H.mb.lev (H.lv x v hv).1
  have hkey : cellH h6 mi (10 + x * 4 + 1 + 1) = some (.slice (some a5) n5 c5) := by rw [← ek5]; exact hlv 2 _ rfl
  have hkb : RBytes A h6 (.slice (some a5) n5 c5) (bkW v.W (rs1 x)) := by rw [← ek5]; exact bk_key (H.sv v (List.mem_of_getElem? hv)).1 _
  refine rN ?_
  refine tr_cut (fun E h' => ∃ st2 bv2, E = [(0, .pointer (some ⟨mi, 0, none⟩)), (2, .pointer none)] ∧ MXt A bf mi sb vs snap (fun b => F b ∨ h.size ≤ b) rs1 true (-1) (x :: q2) st1 st2 bv2 h' ∧ RBytes (fun b => A b ∨ b ∈ bv2.ownBlock.toList) h' st2 (bkW v.W (rs1 x)) ∧ KeepP F h h') ?_ ?_
  ·
    refine rG <| rM rfl rfl <| rC rfl rfl <| rF fa_keyspan_MergingIter_0 rfl rfl <| rs_v (v_load one_p_keyspan_MergingBuffers rfl (by exact H.mb.b2.cell 0 rfl)) rfl ?_
    refine rC rfl rfl <| rF fa_keyspan_MergingBuffers_2 rfl rfl <| rF fa_keyspan_mergingIterHeap_2 rfl rfl <| rs_v (v_load one_sl_keyspan_mergingIterItem rfl (by exact H.b1.cell 4 rfl)) rfl ?_
    refine rs_v (v_indexAddrE (i := 0) u_sl_keyspan_mergingIterItem siz_keyspan_mergingIterItem rfl rfl rfl (Nat.succ_pos _)) rfl ?_
    refine rF fa_keyspan_mergingIterItem_0 rfl rfl <| rs_v (v_load one_p_keyspan_boundKey rfl (by exact hit 0 _ rfl)) rfl ?_
    refine rC rfl rfl <| rF fa_keyspan_boundKey_0 rfl rfl <| rs_v (v_load one_keyspan_boundKind rfl (by exact hlv 1 _ rfl)) rfl ?_
    refine rs_v (v_eq rfl rfl) rfl ?_
    refine rN ?_
    refine tr_if rfl (fun hif => ?_) (fun hif => ?_)
    · -- yes
      have hkd : (v.at (rs1 x)).kind = 1 := of_decide_eq_true hif
      obtain ⟨ab, cb, rfl⟩ := O.b.slice
      have O0 := O
      refine tr_seq ?_
      have hmiX : mi ∉ (.slice ab lb1.length cb : Value).ownBlock.toList := fun hx => O.b.2 _ hx (.inr (.inr (.inl rfl)))
      have hbfX : bf ∉ (.slice ab lb1.length cb : Value).ownBlock.toList := fun hx => O.b.2 _ hx (.inr (.inl rfl))
      refine tr_draw [(true, 17), (false, 3)] _ (by kernel_rfl) (by kernel_rfl) (by kernel_rfl) ?_
      refine rx_big (Keep []) (Keep (.slice ab lb1.length cb : Value).ownBlock.toList) (keep_pre _) (keep_pre _) (fun _ _ k => k.any) ?_
      refine rb_v (keep_pre _) (fun h' hk => v_move rfl) ?_
      refine rb_v (keep_pre _) (fun h' hk => v_nilCheck_ptr rfl) ?_
      refine rb_v (keep_pre _) (fun h' hk => v_fieldAddr fa_keyspan_MergingIter_0 rfl) ?_
      refine rb_v (keep_pre _) (fun h' hk => v_load one_p_keyspan_MergingBuffers rfl (Blk.cell (hk.blk hmiX H.mb.b2) 0 rfl)) ?_
      refine rb_v (keep_pre _) (fun h' hk => v_move rfl) ?_
      refine rb_v (keep_pre _) (fun h' hk => v_nilCheck_ptr rfl) ?_
      refine rb_v (keep_pre _) (fun h' hk => v_fieldAddr fa_keyspan_MergingIter_0 rfl) ?_
      refine rb_v (keep_pre _) (fun h' hk => v_load one_p_keyspan_MergingBuffers rfl (Blk.cell (hk.blk hmiX H.mb.b2) 0 rfl)) ?_
      refine rb_v (keep_pre _) (fun h' hk => v_nilCheck_ptr rfl) ?_
      refine rb_v (keep_pre _) (fun h' hk => v_fieldAddr fa_keyspan_MergingBuffers_3 rfl) ?_
      refine rb_v (keep_pre _) (fun h' hk => v_load one_sl_uint8 rfl (Blk.cell (hk.blk hbfX H.b1) 5 rfl)) ?_
      refine rb_v (keep_pre _) (fun h' hk => v_slice_h u_sl_uint8 siz_uint8 (i := 0) rfl rfl rfl (Nat.zero_le _)) ?_
      refine rb_v (keep_pre _) (fun h' hk => v_move rfl) ?_
      refine rb_v (keep_pre _) (fun h' hk => v_nilCheck_ptr rfl) ?_
      refine rb_v (keep_pre _) (fun h' hk => v_fieldAddr fa_keyspan_MergingIter_2 rfl) ?_
      refine rb_v (keep_pre _) (fun h' hk => v_load one_sl_uint8 rfl (Blk.cell (hk.blk hmiX H.mb.b2) 2 rfl)) ?_
      refine rb_big (fun v' h' => BW (badB A bf mi sb vs) v' (bkW v.W (rs1 x)).data.toList h' ∧ (v'.ownBlock = (.slice ab lb1.length cb : Value).ownBlock ∨ ∃ z, v'.ownBlock = some z ∧ h6.size ≤ z)) (fun v _ _ k1 k2 hr => ⟨hr.1.keep k2 (by simp), hr.2⟩)
        (fun h' hk => OpW.mono (w_appBW rfl rfl (O.b.cut.keep hk (by simp)) (hkb.stab (hk.st H.low)) hlen (fun y hy => Nat.lt_of_lt_of_le (H.bad_lt O.s.lt y hy) hk.1)) (fun v h'' hv => ⟨by rw [own_block0 (m2 := lb1.length) (c2 := cb)] at hv; exact hv.2.1, hv.1, by
          rw [own_block0 (m2 := lb1.length) (c2 := cb)] at hv
          exact hv.2.2.imp id (fun e => ⟨_, e, hk.1⟩)⟩)) ?_
      refine rb_end ?_; intro ha Ka; simp only [endM, hypF, ofE, argE, List.nil_append]
      rintro v57 ⟨H3, he⟩
      obtain ⟨ab2, cb2, rfl⟩ := H3.slice
      have H := H.keep Ka (fun y hy => ⟨fun e => O.b.2 y hy (.inl e), fun e => O.b.2 y hy (.inr (.inl e)), fun e => O.b.2 y hy (.inr (.inr (.inl e))), fun v hv e => O.b.2 y hy (.inr (.inr (.inr (.inr ⟨v, hv, e⟩))))⟩)
      have O := O.app C Ka H3 (fun y hy => by
        rcases he with e | ⟨z, e, hz⟩
        · rw [e] at hy; exact .inl hy
        · rw [e] at hy; simp at hy; exact .inr (by omega)) (fun y hy => .inr (by have := KP.1; omega))
      have KP := KeepP.newX KP Ka (fun y hy => O0.ob y hy)
      refine rx_seq ?_
      refine rC rfl rfl <| rF fa_keyspan_MergingBuffers_3 rfl rfl <| rs_w0 (w_put siz_sl_uint8 rfl rfl rfl rfl H.b1 rfl) ?_
      rintro _ h7 ⟨B, K9⟩
      have KP := KeepP.newX KP K9 (fun y hy => .inl (hbad y (C.kbf y hy).1))
      have H := H.both (q' := x :: q2) (tl' := tl1) (kv' := kv1) (rev' := true) B (K9.blk (by simpa using fun e => H.ne e.symm) H.mb.b2) H.mb.hdl H.mb.ql (K9.sub (by simp))
      have O := O.keep K9 C.kbf
      refine rs_nil ?_
      refine q_con ?_
      refine rx_nil ?_
      refine q_thn ?_
      refine tr_reg ?_
      refine rM rfl rfl <| rM rfl rfl <| rC rfl rfl <| rF fa_keyspan_MergingIter_0 rfl rfl <| rs_v (v_load one_p_keyspan_MergingBuffers rfl (by exact H.mb.b2.cell 0 rfl)) rfl ?_
      refine rC rfl rfl <| rF fa_keyspan_MergingBuffers_3 rfl rfl <| rs_v (v_load one_sl_uint8 rfl (by exact H.b1.cell 5 rfl)) rfl ?_
      refine rC rfl rfl <| rF fa_keyspan_MergingIter_2 rfl rfl <| rs_w0 (w_store siz_sl_uint8 rfl rfl rfl rfl H.mb.b2 (by rw [H.mb.len]; omega)) ?_
      rintro _ h8 ⟨B9, K8⟩
      have KP := KeepP.newX KP K8 (fun y hy => .inl (hbad y (C.kmi y hy).1))
      have H := H.hdr (hd' := hdC bf st1 (.slice ab2 (bkW v.W (rs1 x)).data.toList.length cb2) (.iface 188 (visF sb)) s0 s1 s2 s3 (-1)) (by rw [mi_putH (show (3 : Nat) ≤ 10 by omega)] at B9; exact B9) rfl K8
      have O := O.keep K8 C.kmi
      have hst9 : RBytes (fun b => A b ∨ b ∈ (.slice ab2 (bkW v.W (rs1 x)).data.toList.length cb2 : Value).ownBlock.toList) h8 (.slice ab2 (bkW v.W (rs1 x)).data.toList.length cb2) (bkW v.W (rs1 x)) := O.b.bytes (by omega) (fun y hy => .inr hy)
      refine rs_nil ?_
      exact q_cut [(0, _), (2, _)] ⟨rfl, rfl, trivial⟩ ⟨_, _, rfl, ⟨_, _, _, _, _, _, _, _, _, H, O⟩, hst9, KP⟩
    -- no
    skip
    refine tr_skip ?_
    exact q_cut [(0, _), (2, _)] ⟨rfl, rfl, trivial⟩ ⟨_, _, rfl, ⟨_, _, _, _, _, _, _, _, _, H, O⟩, hkb.mono (fun b hb => .inl hb), KP⟩
  rintro E h98 ⟨st2, bv2, rfl, X, hst, KP⟩
  obtain ⟨s0, s1, s2, s3, kv2, L2, tl2, lk2, lb2, H, O⟩ := X
  rw [hκ] at hst
  obtain ⟨a7, c7, rfl⟩ := SlR.form2 hst
  refine rG <| rM rfl rfl <| rs_w (w_call (vs := [_]) ok_keyspan_MergingIter_prevEntry rfl ⟨rfl, trivial⟩ (c_prevEntry H hv hr1 hq1 (hfrom_step hnd hH))) rfl ?_
  rintro _ h10 ⟨rfl, L3, q3, tl3, H', hq3, hH3, K10⟩
  have hst := st_keep H O hst K10 (C.klv (List.mem_of_getElem? hv)) (H.nAx (List.mem_of_getElem? hv))
  have H := H'
  have KP := KeepP.newX KP K10 (fun y hy => .inl (hbad y (C.klv (List.mem_of_getElem? hv) y hy).1))
  have O := O.keep K10 (C.klv (List.mem_of_getElem? hv))
  have hp3 := perm_step hp hv hq3
  refine rN ?_
  refine tr_seq ?_
  refine tr_block ?_
  refine tr_loop (fun m E h' => ∃ rs4 q4 L4 tl4, m = tot2 rs4 vs.length ∧ E = [(0, .pointer (some ⟨mi, 0, none⟩)), (2, .pointer none)] ∧ MG A bf mi vs rs4 kv2 bv2 true (hdC bf st1 (.slice a7 (atB B k2).data.toList.length c7) (.iface 188 (visF sb)) s0 s1 s2 s3 (-1)) L4 q4 tl4 h' ∧ MO A bf mi sb vs snap (fun b => F b ∨ h.size ≤ b) kv2 bv2 lk2 lb2 h' ∧ RBytes (fun b => A b ∨ b ∈ bv2.ownBlock.toList) h' (.slice a7 (atB B k2).data.toList.length c7) (atB B k2) ∧ q4.Perm (validQ vs rs4 vs.length) ∧ HFrom (hlO true vs rs4) q4.length 0 q4 ∧ (∀ (i : Nat) W, (wsO vs)[i]? = some W → cL W (atB B k2) ≤ rs4 i ∧ rs4 i ≤ cE W (atB B k2)) ∧ KeepP F h h') (tot2 (upd rs1 x r1) vs.length) [(0, _), (2, _)] ⟨rfl, rfl, trivial⟩ ⟨_, q3, L3, tl3, rfl, rfl, H, O, hst, hp3, hH3, bnd_stepP C.ord hv hok hr1 hκ hb1', KP⟩ ?_
  rintro m E hL11 ⟨rs4, q4, L4, tl4, rfl, rfl, H, O, hst, hp4, hH4, hb4, KP⟩
  have hq4 := q_lt hp4
  have H2 := H.hs hq4
  refine tr_seq ?_
  refine tr_cut (fun E h' => hL11 = h' ∧ ∃ b : Bool, E = [(0, .pointer (some ⟨mi, 0, none⟩)), (2, .pointer none), (110, .bool b)] ∧ (b = false → ∀ x q1 v, q4 = x :: q1 → vs[x]? = some v → bkW v.W (rs4 x) ≠ (atB B k2)) ∧ (b = true → ∃ y q5 w, q4 = y :: q5 ∧ vs[y]? = some w ∧ bkW w.W (rs4 y) = (atB B k2))) ?_ ?_
  ·
    rcases q4 with _ | ⟨y, q5⟩
    · skip
      refine tr_quiet (by kernel_rfl) (by kernel_rfl) ?_
      refine rq_v (v_move rfl) <| rq_v (v_nilCheck_ptr rfl) <| rq_v (v_fieldAddr fa_keyspan_MergingIter_0 rfl) <| rq_v (v_load one_p_keyspan_MergingBuffers rfl (by exact H.mb.b2.cell 0 rfl)) ?_
      refine rq_v (v_nilCheck_ptr rfl) <| rq_v (v_fieldAddr fa_keyspan_MergingBuffers_2 rfl) <| rq_v (v_fieldAddr fa_keyspan_mergingIterHeap_2 rfl) <| rq_v (v_load one_sl_keyspan_mergingIterItem rfl (by exact H.b1.cell 4 rfl)) ?_
      refine rq_v (v_len u_sl_keyspan_mergingIterItem rfl) ?_
      refine rq_v (v_gt rfl rfl) ?_
      refine rq_v (v_move rfl) ?_
      refine rm_gs same_pre rfl (rfl) rfl ?_
      refine rm_gs same_pre rfl (rfl) rfl ?_
      refine rm_gs same_pre rfl (rfl) rfl ?_
      refine rm_gs same_pre rfl (rfl) rfl ?_
      refine rm_gs same_pre rfl (rfl) rfl ?_
      refine rq_v (v_pick_f rfl rfl) ?_
      refine rq_v (v_move rfl) ?_
      refine rm_gs same_pre rfl (rfl) rfl ?_
      refine rm_gs same_pre rfl (rfl) rfl ?_
      refine rm_gs same_pre rfl (rfl) rfl ?_
      refine rm_gs same_pre rfl (rfl) rfl ?_
      refine rm_gs same_pre rfl (rfl) rfl ?_
      refine rm_gs same_pre rfl (rfl) rfl ?_
      refine rm_gs same_pre rfl (rfl) rfl ?_
      refine rm_gs same_pre rfl (rfl) rfl ?_
      refine rm_gs same_pre rfl (rfl) rfl ?_
      refine rq_v (v_pick_f rfl rfl) ?_
      refine rm_end ?_; simp only [endM, hypF, ofE, argE]
      exact q_cut [(0, _), (2, _), (110, _)] ⟨rfl, rfl, rfl, trivial⟩ ⟨rfl, _, rfl, fun _ x q1 v e => (by cases e), fun e => (by cases e)⟩
    · have g1 : decide ((0 : Int) < ((y :: q5).length : Int)) = true := decide_eq_true (by simp only [List.length_cons]; omega)
      obtain ⟨w, hw, how⟩ := root_ok hp4
      obtain ⟨a6, n6, c6, ek6⟩ := at_nn (H.sv w (List.mem_of_getElem? hw)).1 how
      have hkb6 := bk_key (H.sv w (List.mem_of_getElem? hw)).1 (rs4 y)
      rw [ek6] at hkb6
      refine tr_quiet (by kernel_rfl) (by kernel_rfl) ?_
      refine rq_v (v_move rfl) <| rq_v (v_nilCheck_ptr rfl) <| rq_v (v_fieldAddr fa_keyspan_MergingIter_0 rfl) <| rq_v (v_load one_p_keyspan_MergingBuffers rfl (by exact H.mb.b2.cell 0 rfl)) ?_
      refine rq_v (v_nilCheck_ptr rfl) <| rq_v (v_fieldAddr fa_keyspan_MergingBuffers_2 rfl) <| rq_v (v_fieldAddr fa_keyspan_mergingIterHeap_2 rfl) <| rq_v (v_load one_sl_keyspan_mergingIterItem rfl (by exact H.b1.cell 4 rfl)) ?_
      refine rq_v (v_len u_sl_keyspan_mergingIterItem rfl) ?_
      refine rq_v (v_gt rfl rfl) ?_
      refine rq_v (v_move rfl) ?_
      refine rq_gv rfl (lkm g1) (v_move rfl) ?_
      refine rq_gv rfl (lkm g1) (v_nilCheck_ptr rfl) ?_
      refine rq_gv rfl (lkm g1) (v_fieldAddr fa_keyspan_MergingIter_5 rfl) ?_
      refine rq_gv rfl (lkm g1) (v_load one_error rfl (by exact H.mb.b2.cell 8 rfl)) ?_
      refine rq_gv rfl (lkm g1) (v_ieq_nil isi_error rfl rfl) ?_
      refine rq_v (v_pick_t (lkb g1) rfl) ?_
      refine rq_v (v_move rfl) ?_
      refine rq_gv rfl (rfl) (v_move rfl) ?_
      refine rq_gv rfl (rfl) (v_move rfl) ?_
      refine rq_gw rfl (rfl) (w_call (vs := [_]) ok_keyspan_MergingIter_heapRoot rfl ⟨rfl, trivial⟩ (c_heapRoot2 H hq4 hw ek6)) ?_
      refine rq_gv rfl (rfl) (v_move rfl) ?_
      refine rq_gv rfl (rfl) (v_nilCheck_ptr rfl) ?_
      refine rq_gv rfl (rfl) (v_fieldAddr fa_keyspan_MergingIter_2 rfl) ?_
      refine rq_gv rfl (rfl) (v_load one_sl_uint8 rfl (by exact H.mb.b2.cell 2 rfl)) ?_
      refine rq_gw rfl (rfl) (w_call (vs := [_, _, _]) ok_keyspan_MergingIter_cmp rfl ⟨rfl, rfl, rfl, trivial⟩ (c_mcmp H (RBytes.by hkb6) (RBytes.by hst))) ?_
      refine rq_gv rfl (rfl) (v_eq rfl rfl) ?_
      refine rq_v (v_pick_t rfl rfl) ?_
      refine rm_end ?_; simp only [endM, hypF, ofE, argE]
      exact q_cut [(0, _), (2, _), (110, _)] ⟨rfl, rfl, rfl, trivial⟩ ⟨rfl, _, rfl, fun e x q1 v e1 e2 e3 => (by
        cases e1; rw [hw] at e2; cases e2
        exact absurd (show cmpB (w.bk (rs4 y)) (atB B k2) = 0 by rw [bk_eq, e3]; exact cmpB_refl _) (of_decide_eq_false e)), fun e => ⟨y, q5, w, rfl, hw, cmpB_eq (of_decide_eq_true e)⟩⟩
  rintro E h97 ⟨hh, b, rfl, hb0, hb1⟩
  subst hh
  refine tr_ifn rfl (fun hif => ?_) (fun hif => ?_)
  · -- no
    have hdone := in_doneP C.ord hp4 hH4 hb4 (hb0 hif)
    have hFn := fp_next C.hB hkB hdone
    refine tr_exit <| q_thn_exit ?_
    refine q_lp_exit ?_
    refine q_blk_hit ?_
    refine q_thn ?_
    refine tr_seq ?_
    refine tr_cut (fun E h' => hL11 = h' ∧ ∃ b : Bool, E = [(0, .pointer (some ⟨mi, 0, none⟩)), (2, .pointer none), (129, .bool b)] ∧ (b = true → q4 = []) ∧ (b = false → ∃ y q5, q4 = y :: q5)) ?_ ?_
    ·
      rcases q4 with _ | ⟨y, q5⟩
      · skip
        refine tr_reg ?_
        refine rM rfl rfl <| rC rfl rfl <| rF fa_keyspan_MergingIter_0 rfl rfl <| rs_v (v_load one_p_keyspan_MergingBuffers rfl (by exact H.mb.b2.cell 0 rfl)) rfl ?_
        refine rC rfl rfl <| rF fa_keyspan_MergingBuffers_2 rfl rfl <| rF fa_keyspan_mergingIterHeap_2 rfl rfl <| rs_v (v_load one_sl_keyspan_mergingIterItem rfl (by exact H.b1.cell 4 rfl)) rfl ?_
        refine rs_v (v_len u_sl_keyspan_mergingIterItem rfl) rfl ?_
        refine rs_v (v_eq rfl rfl) rfl ?_
        refine rM rfl rfl <| rs_gs rfl (rfl) rfl rfl <| rs_gs rfl (rfl) rfl rfl <| rs_gs rfl (rfl) rfl rfl <| rs_gs rfl (rfl) rfl rfl <| rs_gs rfl (rfl) rfl rfl <| rs_v (v_pick_t rfl rfl) rfl ?_
        refine rs_nil ?_
        exact q_cut [(0, _), (2, _), (129, _)] ⟨rfl, rfl, rfl, trivial⟩ ⟨rfl, _, rfl, fun _ => rfl, fun e => by cases e⟩
      · have g1 : decide (((y :: q5).length : Int) = 0) = false := decide_eq_false (by simp only [List.length_cons]; omega)
        refine tr_reg ?_
        refine rM rfl rfl <| rC rfl rfl <| rF fa_keyspan_MergingIter_0 rfl rfl <| rs_v (v_load one_p_keyspan_MergingBuffers rfl (by exact H.mb.b2.cell 0 rfl)) rfl ?_
        refine rC rfl rfl <| rF fa_keyspan_MergingBuffers_2 rfl rfl <| rF fa_keyspan_mergingIterHeap_2 rfl rfl <| rs_v (v_load one_sl_keyspan_mergingIterItem rfl (by exact H.b1.cell 4 rfl)) rfl ?_
        refine rs_v (v_len u_sl_keyspan_mergingIterItem rfl) rfl ?_
        refine rs_v (v_eq rfl rfl) rfl ?_
        refine rM rfl rfl <| rs_gv rfl (lkb g1) (v_move rfl) rfl <| rs_gv rfl (lkb g1) (v_nilCheck_ptr rfl) rfl ?_
        refine rs_gv rfl (lkb g1) (v_fieldAddr fa_keyspan_MergingIter_5 rfl) rfl ?_
        refine rs_gv rfl (lkb g1) (v_load one_error rfl (by exact H.mb.b2.cell 8 rfl)) rfl ?_
        refine rs_gv rfl (lkb g1) (v_ine_nil isi_error rfl rfl) rfl ?_
        refine rs_v (v_pick_f (lkb g1) rfl) rfl ?_
        refine rs_nil ?_
        exact q_cut [(0, _), (2, _), (129, _)] ⟨rfl, rfl, rfl, trivial⟩ ⟨rfl, _, rfl, fun e => (by cases e), fun _ => ⟨y, q5, rfl⟩⟩
    rintro E h96 ⟨hh, b, rfl, hb2, hb3⟩
    subst hh
    refine tr_if rfl (fun hif => ?_) (fun hif => ?_)
    · -- yes
      have hq0 := hb2 hif
      subst hq0
      obtain ⟨ak, ck, rfl⟩ := O.k.slice
      refine tr_exit <| q_thn_exit ?_
      refine q_blk_miss rfl ?_
      refine q_lp_exit ?_
      refine q_blk_hit ?_
      refine q_thn ?_
      refine rG <| rM rfl rfl <| rs_w (w_call (vs := [_]) ok_keyspan_MergingIter_clear rfl ⟨rfl, trivial⟩ (c_clear H O.k O.ll)) rfl ?_
      rintro _ h14 ⟨rfl, H, HK9, K14⟩
      have KP := KeepP.newX KP K14 (fun y hy => by
        rcases List.mem_cons.1 hy with rfl | hy
        · exact .inl (hbad _ (.inr (.inl rfl)))
        · exact O.ok y hy)
      have O := O.clr C HK9 K14
      refine rN <| rG <| rA rfl rfl <| rN <| tr_ret <| q_ret (res_tmp rfl rfl) ?_
      have hk9 := fp_none hFn (q_none hp4 rfl)
      exact mpost_ahead hbad hl KP ⟨_, _, _, _, _, _, _, _, _, H, O⟩ hp4 hH4 (fpk_end hFn hk9) (by rw [hpos, bwdF_end (by omega)])
    -- no
    obtain ⟨y, q5, rfl⟩ := hb3 hif
    obtain ⟨w, hw, how⟩ := root_ok hp4
    obtain ⟨hk02, hκ2⟩ := fp_root' C.hB hFn hp4 hH4 hw
    obtain ⟨j, rfl⟩ : ∃ j, k2 = j + 1 := ⟨k2 - 1, by omega⟩
    rw [Nat.add_sub_cancel] at hκ2
    have hkB2 := hkB
    have hdone : ∀ (i : Nat) W, (wsO vs)[i]? = some W → rs4 i = cE W (atB B j) := fun i W hW => by rw [hdone i W hW, cE_cL C.hB (List.mem_of_getElem? hW) hkB2]
    obtain ⟨a6, n6, c6, ek6⟩ := at_nn (H.sv w (List.mem_of_getElem? hw)).1 how
    have hit6 := (H.hs hq4).item (i := 0) (x := y) rfl
    have hlv6 := H.mb.lev (H.lv y w hw).1
    have hkey6 : cellH hL11 mi (10 + y * 4 + 1 + 1) = some (.slice (some a6) n6 c6) := by rw [← ek6]; exact hlv6 2 _ rfl
    have hkb6 : RBytes A hL11 (.slice (some a6) n6 c6) (bkW w.W (rs4 y)) := by rw [← ek6]; exact bk_key (H.sv w (List.mem_of_getElem? hw)).1 _
    refine tr_skip ?_
    refine q_thn ?_
    refine rG <| rM rfl rfl <| rM rfl rfl <| rC rfl rfl <| rF fa_keyspan_MergingIter_0 rfl rfl <| rs_v (v_load one_p_keyspan_MergingBuffers rfl (by exact H.mb.b2.cell 0 rfl)) rfl ?_
    refine rC rfl rfl <| rF fa_keyspan_MergingBuffers_2 rfl rfl <| rF fa_keyspan_mergingIterHeap_2 rfl rfl <| rs_v (v_load one_sl_keyspan_mergingIterItem rfl (by exact H.b1.cell 4 rfl)) rfl ?_
    refine rs_v (v_indexAddrE (i := 0) u_sl_keyspan_mergingIterItem siz_keyspan_mergingIterItem rfl rfl rfl (Nat.succ_pos _)) rfl ?_
    refine rF fa_keyspan_mergingIterItem_0 rfl rfl <| rs_v (v_load one_p_keyspan_boundKey rfl (by exact hit6 0 _ rfl)) rfl ?_
    refine rC rfl rfl <| rF fa_keyspan_boundKey_1 rfl rfl <| rs_v (v_load one_sl_uint8 rfl (by exact hkey6)) rfl ?_
    refine rC rfl rfl <| rF fa_keyspan_MergingIter_1 rfl rfl <| rs_w0 (w_store siz_sl_uint8 rfl rfl rfl rfl H.mb.b2 (by rw [H.mb.len]; omega)) ?_
    rintro _ h15 ⟨B9, K15⟩
    have KP := KeepP.newX KP K15 (fun y hy => .inl (hbad y (C.kmi y hy).1))
    have hst := st_keep H O hst K15 C.kmi H.nAm
    have H := H.hdr (hd' := hdC bf (.slice (some a6) n6 c6) (.slice a7 (atB B (j + 1)).data.toList.length c7) (.iface 188 (visF sb)) s0 s1 s2 s3 (-1)) (by rw [mi_putH (show (2 : Nat) ≤ 10 by omega)] at B9; exact B9) rfl K15
    have O := O.keep K15 C.kmi
    have hit6 := (H.hs hq4).item (i := 0) (x := y) rfl
    have hlv6 := H.mb.lev (H.lv y w hw).1
    have hkey6 : cellH h15 mi (10 + y * 4 + 1 + 1) = some (.slice (some a6) n6 c6) := by rw [← ek6]; exact hlv6 2 _ rfl
    have hkb6 : RBytes A h15 (.slice (some a6) n6 c6) (bkW w.W (rs4 y)) := by rw [← ek6]; exact bk_key (H.sv w (List.mem_of_getElem? hw)).1 _
    obtain ⟨ak, ck, rfl⟩ := O.k.slice
    refine rN <| rG <| rM rfl rfl <| rs_w (w_call (vs := [_, _]) ok_keyspan_MergingIter_synthesizeKeys rfl ⟨rfl, rfl, trivial⟩ (c_synthM H O.k O.s C.nb C.nm C.kl2 (C.kr2))) rfl ?_
    rintro _ h16 ⟨rfl, ka, kc, nd, l8, H8, HK8, hl8, htk, hnd8, hown, BS8, K16⟩
    have O0 := O
    have hX8 : ∀ y, y ∈ mi :: bf :: (.slice ak lk2.length ck : Value).ownBlock.toList → ¬ A y ∧ y ∉ bv2.ownBlock.toList := fun y hy => syn_out H O y hy
    have hst := st_keep0 H O hst K16 hX8
    have hkb8 := hkb6.stab (K16.stab fun y hy => ⟨H.low y hy, fun hm => (hX8 y hm).1 hy⟩)
    have hcat := cat_M hdone
    rw [hcat.1] at htk hnd8
    have hrb : ∀ y, y ∈ (sortKT (catX vs (atB B j))).filter (fun y => visK snap y.k) → RBytes A h16 (.slice y.a1 y.n1 y.c1) y.k.suf ∧ RBytes A h16 (.slice y.a2 y.n2 y.c2) y.k.val := fun y hy => catK_rb (D := 1) H8 (by decide) (by rw [hcat.1]; exact (sortKT_perm _).mem_iff.1 (List.mem_filter.1 hy).1)
    have O := O.syn C (fun y hy => .inr (by have := KP.1; omega)) HK8 hl8 hown BS8 K16
    have KP := KeepP.newX KP K16 (syn_kp hbad O0)
    have H := H8
    have hspan : PSpan (FU F h h16) h16 mi 4 ⟨atB B j, atB B (j + 1), kfM vs snap (atB B j)⟩ := by
      have hF9 : ∀ b, A b → FU F h h16 b := fun b hb => .inl (hbad b (.inl hb))
      have hst9 : ∀ b, A b ∨ b ∈ bv2.ownBlock.toList → FU F h h16 b := fun b hb => hb.elim (hF9 b) (fun e => (O.ob b e).imp id (fun e2 => ⟨e2, own_lt O.b.1 b e⟩))
      refine ⟨_, _, _, 0, H.mb.b2.sub 4 4 rfl, ?_, hst.mono hst9, ?_⟩
      · have := hkb8.mono hF9; rw [hκ2] at this; exact this
      · exact pkeys_of HK8 htk hnd8 hl8 hF9 (fun y hy => (O.ok y hy).imp id (fun e2 => ⟨e2, HK8.lt y hy⟩)) hrb
    refine rM rfl rfl <| rs_v (v_extract rfl rfl) rfl ?_
    refine rs_v (v_extract rfl rfl) rfl ?_
    refine rA rfl rfl <| rA rfl rfl <| rN ?_
    refine tr_cut (fun E h' => h16 = h' ∧ ∃ b : Bool, E = [(0, .pointer (some ⟨mi, 0, none⟩)), (2, .pointer none), (4, .pointer (some ⟨mi, 4, none⟩)), (156, .bool b)] ∧ b = covB (wsO vs) (atB B j)) ?_ ?_
    ·
      rcases Bool.eq_false_or_eq_true (anyK 1 vs rs4 vs.length) with g1 | g1
      · skip
        refine tr_reg ?_
        refine rM rfl rfl <| rM rfl rfl <| rs_gv rfl (lkb g1) (v_move rfl) rfl <| rs_gv rfl (lkb g1) (v_pne u_p_keyspan_Span rfl rfl) rfl ?_
        refine rs_v (v_pick_t (lkb g1) rfl) rfl ?_
        refine rs_nil ?_
        exact q_cut [(0, _), (2, _), (4, _), (156, _)] ⟨rfl, rfl, rfl, rfl, trivial⟩ ⟨rfl, _, rfl, by rw [← hcat.2, g1]; rfl⟩
      · skip
        refine tr_reg ?_
        refine rM rfl rfl <| rM rfl rfl <| rs_gs rfl (lkb g1) rfl rfl <| rs_gs rfl (lkb g1) rfl rfl <| rs_v (v_pick_f (lkb g1) rfl) rfl ?_
        refine rs_nil ?_
        exact q_cut [(0, _), (2, _), (4, _), (156, _)] ⟨rfl, rfl, rfl, rfl, trivial⟩ ⟨rfl, _, rfl, by rw [← hcat.2, g1]⟩
    rintro E h95 ⟨hh, b, rfl, hcv⟩
    subst hh
    refine tr_if rfl (fun hif => ?_) (fun hif => ?_)
    · -- yes
      skip
      refine rG <| rM rfl rfl <| rA rfl rfl <| rN <| tr_ret <| q_blk_ret ?_
      refine q_lp_ret ?_
      refine q_blk_ret <| q_thn_ret <| q_ret (res_tmp rfl rfl) ?_
      have hcov : covB (wsO vs) (atB B j) = true := by rw [← hcv]; exact hif
      exact mpost_pt hbad hl KP ⟨_, _, _, _, _, _, _, _, _, H, O⟩ hp4 hH4 ⟨hkB2, ⟨_, _, _, rfl⟩, RBytes.nn hst (C.hB.lt (Nat.lt_succ_self j) hkB2), .inr ⟨rfl, rfl, hdone⟩⟩ (by rw [hpos]; exact (bwdF_yes hkB2 hcov).2) hspan
    -- no
    skip
    refine tr_skip <| q_blk_n ?_
    have hcov : covB (wsO vs) (atB B j) = false := by rw [← hcv]; exact hif
    refine q_lp (j + 1) [(0, _), (2, _)] (by omega) ⟨rfl, rfl, trivial⟩ ⟨j + 1, rs4, _, _, _, _, by omega, rfl, rfl, ⟨_, _, _, _, _, _, _, _, _, H, O⟩, hp4, hH4, hFn, by rw [hpos]; exact bwdF_no hkB2 hcov, KP⟩
  -- yes
  obtain ⟨y, q5, w, hqe, hw, hκ5⟩ := hb1 hif
  subst hqe
  obtain ⟨w', hw', how⟩ := root_ok hp4
  rw [hw] at hw'; cases hw'
  have hnd4 := hp4.nodup_iff.2 (validQ_nodup _ _ _)
  obtain ⟨r4, hr4⟩ : ∃ r4, rs4 y = r4 + 1 := ⟨rs4 y - 1, by have := how.1; omega⟩
  refine tr_skip ?_
  refine q_thn ?_
  refine tr_block ?_
  refine tr_reg ?_
  refine rM rfl rfl <| rs_w (w_call (vs := [_]) ok_keyspan_MergingIter_prevEntry rfl ⟨rfl, trivial⟩ (c_prevEntry H hw hr4 hq4 (hfrom_step hnd4 hH4))) rfl ?_
  rintro _ h18 ⟨rfl, L6, q6, tl6, H', hq6, hH6, K18⟩
  have hst := st_keep H O hst K18 (C.klv (List.mem_of_getElem? hw)) (H.nAx (List.mem_of_getElem? hw))
  have H := H'
  have KP := KeepP.newX KP K18 (fun y hy => .inl (hbad y (C.klv (List.mem_of_getElem? hw) y hy).1))
  have O := O.keep K18 (C.klv (List.mem_of_getElem? hw))
  have hp6 := perm_step hp4 hw hq6
  refine rs_nil ?_
  refine q_blk_n ?_
  refine q_lp (tot2 (upd rs4 y r4) vs.length) [(0, _), (2, _)] (tot2_step hr4 _ (hq4 y (by simp))) ⟨rfl, rfl, trivial⟩ ⟨_, q6, L6, tl6, rfl, rfl, H, O, hst, hp6, hH6, bnd_stepP C.ord hw how hr4 hκ5 hb4, KP⟩
set_option maxHeartbeats 2000000
section
variable {A : Nat → Prop} {bf mi sb : Nat} {vs : List Lev} {snap : Nat} {B : List ByteArray} {F F1 : Nat → Prop} {h h1 h' : Heap} {p : Pos} {r : Value} {rs : Nat → Nat} {rev : Bool} {dir : Int} {q : List Nat} {st en bv : Value}
theorem MXt.mono (X : MXt A bf mi sb vs snap F rs rev dir q st en bv h) (hF : ∀ b, F b → F1 b) : MXt A bf mi sb vs snap F1 rs rev dir q st en bv h := by
  obtain ⟨s0, s1, s2, s3, kv, L, tl, lk, lb, H, o⟩ := X
  exact ⟨s0, s1, s2, s3, kv, L, tl, lk, lb, H, o.k, o.b, o.s, o.d, fun x hx => hF x (o.ok x hx), fun x hx => hF x (o.ob x hx), o.ll⟩
theorem MQ.mono (Q : MQ A bf mi sb vs snap B p F h) (hF : ∀ b, F b → F1 b) (hl : Low F1 h) : MQ A bf mi sb vs snap B p F1 h := by
  obtain ⟨h1, _, rs, rev, dir, q, st, en, bv, X, h2, h3, h4⟩ := Q
  exact ⟨fun b hb => hF b (h1 b hb), hl, rs, rev, dir, q, st, en, bv, X.mono hF, h2, h3, h4⟩
theorem Ret.mono {W : List SpanD} (R : Ret W p F h r) (hF : ∀ b, F b → F1 b) : Ret W p F1 h r := by
  unfold Ret at R ⊢
  cases hc : cur W p with
  | none => rw [hc] at R; exact R
  | some s => rw [hc] at R; obtain ⟨b, o, e, h1, h2⟩ := R; exact ⟨b, o, e, hF b h1, h2.mono hF⟩
theorem mpost_trans (hl : Low F h) (KP : KeepP F h h1) (hF : ∀ b, F1 b → F b ∨ (h.size ≤ b ∧ b < h1.size)) (P : MPost A bf mi sb vs snap B F1 h1 p r h') : MPost A bf mi sb vs snap B F h p r h' := by
  obtain ⟨p', Q, hr, KP2, R⟩ := P
  have hsub : ∀ b, FU F1 h1 h' b → FU F h h' b := fun b hb => by
    have := KP.1; have := KP2.1
    rcases hb with hb | hb
    · rcases hF b hb with e | e
      · exact .inl e
      · exact .inr (by omega)
    · exact .inr (by omega)
  have KPt := KP.trans KP2 (fun b hb => (hF b hb).imp id And.left)
  exact ⟨p', Q.mono hsub (fu_low hl KPt), hr, KPt, Ret.mono R hsub⟩
theorem mpost_trans0 (hl : Low F h) (KP : KeepP F h h1) (P : MPost A bf mi sb vs snap B F h1 p r h') : MPost A bf mi sb vs snap B F h p r h' := mpost_trans hl KP (fun b hb => .inl hb) P
theorem kp_all (C : MC A bf mi sb vs B) (hbad : ∀ b, badB A bf mi sb vs b → F b) (K : Keep ([mi, bf] ++ lvB vs) h h') : KeepP F h h' := K.kp fun x hx => hbad x (C.kall x hx).1
theorem kp_mi (C : MC A bf mi sb vs B) (hbad : ∀ b, badB A bf mi sb vs b → F b) (K : Keep [mi] h h') : KeepP F h h' := K.kp fun x hx => hbad x (C.kmi x hx).1
theorem MC.kmb (C : MC A bf mi sb vs B) : ∀ x, x ∈ [mi, bf] → badB A bf mi sb vs x ∧ x ≠ sb := fun x hx => C.kall x (List.mem_append_left _ hx)
end
theorem c_MNext1 {χ : Chi} {A : Nat → Prop} {bf mi sb : Nat} {vs : List Lev} {snap : Nat} {B : List ByteArray} {F : Nat → Prop} {rs : Nat → Nat} {rev : Bool} {q : List Nat} {st en bv : Value} {k : Nat} {h : Heap} (C : MC A bf mi sb vs B) (hbad : ∀ b, badB A bf mi sb vs b → F b) (hl : Low F h) (X : MXt A bf mi sb vs snap F rs false 1 q st en bv h) (hp : q.Perm (validQ vs rs vs.length)) (hH : HFrom (hlO false vs rs) q.length 0 q) (hk : k ≤ B.length) (hF : FNk (wsO vs) B k rs) (hst : NN st) (hen : NN en) :
    Cl Tryz.prog χ 89 #[.pointer (some ⟨mi, 0, none⟩)] h (MPost A bf mi sb vs snap B F h (fwdP (covF (wsO vs)) (sgM vs snap B) (posF B k))) := by
  have X0 := X
  obtain ⟨s0, s1, s2, s3, kv, L, tl, lk, lb, H, O⟩ := X
  obtain ⟨a1, n1, c1, rfl⟩ := hst
  obtain ⟨a2, n2, c2, rfl⟩ := hen
  refine cl_intro Tryz.func89 rfl rfl rfl ?_
  have K : Keep [] h h := Keep.refl _ _
  refine rG <| rA rfl rfl <| rN ?_
  refine tr_seq ?_
  refine rG <| rM rfl rfl <| rC rfl rfl <| rF fa_keyspan_MergingIter_5 rfl rfl <| rs_v (v_load one_error rfl (by exact H.mb.b2.cell 8 rfl)) rfl ?_
  refine rs_v (v_ine_nil isi_error rfl rfl) rfl ?_
  refine rN <| tr_if_f rfl ?_
  refine tr_skip ?_
  refine q_thn ?_
  refine tr_seq ?_
  refine rG <| rM rfl rfl <| rC rfl rfl <| rF fa_keyspan_MergingIter_6 rfl rfl <| rs_v (v_load one_int8 rfl (by exact H.mb.b2.cell 9 rfl)) rfl ?_
  refine rs_v (v_eq rfl rfl) rfl ?_
  refine rM rfl rfl <| rs_gv rfl (rfl) (v_move rfl) rfl ?_
  refine rs_gv rfl (rfl) (v_nilCheck_ptr rfl) rfl ?_
  refine rs_gv rfl (rfl) (v_fieldAddr fa_keyspan_MergingIter_2 rfl) rfl ?_
  refine rs_gv rfl (rfl) (v_load one_sl_uint8 rfl (by exact H.mb.b2.cell 2 rfl)) rfl ?_
  refine rs_gv rfl (rfl) (v_seqn u_sl_uint8 rfl rfl) rfl ?_
  refine rs_gv rfl (rfl) (v_move rfl) rfl ?_
  refine rs_gv rfl (rfl) (v_move rfl) rfl ?_
  refine rs_gv rfl (rfl) (v_nilCheck_ptr rfl) rfl ?_
  refine rs_gv rfl (rfl) (v_fieldAddr fa_keyspan_MergingIter_1 rfl) rfl ?_
  refine rs_gv rfl (rfl) (v_load one_sl_uint8 rfl (by exact H.mb.b2.cell 1 rfl)) rfl ?_
  refine rs_gv rfl (rfl) (v_seqn u_sl_uint8 rfl rfl) rfl ?_
  refine rs_gv rfl (rfl) (v_pick_f rfl rfl) rfl ?_
  refine rs_v (v_pick_t rfl rfl) rfl ?_
  refine rN <| tr_if_f rfl ?_
  refine tr_skip ?_
  refine q_thn ?_
  refine tr_seq ?_
  refine rG <| rM rfl rfl <| rC rfl rfl <| rF fa_keyspan_MergingIter_6 rfl rfl <| rs_v (v_load one_int8 rfl (by exact H.mb.b2.cell 9 rfl)) rfl ?_
  refine rs_v (v_ne rfl rfl) rfl ?_
  refine rN <| tr_if_f rfl ?_
  refine tr_skip ?_
  refine q_thn ?_
  refine rG <| rM rfl rfl <| rs_w (w_call (vs := [_]) ok_keyspan_MergingIter_findNextFragmentSet rfl ⟨rfl, trivial⟩ (c_findNextFragmentSet C hbad hl X0 hp hH hk hF)) rfl ?_
  rintro r h1 hP
  refine rA rfl rfl <| rN <| tr_ret <| q_ret (res_tmp rfl rfl) ?_
  exact hP
theorem c_MNext2 {χ : Chi} {A : Nat → Prop} {bf mi sb : Nat} {vs : List Lev} {snap : Nat} {B : List ByteArray} {F : Nat → Prop} {rs : Nat → Nat} {rev : Bool} {q : List Nat} {st en bv : Value} {k : Nat} {h : Heap} (C : MC A bf mi sb vs B) (hbad : ∀ b, badB A bf mi sb vs b → F b) (hl : Low F h) (X : MXt A bf mi sb vs snap F rs rev (-1) q st en bv h) (hr : ∀ (i : Nat) v, vs[i]? = some v → rs i ≤ 2 * v.W.length) (hk : k ≤ B.length) (hF : FNk (wsO vs) B k (fun j => rs j + 1)) :
    Cl Tryz.prog χ 89 #[.pointer (some ⟨mi, 0, none⟩)] h (MPost A bf mi sb vs snap B F h (fwdP (covF (wsO vs)) (sgM vs snap B) (posF B k))) := by
  obtain ⟨s0, s1, s2, s3, kv, L, tl, lk, lb, H, O⟩ := X
  refine cl_intro Tryz.func89 rfl rfl rfl ?_
  have K : Keep [] h h := Keep.refl _ _
  refine rG <| rA rfl rfl <| rN ?_
  refine tr_seq ?_
  refine rG <| rM rfl rfl <| rC rfl rfl <| rF fa_keyspan_MergingIter_5 rfl rfl <| rs_v (v_load one_error rfl (by exact H.mb.b2.cell 8 rfl)) rfl ?_
  refine rs_v (v_ine_nil isi_error rfl rfl) rfl ?_
  refine rN <| tr_if_f rfl ?_
  refine tr_skip ?_
  refine q_thn ?_
  refine tr_seq ?_
  refine rG <| rM rfl rfl <| rC rfl rfl <| rF fa_keyspan_MergingIter_6 rfl rfl <| rs_v (v_load one_int8 rfl (by exact H.mb.b2.cell 9 rfl)) rfl ?_
  refine rs_v (v_eq rfl rfl) rfl ?_
  refine rM rfl rfl <| rs_gs rfl (rfl) rfl rfl <| rs_gs rfl (rfl) rfl rfl <| rs_gs rfl (rfl) rfl rfl <| rs_gs rfl (rfl) rfl rfl <| rs_gs rfl (rfl) rfl rfl <| rs_gs rfl (rfl) rfl rfl ?_
  refine rs_gu rfl rfl rfl ?_
  refine rs_gu rfl rfl rfl ?_
  refine rs_gu rfl rfl rfl ?_
  refine rs_gu rfl rfl rfl ?_
  refine rs_gu rfl rfl rfl ?_
  refine rs_gs rfl (rfl) rfl rfl <| rs_v (v_pick_f rfl rfl) rfl ?_
  refine rN <| tr_if_f rfl ?_
  refine tr_skip ?_
  refine q_thn ?_
  refine tr_seq ?_
  refine rG <| rM rfl rfl <| rC rfl rfl <| rF fa_keyspan_MergingIter_6 rfl rfl <| rs_v (v_load one_int8 rfl (by exact H.mb.b2.cell 9 rfl)) rfl ?_
  refine rs_v (v_ne rfl rfl) rfl ?_
  refine rN <| tr_if_t rfl ?_
  refine tr_reg ?_
  refine rM rfl rfl <| rs_w (w_call (vs := [_]) ok_keyspan_MergingIter_switchToMinHeap rfl ⟨rfl, trivial⟩ (c_switchToMinHeap H hr)) rfl ?_
  rintro _ h1 ⟨rfl, L1, q1, tl1, H, hp, hH, K1⟩
  have KP : KeepP F h h1 := kp_all C hbad K1
  have O := O.keep K1 C.kall
  refine rN <| rG <| rM rfl rfl <| rs_w (w_call (vs := [_]) ok_keyspan_MergingIter_findNextFragmentSet rfl ⟨rfl, trivial⟩ (c_findNextFragmentSet C hbad (hl.mono KP.1) ⟨_, _, _, _, _, _, _, _, _, H, O⟩ hp hH hk hF)) rfl ?_
  rintro r h2 hP
  refine rA rfl rfl <| rN <| tr_ret <| q_ret (res_tmp rfl rfl) ?_
  exact mpost_trans0 hl KP hP
theorem c_MPrev1 {χ : Chi} {A : Nat → Prop} {bf mi sb : Nat} {vs : List Lev} {snap : Nat} {B : List ByteArray} {F : Nat → Prop} {rs : Nat → Nat} {rev : Bool} {q : List Nat} {st en bv : Value} {k : Nat} {h : Heap} (C : MC A bf mi sb vs B) (hbad : ∀ b, badB A bf mi sb vs b → F b) (hl : Low F h) (X : MXt A bf mi sb vs snap F rs true (-1) q st en bv h) (hp : q.Perm (validQ vs rs vs.length)) (hH : HFrom (hlO true vs rs) q.length 0 q) (hk : k ≤ B.length) (hF : FPk (wsO vs) B k rs) (hst : NN st) (hen : NN en) :
    Cl Tryz.prog χ 178 #[.pointer (some ⟨mi, 0, none⟩)] h (MPost A bf mi sb vs snap B F h (bwdP (covF (wsO vs)) (sgM vs snap B) (posB k))) := by
  have X0 := X
  obtain ⟨s0, s1, s2, s3, kv, L, tl, lk, lb, H, O⟩ := X
  obtain ⟨a1, n1, c1, rfl⟩ := hst
  obtain ⟨a2, n2, c2, rfl⟩ := hen
  refine cl_intro Tryz.func178 rfl rfl rfl ?_
  have K : Keep [] h h := Keep.refl _ _
  refine rG <| rA rfl rfl <| rN ?_
  refine tr_seq ?_
  refine rG <| rM rfl rfl <| rC rfl rfl <| rF fa_keyspan_MergingIter_5 rfl rfl <| rs_v (v_load one_error rfl (by exact H.mb.b2.cell 8 rfl)) rfl ?_
  refine rs_v (v_ine_nil isi_error rfl rfl) rfl ?_
  refine rN <| tr_if_f rfl ?_
  refine tr_skip ?_
  refine q_thn ?_
  refine tr_seq ?_
  refine rG <| rM rfl rfl <| rC rfl rfl <| rF fa_keyspan_MergingIter_6 rfl rfl <| rs_v (v_load one_int8 rfl (by exact H.mb.b2.cell 9 rfl)) rfl ?_
  refine rs_v (v_eq rfl rfl) rfl ?_
  refine rM rfl rfl <| rs_gv rfl (rfl) (v_move rfl) rfl ?_
  refine rs_gv rfl (rfl) (v_nilCheck_ptr rfl) rfl ?_
  refine rs_gv rfl (rfl) (v_fieldAddr fa_keyspan_MergingIter_2 rfl) rfl ?_
  refine rs_gv rfl (rfl) (v_load one_sl_uint8 rfl (by exact H.mb.b2.cell 2 rfl)) rfl ?_
  refine rs_gv rfl (rfl) (v_seqn u_sl_uint8 rfl rfl) rfl ?_
  refine rs_gv rfl (rfl) (v_move rfl) rfl ?_
  refine rs_gv rfl (rfl) (v_move rfl) rfl ?_
  refine rs_gv rfl (rfl) (v_nilCheck_ptr rfl) rfl ?_
  refine rs_gv rfl (rfl) (v_fieldAddr fa_keyspan_MergingIter_1 rfl) rfl ?_
  refine rs_gv rfl (rfl) (v_load one_sl_uint8 rfl (by exact H.mb.b2.cell 1 rfl)) rfl ?_
  refine rs_gv rfl (rfl) (v_seqn u_sl_uint8 rfl rfl) rfl ?_
  refine rs_gv rfl (rfl) (v_pick_f rfl rfl) rfl ?_
  refine rs_v (v_pick_t rfl rfl) rfl ?_
  refine rN <| tr_if_f rfl ?_
  refine tr_skip ?_
  refine q_thn ?_
  refine tr_seq ?_
  refine rG <| rM rfl rfl <| rC rfl rfl <| rF fa_keyspan_MergingIter_6 rfl rfl <| rs_v (v_load one_int8 rfl (by exact H.mb.b2.cell 9 rfl)) rfl ?_
  refine rs_v (v_ne rfl rfl) rfl ?_
  refine rN <| tr_if_f rfl ?_
  refine tr_skip ?_
  refine q_thn ?_
  refine rG <| rM rfl rfl <| rs_w (w_call (vs := [_]) ok_keyspan_MergingIter_findPrevFragmentSet rfl ⟨rfl, trivial⟩ (c_findPrevFragmentSet C hbad hl X0 hp hH hk hF)) rfl ?_
  rintro r h1 hP
  refine rA rfl rfl <| rN <| tr_ret <| q_ret (res_tmp rfl rfl) ?_
  exact hP
theorem c_MPrev2 {χ : Chi} {A : Nat → Prop} {bf mi sb : Nat} {vs : List Lev} {snap : Nat} {B : List ByteArray} {F : Nat → Prop} {rs : Nat → Nat} {rev : Bool} {q : List Nat} {st en bv : Value} {k : Nat} {h : Heap} (C : MC A bf mi sb vs B) (hbad : ∀ b, badB A bf mi sb vs b → F b) (hl : Low F h) (X : MXt A bf mi sb vs snap F rs rev 1 q st en bv h) (hr : ∀ (i : Nat) v, vs[i]? = some v → 1 ≤ rs i) (hk : k ≤ B.length) (hF : FPk (wsO vs) B k (fun j => rs j - 1)) :
    Cl Tryz.prog χ 178 #[.pointer (some ⟨mi, 0, none⟩)] h (MPost A bf mi sb vs snap B F h (bwdP (covF (wsO vs)) (sgM vs snap B) (posB k))) := by
  obtain ⟨s0, s1, s2, s3, kv, L, tl, lk, lb, H, O⟩ := X
  refine cl_intro Tryz.func178 rfl rfl rfl ?_
  have K : Keep [] h h := Keep.refl _ _
  refine rG <| rA rfl rfl <| rN ?_
  refine tr_seq ?_
  refine rG <| rM rfl rfl <| rC rfl rfl <| rF fa_keyspan_MergingIter_5 rfl rfl <| rs_v (v_load one_error rfl (by exact H.mb.b2.cell 8 rfl)) rfl ?_
  refine rs_v (v_ine_nil isi_error rfl rfl) rfl ?_
  refine rN <| tr_if_f rfl ?_
  refine tr_skip ?_
  refine q_thn ?_
  refine tr_seq ?_
  refine rG <| rM rfl rfl <| rC rfl rfl <| rF fa_keyspan_MergingIter_6 rfl rfl <| rs_v (v_load one_int8 rfl (by exact H.mb.b2.cell 9 rfl)) rfl ?_
  refine rs_v (v_eq rfl rfl) rfl ?_
  refine rM rfl rfl <| rs_gs rfl (rfl) rfl rfl <| rs_gs rfl (rfl) rfl rfl <| rs_gs rfl (rfl) rfl rfl <| rs_gs rfl (rfl) rfl rfl <| rs_gs rfl (rfl) rfl rfl <| rs_gs rfl (rfl) rfl rfl ?_
  refine rs_gu rfl rfl rfl ?_
  refine rs_gu rfl rfl rfl ?_
  refine rs_gu rfl rfl rfl ?_
  refine rs_gu rfl rfl rfl ?_
  refine rs_gu rfl rfl rfl ?_
  refine rs_gs rfl (rfl) rfl rfl <| rs_v (v_pick_f rfl rfl) rfl ?_
  refine rN <| tr_if_f rfl ?_
  refine tr_skip ?_
  refine q_thn ?_
  refine tr_seq ?_
  refine rG <| rM rfl rfl <| rC rfl rfl <| rF fa_keyspan_MergingIter_6 rfl rfl <| rs_v (v_load one_int8 rfl (by exact H.mb.b2.cell 9 rfl)) rfl ?_
  refine rs_v (v_ne rfl rfl) rfl ?_
  refine rN <| tr_if_t rfl ?_
  refine tr_reg ?_
  refine rM rfl rfl <| rs_w (w_call (vs := [_]) ok_keyspan_MergingIter_switchToMaxHeap rfl ⟨rfl, trivial⟩ (c_switchToMaxHeap H hr)) rfl ?_
  rintro _ h1 ⟨rfl, L1, q1, tl1, H, hp, hH, K1⟩
  have KP : KeepP F h h1 := kp_all C hbad K1
  have O := O.keep K1 C.kall
  refine rN <| rG <| rM rfl rfl <| rs_w (w_call (vs := [_]) ok_keyspan_MergingIter_findPrevFragmentSet rfl ⟨rfl, trivial⟩ (c_findPrevFragmentSet C hbad (hl.mono KP.1) ⟨_, _, _, _, _, _, _, _, _, H, O⟩ hp hH hk hF)) rfl ?_
  rintro r h2 hP
  refine rA rfl rfl <| rN <| tr_ret <| q_ret (res_tmp rfl rfl) ?_
  exact mpost_trans0 hl KP hP
set_option maxHeartbeats 2000000
def rT (f : List SpanD → Nat) (vs : List Lev) (j : Nat) : Nat := match vs[j]? with | some v => f v.W | none => 0
theorem rT_v {f : List SpanD → Nat} {vs : List Lev} {i : Nat} {v : Lev} (h : vs[i]? = some v) : rT f vs i = f v.W := by unfold rT; rw [h]
theorem rT_at {f : List SpanD → Nat} {vs : List Lev} {i : Nat} {W : List SpanD} (h : (wsO vs)[i]? = some W) : rT f vs i = f W := by
  obtain ⟨v, hv, rfl⟩ := wsO_inv h
  exact rT_v hv
def rK (f : List SpanD → Nat) (vs : List Lev) (rs : Nat → Nat) (k j : Nat) : Nat := if j < k then rT f vs j else rs j
theorem rK_step {f : List SpanD → Nat} {vs : List Lev} {rs : Nat → Nat} {k : Nat} {v : Lev} (h : vs[k]? = some v) (j : Nat) : upd (rK f vs rs k) k (f v.W) j = rK f vs rs (k + 1) j := by
  unfold upd rK
  by_cases e : j = k
  · subst e; rw [if_pos rfl, if_pos (by omega), rT_v h]
  · rw [if_neg e]
    by_cases e2 : j < k
    · rw [if_pos e2, if_pos (by omega)]
    · rw [if_neg e2, if_neg (by omega)]
theorem rK_all {f : List SpanD → Nat} {vs : List Lev} {rs : Nat → Nat} {k j : Nat} (h : j < k) : rK f vs rs k j = rT f vs j := if_pos h
theorem ret_form {A : Nat → Prop} {v : Lev} {h : Heap} (hS : LevS A v h) (r s : Nat) (hs : v.ok r → (r - 1) / 2 = s) : ∃ p, v.ret r = .pointer p ∧ ((p = none ∧ ¬ v.ok r) ∨ (∃ b o x, p = some ⟨b, o, none⟩ ∧ v.ok r ∧ v.W[s]? = some x ∧ v.sp s = .pointer (some ⟨b, o, none⟩) ∧ A b ∧ CellsAt h b o [v.sv s, v.ev s, v.kv s, .int .i8 0])) := by
  unfold Lev.ret
  by_cases ho : v.ok r
  · rw [if_pos ho, hs ho]
    have h2 := hs ho
    unfold Lev.ok at ho
    obtain ⟨x, hx⟩ := ex_get (L := v.W) (k := s) (by omega)
    obtain ⟨b, o, ha, hAb, hcs, _⟩ := hS.cells s x hx
    exact ⟨_, lev_pt ha, .inr ⟨b, o + s * 4, x, rfl, ho, hx, lev_pt ha, hAb, hcs⟩⟩
  · rw [if_neg ho]
    exact ⟨none, rfl, .inl ⟨rfl, ho⟩⟩
theorem at_first {v : Lev} (h : 0 < v.W.length) : v.at 1 = ⟨v.it, 1, v.sv 0, v.sp 0⟩ := Lev.at1 (s := 0) h
theorem at_last {v : Lev} (h : 0 < v.W.length) : v.at (2 * v.W.length) = ⟨v.it, 2, v.ev (v.W.length - 1), v.sp (v.W.length - 1)⟩ := by
  have := Lev.at2 (v := v) (s := v.W.length - 1) (by omega)
  rw [show 2 * (v.W.length - 1) + 2 = 2 * v.W.length from by omega] at this
  exact this
theorem MC.kc {A : Nat → Prop} {bf mi sb : Nat} {vs : List Lev} {B : List ByteArray} (C : MC A bf mi sb vs B) {k : Nat} {v : Lev} (hv : vs[k]? = some v) : ∀ x, x ∈ [v.c] → badB A bf mi sb vs x ∧ x ≠ sb := fun x hx => by
  rw [List.mem_singleton.1 hx]; exact ⟨.inr (.inr (.inr (.inr ⟨v, List.mem_of_getElem? hv, rfl⟩))), C.ns v (List.mem_of_getElem? hv)⟩
theorem c_MFirst {χ : Chi} {A : Nat → Prop} {bf mi sb : Nat} {vs : List Lev} {snap : Nat} {B : List ByteArray} {F : Nat → Prop} {rs : Nat → Nat} {rev : Bool} {dir : Int} {q : List Nat} {st en bv : Value} {h : Heap} (C : MC A bf mi sb vs B) (hbad : ∀ b, badB A bf mi sb vs b → F b) (hl : Low F h) (X : MXt A bf mi sb vs snap F rs rev dir q st en bv h) :
    Cl Tryz.prog χ 87 #[.pointer (some ⟨mi, 0, none⟩)] h (MPost A bf mi sb vs snap B F h (fwdP (covF (wsO vs)) (sgM vs snap B) (posF B 0))) := by
  obtain ⟨s0, s1, s2, s3, kv, L, tl, lk, lb, H, O⟩ := X
  have hFN : FNk (wsO vs) B 0 (rT (fun _ => 1) vs) := fn_cut C.hB (p := fun _ => false) (fun _ _ _ e => e) (cut_none B) (fun i W hW => by rw [rT_at hW, cut_none_cnt C.hB (p := fun _ => false) (fun _ _ _ e => e) (List.mem_of_getElem? hW) (cut_none B)])
  refine cl_intro Tryz.func87 rfl rfl rfl ?_
  have K : Keep [] h h := Keep.refl _ _
  refine rG <| rA rfl rfl <| rN <| rG <| rM rfl rfl <| rs_w (w_call (vs := [_]) ok_keyspan_MergingIter_invalidate rfl ⟨rfl, trivial⟩ (c_invalidate H)) rfl ?_
  rintro _ h1 ⟨rfl, H, K1⟩
  have KP : KeepP F h h1 := kp_mi C hbad K1
  have O := O.keep K1 C.kmi
  refine rN ?_
  refine tr_seq ?_
  refine rG <| rM rfl rfl <| rC rfl rfl <| rF fa_keyspan_MergingIter_0 rfl rfl <| rs_v (v_load one_p_keyspan_MergingBuffers rfl (by exact H.mb.b2.cell 0 rfl)) rfl ?_
  refine rC rfl rfl <| rF fa_keyspan_MergingBuffers_1 rfl rfl <| rs_v (v_load one_sl_keyspan_mergingIterLevel rfl (by exact H.b1.cell 1 rfl)) rfl ?_
  refine rs_v (v_len u_sl_keyspan_mergingIterLevel rfl) rfl ?_
  refine rM rfl rfl <| rN <| tr_block ?_
  refine tr_loop (fun m E h' => ∃ k L1, k ≤ vs.length ∧ m = vs.length - k ∧ E = [(0, .pointer (some ⟨mi, 0, none⟩)), (2, .pointer none), (14, .int .i64 (vs.length : Int)), (15, .int .i64 (k : Int))] ∧ MG A bf mi vs (rK (fun _ => 1) vs rs k) kv bv rev (hdC bf st en (.iface 188 (visF sb)) s0 s1 s2 s3 dir) L1 q tl h' ∧ MO A bf mi sb vs snap F kv bv lk lb h' ∧ KeepP F h h') vs.length [(0, _), (2, _), (14, _), (15, _)] ⟨rfl, rfl, rfl, rfl, trivial⟩ ⟨0, L, Nat.zero_le _, rfl, rfl, H.congr (fun j _ => rfl), O, KP⟩ ?_
  rintro m E hL2 ⟨k, L1, hk, rfl, rfl, H, O, KP⟩
  refine rG <| rs_v (v_lt rfl rfl) rfl ?_
  refine rN ?_
  refine tr_seq ?_
  refine tr_ifn rfl (fun hif => ?_) (fun hif => ?_)
  · -- no
    simp only [dT, dF] at hif
    have H := H.congr (rs' := rT (fun _ => 1) vs) (fun j hj => rK_all (by omega))
    refine tr_exit <| q_thn_exit ?_
    refine q_lp_exit ?_
    refine q_blk_hit ?_
    refine q_thn ?_
    refine rG <| rM rfl rfl <| rs_w (w_call (vs := [_]) ok_keyspan_MergingIter_initMinHeap rfl ⟨rfl, trivial⟩ (c_initMinHeap H)) rfl ?_
    rintro _ h3 ⟨rfl, q1, tl1, H, hp, hH, K3⟩
    have KP := KeepP.newX KP K3 (fun y hy => .inl (hbad y (C.kmb y hy).1))
    have O := O.keep K3 C.kmb
    refine rN <| rG <| rM rfl rfl <| rs_w (w_call (vs := [_]) ok_keyspan_MergingIter_findNextFragmentSet rfl ⟨rfl, trivial⟩ (c_findNextFragmentSet C hbad (hl.mono KP.1) ⟨_, _, _, _, _, _, _, _, _, H, O⟩ hp hH (Nat.zero_le _) hFN)) rfl ?_
    rintro r h4 hP
    refine rA rfl rfl <| rN <| tr_ret <| q_ret (res_tmp rfl rfl) ?_
    exact mpost_trans0 hl KP hP
  -- yes
  simp only [dT, dF] at hif
  obtain ⟨v, hv⟩ := ex_get (L := vs) (k := k) (by omega)
  obtain ⟨hlx, hI, hrx⟩ := H.lv k v hv
  obtain ⟨hS, hne, hnb, hAc, hlt⟩ := H.sv v (List.mem_of_getElem? hv)
  have hlv := H.mb.lev hlx
  have hvl := H.vl
  have hit0 : cellH hL2 mi (10 + k * 4 + 0) = some v.it := by rw [← at_it v _]; exact hlv 0 _ rfl
  refine tr_skip ?_
  refine q_thn ?_
  refine tr_seq ?_
  refine tr_block <| rG <| rM rfl rfl <| rA rfl rfl <| rN <| rG <| rM rfl rfl <| rC rfl rfl <| rF fa_keyspan_MergingIter_0 rfl rfl <| rs_v (v_load one_p_keyspan_MergingBuffers rfl (by exact H.mb.b2.cell 0 rfl)) rfl ?_
  refine rC rfl rfl <| rF fa_keyspan_MergingBuffers_1 rfl rfl <| rs_v (v_load one_sl_keyspan_mergingIterLevel rfl (by exact H.b1.cell 1 rfl)) rfl ?_
  refine rM rfl rfl <| rs_v (v_indexAddrE (i := k) u_sl_keyspan_mergingIterLevel siz_keyspan_mergingIterLevel rfl rfl rfl (by omega)) rfl ?_
  refine rF fa_keyspan_mergingIterLevel_0 rfl rfl <| rs_v (v_load one_keyspan_FragmentIterator rfl (by exact hit0)) rfl ?_
  refine rs_w (w_mcall (vs := []) (lv_First hS hI) rfl trivial) rfl ?_
  rintro r h5 ⟨hr, hI1, K5⟩
  have hS1 := hS.stab (H.stab K5 (by simpa using hAc))
  obtain ⟨p, hrp, hpc⟩ := ret_form hS1 (1) (0) (fun _ => rfl)
  rw [hrp] at hr; subst hr
  have M := H.mb.keep K5 (by simpa using fun e => hne e.symm)
  have B1 := K5.blk (by simpa using fun e => hnb e.symm) H.b1
  have Kc := K5
  have KP := KeepP.newX KP K5 (fun y hy => .inl (hbad y (C.kc hv y hy).1))
  have O := O.keep K5 (C.kc hv)
  refine rA rfl rfl <| rN <| rG <| rM rfl rfl <| rs_v (v_peq u_p_keyspan_Span rfl rfl) rfl ?_
  refine rN ?_
  refine tr_if rfl (fun hif => ?_) (fun hif => ?_)
  · -- yes
    obtain ⟨rfl, hno⟩ : p = none ∧ ¬ v.ok (1) := by
      rcases hpc with e | ⟨b, o, x, rfl, _⟩
      · exact e
      · cases hif
    refine tr_reg ?_
    refine rM rfl rfl <| rC rfl rfl <| rF fa_keyspan_MergingIter_0 rfl rfl <| rs_v (v_load one_p_keyspan_MergingBuffers rfl (by exact M.b2.cell 0 rfl)) rfl ?_
    refine rC rfl rfl <| rF fa_keyspan_MergingBuffers_1 rfl rfl <| rs_v (v_load one_sl_keyspan_mergingIterLevel rfl (by exact B1.cell 1 rfl)) rfl ?_
    refine rM rfl rfl <| rs_v (v_build1 rfl (bld_keyspan_boundKey_0 _)) rfl ?_
    refine rs_v (v_indexAddrE (i := k) u_sl_keyspan_mergingIterLevel siz_keyspan_mergingIterLevel rfl rfl rfl (by omega)) rfl ?_
    refine rF fa_keyspan_mergingIterLevel_1 rfl rfl <| rs_w0 (w_store siz_keyspan_boundKey rfl rfl rfl rfl M.b2 (by rw [M.len]; omega)) ?_
    rintro _ h6 ⟨B9, K6⟩
    have M2 := M.setL (it := v.it) hlx (at_it _ _) B9
    have hI2 := hI1.keep K6 (by simpa using hne)
    have KP := KeepP.newX KP K6 (fun y hy => .inl (hbad y (C.kmi y hy).1))
    have O := O.keep K6 C.kmi
    have H := H.step hv (r := 1) (by rw [Lev.at0 hno]; exact M2) hI2 (by omega) ((Kc.sub (by simp)).trans (K6.sub (by simp)))
    refine rs_nil ?_
    refine q_blk_n ?_
    refine q_thn ?_
    refine tr_reg ?_
    refine rs_v (v_add rfl rfl (by omega) (by omega)) rfl ?_
    refine rM rfl rfl ?_
    refine rs_nil ?_
    refine q_lp (vs.length - (k + 1)) [(0, _), (2, _), (14, _), (15, _)] (by omega) ⟨rfl, rfl, rfl, rfl, trivial⟩ ⟨k + 1, _, by omega, rfl, rfl, H.congr (fun j _ => rK_step (f := (fun _ => 1)) hv j), O, KP⟩
  -- no
  obtain ⟨b, o, x, rfl, hok, hx, hsp, hAb, hcs⟩ : ∃ b o x, p = some ⟨b, o, none⟩ ∧ v.ok (1) ∧ v.W[0]? = some x ∧ v.sp (0) = .pointer (some ⟨b, o, none⟩) ∧ A b ∧ CellsAt h5 b o [v.sv (0), v.ev (0), v.kv (0), .int .i8 0] := by
    rcases hpc with ⟨rfl, _⟩ | e
    · cases hif
    · exact e
  obtain ⟨a9, n9, c9, e9⟩ := (hS.nn _ x hx).1
  rw [e9] at hcs
  refine tr_draw [(true, 14), (false, 3)] _ (by kernel_rfl) (by kernel_rfl) (by kernel_rfl) ?_
  refine rx_any Same same_pre ?_
  refine rq_v (v_move rfl) <| rq_v (v_nilCheck_ptr rfl) <| rq_v (v_fieldAddr fa_keyspan_MergingIter_0 rfl) <| rq_v (v_load one_p_keyspan_MergingBuffers rfl (by exact M.b2.cell 0 rfl)) ?_
  refine rq_v (v_nilCheck_ptr rfl) <| rq_v (v_fieldAddr fa_keyspan_MergingBuffers_1 rfl) <| rq_v (v_load one_sl_keyspan_mergingIterLevel rfl (by exact B1.cell 1 rfl)) ?_
  refine rq_v (v_move rfl) <| rq_v (v_move rfl) <| rq_v (v_nilCheck_ptr rfl) <| rq_v (v_fieldAddr fa_keyspan_Span_0 rfl) <| rq_v (v_load one_sl_uint8 rfl (by exact hcs 0 _ rfl)) ?_
  refine rq_v (v_move rfl) <| rq_v (v_build3 rfl rfl rfl (bld_keyspan_boundKey_0_1_2 _ _ _ _ _)) ?_
  refine rm_end ?_; intro ha7 Ka7; simp only [endM, hypF, ofE, argE, List.nil_append]
  have Ka7 : h5 = ha7 := Eq.symm Ka7
  subst Ka7
  refine rx_seq ?_
  refine rs_v (v_indexAddrE (i := k) u_sl_keyspan_mergingIterLevel siz_keyspan_mergingIterLevel rfl rfl rfl (by omega)) rfl ?_
  refine rF fa_keyspan_mergingIterLevel_1 rfl rfl <| rs_w0 (w_store siz_keyspan_boundKey rfl rfl rfl rfl M.b2 (by rw [M.len]; omega)) ?_
  rintro _ h8 ⟨B9, K8⟩
  have M2 := M.setL (it := v.it) hlx (at_it _ _) B9
  have hI2 := hI1.keep K8 (by simpa using hne)
  have KP := KeepP.newX KP K8 (fun y hy => .inl (hbad y (C.kmi y hy).1))
  have O := O.keep K8 C.kmi
  have H := H.step hv (r := 1) (by rw [at_first (by have := (List.getElem?_eq_some_iff.1 hx).1; omega), hsp, e9]; exact M2) hI2 (by omega) ((Kc.sub (by simp)).trans (K8.sub (by simp)))
  refine rs_nil ?_
  refine q_con ?_
  refine rx_nil ?_
  refine q_blk_n ?_
  refine q_thn ?_
  refine tr_reg ?_
  refine rs_v (v_add rfl rfl (by omega) (by omega)) rfl ?_
  refine rM rfl rfl ?_
  refine rs_nil ?_
  refine q_lp (vs.length - (k + 1)) [(0, _), (2, _), (14, _), (15, _)] (by omega) ⟨rfl, rfl, rfl, rfl, trivial⟩ ⟨k + 1, _, by omega, rfl, rfl, H.congr (fun j _ => rK_step (f := (fun _ => 1)) hv j), O, KP⟩
theorem c_MLast {χ : Chi} {A : Nat → Prop} {bf mi sb : Nat} {vs : List Lev} {snap : Nat} {B : List ByteArray} {F : Nat → Prop} {rs : Nat → Nat} {rev : Bool} {dir : Int} {q : List Nat} {st en bv : Value} {h : Heap} (C : MC A bf mi sb vs B) (hbad : ∀ b, badB A bf mi sb vs b → F b) (hl : Low F h) (X : MXt A bf mi sb vs snap F rs rev dir q st en bv h) :
    Cl Tryz.prog χ 177 #[.pointer (some ⟨mi, 0, none⟩)] h (MPost A bf mi sb vs snap B F h (bwdP (covF (wsO vs)) (sgM vs snap B) (posB B.length))) := by
  obtain ⟨s0, s1, s2, s3, kv, L, tl, lk, lb, H, O⟩ := X
  have hFN : FPk (wsO vs) B B.length (rT (fun W => 2 * W.length) vs) := fp_cut C.hB (p := fun _ => true) (fun _ _ _ e => e) (cut_all B) (fun i W hW => by rw [rT_at hW, cut_all_cnt C.hB (p := fun _ => true) (fun _ _ _ e => e) (List.mem_of_getElem? hW) (cut_all B)])
  refine cl_intro Tryz.func177 rfl rfl rfl ?_
  have K : Keep [] h h := Keep.refl _ _
  refine rG <| rA rfl rfl <| rN <| rG <| rM rfl rfl <| rs_w (w_call (vs := [_]) ok_keyspan_MergingIter_invalidate rfl ⟨rfl, trivial⟩ (c_invalidate H)) rfl ?_
  rintro _ h1 ⟨rfl, H, K1⟩
  have KP : KeepP F h h1 := kp_mi C hbad K1
  have O := O.keep K1 C.kmi
  refine rN ?_
  refine tr_seq ?_
  refine rG <| rM rfl rfl <| rC rfl rfl <| rF fa_keyspan_MergingIter_0 rfl rfl <| rs_v (v_load one_p_keyspan_MergingBuffers rfl (by exact H.mb.b2.cell 0 rfl)) rfl ?_
  refine rC rfl rfl <| rF fa_keyspan_MergingBuffers_1 rfl rfl <| rs_v (v_load one_sl_keyspan_mergingIterLevel rfl (by exact H.b1.cell 1 rfl)) rfl ?_
  refine rs_v (v_len u_sl_keyspan_mergingIterLevel rfl) rfl ?_
  refine rM rfl rfl <| rN <| tr_block ?_
  refine tr_loop (fun m E h' => ∃ k L1, k ≤ vs.length ∧ m = vs.length - k ∧ E = [(0, .pointer (some ⟨mi, 0, none⟩)), (2, .pointer none), (14, .int .i64 (vs.length : Int)), (15, .int .i64 (k : Int))] ∧ MG A bf mi vs (rK (fun W => 2 * W.length) vs rs k) kv bv rev (hdC bf st en (.iface 188 (visF sb)) s0 s1 s2 s3 dir) L1 q tl h' ∧ MO A bf mi sb vs snap F kv bv lk lb h' ∧ KeepP F h h') vs.length [(0, _), (2, _), (14, _), (15, _)] ⟨rfl, rfl, rfl, rfl, trivial⟩ ⟨0, L, Nat.zero_le _, rfl, rfl, H.congr (fun j _ => rfl), O, KP⟩ ?_
  rintro m E hL2 ⟨k, L1, hk, rfl, rfl, H, O, KP⟩
  refine rG <| rs_v (v_lt rfl rfl) rfl ?_
  refine rN ?_
  refine tr_seq ?_
  refine tr_ifn rfl (fun hif => ?_) (fun hif => ?_)
  · -- no
    simp only [dT, dF] at hif
    have H := H.congr (rs' := rT (fun W => 2 * W.length) vs) (fun j hj => rK_all (by omega))
    refine tr_exit <| q_thn_exit ?_
    refine q_lp_exit ?_
    refine q_blk_hit ?_
    refine q_thn ?_
    refine rG <| rM rfl rfl <| rs_w (w_call (vs := [_]) ok_keyspan_MergingIter_initMaxHeap rfl ⟨rfl, trivial⟩ (c_initMaxHeap H)) rfl ?_
    rintro _ h3 ⟨rfl, q1, tl1, H, hp, hH, K3⟩
    have KP := KeepP.newX KP K3 (fun y hy => .inl (hbad y (C.kmb y hy).1))
    have O := O.keep K3 C.kmb
    refine rN <| rG <| rM rfl rfl <| rs_w (w_call (vs := [_]) ok_keyspan_MergingIter_findPrevFragmentSet rfl ⟨rfl, trivial⟩ (c_findPrevFragmentSet C hbad (hl.mono KP.1) ⟨_, _, _, _, _, _, _, _, _, H, O⟩ hp hH (Nat.le_refl _) hFN)) rfl ?_
    rintro r h4 hP
    refine rA rfl rfl <| rN <| tr_ret <| q_ret (res_tmp rfl rfl) ?_
    exact mpost_trans0 hl KP hP
  -- yes
  simp only [dT, dF] at hif
  obtain ⟨v, hv⟩ := ex_get (L := vs) (k := k) (by omega)
  obtain ⟨hlx, hI, hrx⟩ := H.lv k v hv
  obtain ⟨hS, hne, hnb, hAc, hlt⟩ := H.sv v (List.mem_of_getElem? hv)
  have hlv := H.mb.lev hlx
  have hvl := H.vl
  have hit0 : cellH hL2 mi (10 + k * 4 + 0) = some v.it := by rw [← at_it v _]; exact hlv 0 _ rfl
  refine tr_skip ?_
  refine q_thn ?_
  refine tr_seq ?_
  refine tr_block <| rG <| rM rfl rfl <| rA rfl rfl <| rN <| rG <| rM rfl rfl <| rC rfl rfl <| rF fa_keyspan_MergingIter_0 rfl rfl <| rs_v (v_load one_p_keyspan_MergingBuffers rfl (by exact H.mb.b2.cell 0 rfl)) rfl ?_
  refine rC rfl rfl <| rF fa_keyspan_MergingBuffers_1 rfl rfl <| rs_v (v_load one_sl_keyspan_mergingIterLevel rfl (by exact H.b1.cell 1 rfl)) rfl ?_
  refine rM rfl rfl <| rs_v (v_indexAddrE (i := k) u_sl_keyspan_mergingIterLevel siz_keyspan_mergingIterLevel rfl rfl rfl (by omega)) rfl ?_
  refine rF fa_keyspan_mergingIterLevel_0 rfl rfl <| rs_v (v_load one_keyspan_FragmentIterator rfl (by exact hit0)) rfl ?_
  refine rs_w (w_mcall (vs := []) (lv_Last hS hI) rfl trivial) rfl ?_
  rintro r h5 ⟨hr, hI1, K5⟩
  have hS1 := hS.stab (H.stab K5 (by simpa using hAc))
  obtain ⟨p, hrp, hpc⟩ := ret_form hS1 (2 * v.W.length) (v.W.length - 1) (fun ho => by have h1 : v.ok (2 * v.W.length) := ho; unfold Lev.ok at h1; omega)
  rw [hrp] at hr; subst hr
  have M := H.mb.keep K5 (by simpa using fun e => hne e.symm)
  have B1 := K5.blk (by simpa using fun e => hnb e.symm) H.b1
  have Kc := K5
  have KP := KeepP.newX KP K5 (fun y hy => .inl (hbad y (C.kc hv y hy).1))
  have O := O.keep K5 (C.kc hv)
  refine rA rfl rfl <| rN <| rG <| rM rfl rfl <| rs_v (v_peq u_p_keyspan_Span rfl rfl) rfl ?_
  refine rN ?_
  refine tr_if rfl (fun hif => ?_) (fun hif => ?_)
  · -- yes
    obtain ⟨rfl, hno⟩ : p = none ∧ ¬ v.ok (2 * v.W.length) := by
      rcases hpc with e | ⟨b, o, x, rfl, _⟩
      · exact e
      · cases hif
    refine tr_reg ?_
    refine rM rfl rfl <| rC rfl rfl <| rF fa_keyspan_MergingIter_0 rfl rfl <| rs_v (v_load one_p_keyspan_MergingBuffers rfl (by exact M.b2.cell 0 rfl)) rfl ?_
    refine rC rfl rfl <| rF fa_keyspan_MergingBuffers_1 rfl rfl <| rs_v (v_load one_sl_keyspan_mergingIterLevel rfl (by exact B1.cell 1 rfl)) rfl ?_
    refine rM rfl rfl <| rs_v (v_build1 rfl (bld_keyspan_boundKey_0 _)) rfl ?_
    refine rs_v (v_indexAddrE (i := k) u_sl_keyspan_mergingIterLevel siz_keyspan_mergingIterLevel rfl rfl rfl (by omega)) rfl ?_
    refine rF fa_keyspan_mergingIterLevel_1 rfl rfl <| rs_w0 (w_store siz_keyspan_boundKey rfl rfl rfl rfl M.b2 (by rw [M.len]; omega)) ?_
    rintro _ h6 ⟨B9, K6⟩
    have M2 := M.setL (it := v.it) hlx (at_it _ _) B9
    have hI2 := hI1.keep K6 (by simpa using hne)
    have KP := KeepP.newX KP K6 (fun y hy => .inl (hbad y (C.kmi y hy).1))
    have O := O.keep K6 C.kmi
    have H := H.step hv (r := 2 * v.W.length) (by rw [Lev.at0 hno]; exact M2) hI2 (by omega) ((Kc.sub (by simp)).trans (K6.sub (by simp)))
    refine rs_nil ?_
    refine q_blk_n ?_
    refine q_thn ?_
    refine tr_reg ?_
    refine rs_v (v_add rfl rfl (by omega) (by omega)) rfl ?_
    refine rM rfl rfl ?_
    refine rs_nil ?_
    refine q_lp (vs.length - (k + 1)) [(0, _), (2, _), (14, _), (15, _)] (by omega) ⟨rfl, rfl, rfl, rfl, trivial⟩ ⟨k + 1, _, by omega, rfl, rfl, H.congr (fun j _ => rK_step (f := (fun W => 2 * W.length)) hv j), O, KP⟩
  -- no
  obtain ⟨b, o, x, rfl, hok, hx, hsp, hAb, hcs⟩ : ∃ b o x, p = some ⟨b, o, none⟩ ∧ v.ok (2 * v.W.length) ∧ v.W[v.W.length - 1]? = some x ∧ v.sp (v.W.length - 1) = .pointer (some ⟨b, o, none⟩) ∧ A b ∧ CellsAt h5 b o [v.sv (v.W.length - 1), v.ev (v.W.length - 1), v.kv (v.W.length - 1), .int .i8 0] := by
    rcases hpc with ⟨rfl, _⟩ | e
    · cases hif
    · exact e
  obtain ⟨a9, n9, c9, e9⟩ := (hS.nn _ x hx).2
  rw [e9] at hcs
  refine tr_draw [(true, 14), (false, 3)] _ (by kernel_rfl) (by kernel_rfl) (by kernel_rfl) ?_
  refine rx_any Same same_pre ?_
  refine rq_v (v_move rfl) <| rq_v (v_nilCheck_ptr rfl) <| rq_v (v_fieldAddr fa_keyspan_MergingIter_0 rfl) <| rq_v (v_load one_p_keyspan_MergingBuffers rfl (by exact M.b2.cell 0 rfl)) ?_
  refine rq_v (v_nilCheck_ptr rfl) <| rq_v (v_fieldAddr fa_keyspan_MergingBuffers_1 rfl) <| rq_v (v_load one_sl_keyspan_mergingIterLevel rfl (by exact B1.cell 1 rfl)) ?_
  refine rq_v (v_move rfl) <| rq_v (v_move rfl) <| rq_v (v_nilCheck_ptr rfl) <| rq_v (v_fieldAddr fa_keyspan_Span_1 rfl) <| rq_v (v_load one_sl_uint8 rfl (by exact hcs 1 _ rfl)) ?_
  refine rq_v (v_move rfl) <| rq_v (v_build3 rfl rfl rfl (bld_keyspan_boundKey_0_1_2 _ _ _ _ _)) ?_
  refine rm_end ?_; intro ha7 Ka7; simp only [endM, hypF, ofE, argE, List.nil_append]
  have Ka7 : h5 = ha7 := Eq.symm Ka7
  subst Ka7
  refine rx_seq ?_
  refine rs_v (v_indexAddrE (i := k) u_sl_keyspan_mergingIterLevel siz_keyspan_mergingIterLevel rfl rfl rfl (by omega)) rfl ?_
  refine rF fa_keyspan_mergingIterLevel_1 rfl rfl <| rs_w0 (w_store siz_keyspan_boundKey rfl rfl rfl rfl M.b2 (by rw [M.len]; omega)) ?_
  rintro _ h8 ⟨B9, K8⟩
  have M2 := M.setL (it := v.it) hlx (at_it _ _) B9
  have hI2 := hI1.keep K8 (by simpa using hne)
  have KP := KeepP.newX KP K8 (fun y hy => .inl (hbad y (C.kmi y hy).1))
  have O := O.keep K8 C.kmi
  have H := H.step hv (r := 2 * v.W.length) (by rw [at_last (by have := (List.getElem?_eq_some_iff.1 hx).1; omega), hsp, e9]; exact M2) hI2 (by omega) ((Kc.sub (by simp)).trans (K8.sub (by simp)))
  refine rs_nil ?_
  refine q_con ?_
  refine rx_nil ?_
  refine q_blk_n ?_
  refine q_thn ?_
  refine tr_reg ?_
  refine rs_v (v_add rfl rfl (by omega) (by omega)) rfl ?_
  refine rM rfl rfl ?_
  refine rs_nil ?_
  refine q_lp (vs.length - (k + 1)) [(0, _), (2, _), (14, _), (15, _)] (by omega) ⟨rfl, rfl, rfl, rfl, trivial⟩ ⟨k + 1, _, by omega, rfl, rfl, H.congr (fun j _ => rK_step (f := (fun W => 2 * W.length)) hv j), O, KP⟩
set_option maxHeartbeats 2000000
theorem MO.ent {A : Nat → Prop} {bf mi sb : Nat} {vs : List Lev} {snap : Nat} {F F1 : Nat → Prop} {kv bv : Value} {lk : List KT} {lb : List UInt8} {h : Heap} (o : MO A bf mi sb vs snap F kv bv lk lb h) (hF : ∀ b, F b → F1 b) : MO A bf mi sb vs snap F1 kv bv lk lb h :=
  ⟨o.k, o.b, o.s, o.d, fun x hx => hF x (o.ok x hx), fun x hx => hF x (o.ob x hx), o.ll⟩
theorem seek_form {A : Nat → Prop} {v : Lev} {h : Heap} (hS : LevS A v h) {c : Prop} [Decidable c] (s : Nat) (hs : ¬ c → s < v.W.length) : ∃ p, (if c then .pointer none else v.sp s) = .pointer p ∧ ((p = none ∧ c) ∨ (∃ b o x, p = some ⟨b, o, none⟩ ∧ ¬ c ∧ v.W[s]? = some x ∧ v.sp s = .pointer (some ⟨b, o, none⟩) ∧ A b ∧ CellsAt h b o [v.sv s, v.ev s, v.kv s, .int .i8 0] ∧ RBytes A h (v.sv s) x.s ∧ RBytes A h (v.ev s) x.e)) := by
  by_cases hc : c
  · rw [if_pos hc]; exact ⟨none, rfl, .inl ⟨rfl, hc⟩⟩
  · rw [if_neg hc]
    obtain ⟨x, hx⟩ := ex_get (L := v.W) (k := s) (hs hc)
    obtain ⟨b, o, ha, hAb, hcs, h1, h2, _⟩ := hS.cells s x hx
    exact ⟨_, lev_pt ha, .inr ⟨b, o + s * 4, x, rfl, hc, hx, lev_pt ha, hAb, hcs, h1, h2⟩⟩
theorem seek_form2 {A : Nat → Prop} {v : Lev} {h : Heap} (hS : LevS A v h) {c : Prop} [Decidable c] (s : Nat) (hs : c → s < v.W.length) : ∃ p, (if c then v.sp s else .pointer none) = .pointer p ∧ ((p = none ∧ ¬ c) ∨ (∃ b o x, p = some ⟨b, o, none⟩ ∧ c ∧ v.W[s]? = some x ∧ v.sp s = .pointer (some ⟨b, o, none⟩) ∧ A b ∧ CellsAt h b o [v.sv s, v.ev s, v.kv s, .int .i8 0] ∧ RBytes A h (v.sv s) x.s ∧ RBytes A h (v.ev s) x.e)) := by
  by_cases hc : c
  · rw [if_pos hc]
    obtain ⟨x, hx⟩ := ex_get (L := v.W) (k := s) (hs hc)
    obtain ⟨b, o, ha, hAb, hcs, h1, h2, _⟩ := hS.cells s x hx
    exact ⟨_, lev_pt ha, .inr ⟨b, o + s * 4, x, rfl, hc, hx, lev_pt ha, hAb, hcs, h1, h2⟩⟩
  · rw [if_neg hc]; exact ⟨none, rfl, .inl ⟨rfl, hc⟩⟩
theorem seek_noE {vs : List Lev} {rs : Nat → Nat} {y : Nat} {q : List Nat} {w : Lev} {key : ByteArray} (hO : ∀ v, v ∈ vs → Tess.Ord v.W) (hp : (y :: q).Perm (validQ vs rs vs.length)) (hH : HFrom (hlO false vs rs) (y :: q).length 0 (y :: q)) (hw : vs[y]? = some w) (hrs : ∀ (i : Nat) W, (wsO vs)[i]? = some W → rs i = tS W key + 1)
    (hn : ¬ ((w.at (rs y)).kind = 1 ∧ bkW w.W (rs y) = key)) : ∀ (i : Nat) W, (wsO vs)[i]? = some W → tS W key = cE W key := fun i W hW => by
  obtain ⟨v, hv, rfl⟩ := wsO_inv hW
  refine tS_eqE (hO v (List.mem_of_getElem? hv)) fun hle => ?_
  rcases tS_b (hO v (List.mem_of_getElem? hv)) key hle with h1 | ⟨h1, _⟩
  · exact h1
  · exfalso
    obtain ⟨w', hw', how⟩ := root_ok hp
    rw [hw] at hw'; cases hw'
    have hi := hrs i v.W hW
    have hy := hrs y w.W (wsO_at hw)
    have h2 := root_min hp hH hw hv (show v.ok (rs i) by unfold Lev.ok; omega)
    rw [hi, h1] at h2
    have hok := how
    unfold Lev.ok at hok
    rcases tS_b (hO w (List.mem_of_getElem? hw)) key (by omega) with h3 | ⟨h3, h4⟩
    · rw [← hy] at h3
      have := slt_of_slt_sle h3 h2
      rw [slt_irr] at this; cases this
    · exact hn ⟨by rw [at_kd how, if_pos (by omega)], by rw [hy]; exact h3⟩
theorem seek_noL {vs : List Lev} {rs : Nat → Nat} {y : Nat} {q : List Nat} {w : Lev} {key : ByteArray} (hO : ∀ v, v ∈ vs → Tess.Ord v.W) (hp : (y :: q).Perm (validQ vs rs vs.length)) (hH : HFrom (hlO true vs rs) (y :: q).length 0 (y :: q)) (hw : vs[y]? = some w) (hrs : ∀ (i : Nat) W, (wsO vs)[i]? = some W → rs i = tS W key)
    (hn : ¬ ((w.at (rs y)).kind = 2 ∧ bkW w.W (rs y) = key)) : ∀ (i : Nat) W, (wsO vs)[i]? = some W → tS W key = cL W key := fun i W hW => by
  obtain ⟨v, hv, rfl⟩ := wsO_inv hW
  refine tS_eqL (hO v (List.mem_of_getElem? hv)) fun hle => ?_
  rcases tS_a (hO v (List.mem_of_getElem? hv)) key hle with h1 | ⟨h1, _⟩
  · exact h1
  · exfalso
    obtain ⟨w', hw', how⟩ := root_ok hp
    rw [hw] at hw'; cases hw'
    have hi := hrs i v.W hW
    have hy := hrs y w.W (wsO_at hw)
    have h2 := root_max hp hH hw hv (show v.ok (rs i) by rw [hi]; exact ⟨hle, tS_le _ _⟩)
    rw [hi, h1] at h2
    have hok := how
    unfold Lev.ok at hok
    rcases tS_a (hO w (List.mem_of_getElem? hw)) key (by omega) with h3 | ⟨h3, h4⟩
    · rw [← hy] at h3
      have := slt_of_slt_sle h3 h2
      rw [slt_irr] at this; cases this
    · exact hn ⟨by rw [at_kd how, if_neg (by omega)], by rw [hy]; exact h3⟩
theorem seek_yesE {vs : List Lev} {B : List ByteArray} {kf : ByteArray → List KeyD} {rs : Nat → Nat} {y : Nat} {w : Lev} {key : ByteArray} (hB : Bnds (wsO vs) B) (hw : vs[y]? = some w) (how : w.ok (rs y)) (hrs : ∀ (i : Nat) W, (wsO vs)[i]? = some W → rs i = tS W key + 1) (he : bkW w.W (rs y) = key) :
    ∃ k, k ≤ B.length ∧ FNk (wsO vs) B k rs ∧ pGE (segs B kf) key = posF B k := by
  obtain ⟨k, hk, e⟩ := hB.idx (hB.mem w.W (rs y) (List.mem_of_getElem? (wsO_at hw)) how.1 how.2)
  rw [he] at e
  refine ⟨k, by omega, ?_, ?_⟩
  · unfold FNk
    rw [if_pos hk]
    refine ⟨fun i W hW => ?_, y, w.W, wsO_at hw, how.1, how.2, by rw [he, e]⟩
    have h1 := tS_cL (hB.ord W (List.mem_of_getElem? hW)) key
    have h2 := tS_cE (hB.ord W (List.mem_of_getElem? hW)) key
    rw [hrs i W hW, e]; omega
  · have := pGE_cut (kf := kf) (key := atB B k) (cut_le hB hk)
    rw [e] at this
    exact this
theorem seek_yesL {vs : List Lev} {B : List ByteArray} {kf : ByteArray → List KeyD} {rs : Nat → Nat} {y : Nat} {w : Lev} {key : ByteArray} (hB : Bnds (wsO vs) B) (hw : vs[y]? = some w) (how : w.ok (rs y)) (hrs : ∀ (i : Nat) W, (wsO vs)[i]? = some W → rs i = tS W key) (he : bkW w.W (rs y) = key) :
    ∃ k, k ≤ B.length ∧ FPk (wsO vs) B k rs ∧ pLT (segs B kf) key = posB k := by
  obtain ⟨k, hk, e⟩ := hB.idx (hB.mem w.W (rs y) (List.mem_of_getElem? (wsO_at hw)) how.1 how.2)
  rw [he] at e
  refine ⟨k + 1, by omega, ?_, ?_⟩
  · unfold FPk
    rw [if_pos (by omega), Nat.add_sub_cancel]
    refine ⟨fun i W hW => ?_, y, w.W, wsO_at hw, how.1, how.2, by rw [he, e]⟩
    have h1 := tS_cL (hB.ord W (List.mem_of_getElem? hW)) key
    have h2 := tS_cE (hB.ord W (List.mem_of_getElem? hW)) key
    rw [hrs i W hW, e]; omega
  · have := pLT_cut (kf := kf) (key := atB B k) (cut_lt hB hk)
    rw [e, show min (k + 1) B.length = k + 1 from by omega] at this
    exact this
theorem MG.nAall {A : Nat → Prop} {bf mi : Nat} {vs : List Lev} {rs : Nat → Nat} {kv bv : Value} {rev : Bool} {hd tl : List Value} {L : List LvD} {q : List Nat} {h : Heap} (H : MG A bf mi vs rs kv bv rev hd L q tl h) : ∀ x, x ∈ [mi, bf] ++ lvB vs → ¬ A x := fun x hx => by
  rcases List.mem_append.1 hx with hx | hx
  · simp only [List.mem_cons, List.mem_nil_iff, or_false] at hx
    rcases hx with rfl | rfl
    · exact H.nA.2
    · exact H.nA.1
  · obtain ⟨v, hv, rfl⟩ := List.mem_map.1 hx
    exact (H.sv v hv).2.2.2.1
theorem c_mcmp2 {χ : Chi} {bf mi : Nat} {kv lv bv it st en tr s0 s1 s2 s3 : Value} {rev : Bool} {dir : Int} {L : List LvD} {q : List Nat} {tl : List Value} {h : Heap} (M : MB mi (hdC bf st en tr s0 s1 s2 s3 dir) L q tl h) (B1 : Blk h bf [kv, lv, cmpF, .bool rev, it, bv] 116) {a b : Value} {u w : ByteArray} (ha : RBy h a u) (hb : RBy h b w) :
    Cl Tryz.prog χ 128 #[.pointer (some ⟨mi, 0, none⟩), a, b] h (fun r h' => r = .int .i64 (cmpB u w) ∧ h' = h) := by
  refine cl_intro Tryz.func128 rfl rfl rfl ?_
  have K : Keep [] h h := Keep.refl _ _
  refine rG <| rA rfl rfl <| rN <| rG <| rM rfl rfl <| rC rfl rfl <| rF fa_keyspan_MergingIter_0 rfl rfl <| rs_v (v_load one_p_keyspan_MergingBuffers rfl (by exact M.b2.cell 0 rfl)) rfl ?_
  refine rC rfl rfl <| rF fa_keyspan_MergingBuffers_2 rfl rfl <| rF fa_keyspan_mergingIterHeap_0 rfl rfl <| rs_v (v_load one_base_Compare rfl (by exact B1.cell 2 rfl)) rfl ?_
  refine rM rfl rfl <| rM rfl rfl <| rs_w (w_callv (first := []) (cap := []) (vs := [_, _]) ok_bytes_Compare rfl ⟨rfl, rfl, trivial⟩ (c_Compare χ _ _ _ u w ha hb)) rfl ?_
  rintro _ h1 ⟨rfl, hsame⟩; have hsame := hsame.symm; subst hsame
  refine rA rfl rfl <| rN <| tr_ret <| q_ret (res_tmp rfl rfl) ?_
  exact ⟨rfl, rfl⟩
set_option maxHeartbeats 4000000
theorem c_MSeekGE {χ : Chi} {A : Nat → Prop} {bf mi sb : Nat} {vs : List Lev} {snap : Nat} {B : List ByteArray} {F : Nat → Prop} {rs : Nat → Nat} {rev : Bool} {dir : Int} {q : List Nat} {st en bv : Value} {h : Heap} {kv0 : Value} {key : ByteArray} (C : MC A bf mi sb vs B) (hbad : ∀ b, badB A bf mi sb vs b → F b) (hl : Low F h) (X : MXt A bf mi sb vs snap F rs rev dir q st en bv h) (hkey : RBytes (fun b => ¬ F b) h kv0 key) :
    Cl Tryz.prog χ 179 #[.pointer (some ⟨mi, 0, none⟩), kv0] h (MPost A bf mi sb vs snap B F h (fwdP (covF (wsO vs)) (sgM vs snap B) (pGE (sgM vs snap B) key))) := by
  obtain ⟨s0, s1, s2, s3, kv1, L, tl, lk1, lb1, H, O⟩ := X
  have hkey0 := RBytes.lowen hkey
  refine cl_intro Tryz.func179 rfl rfl rfl ?_
  have K : Keep [] h h := Keep.refl _ _
  refine rG <| rA rfl rfl <| rN <| rG <| rM rfl rfl <| rs_w (w_call (vs := [_]) ok_keyspan_MergingIter_invalidate rfl ⟨rfl, trivial⟩ (c_invalidate H)) rfl ?_
  rintro _ h1 ⟨rfl, H, K1⟩
  have KP : KeepP F h h1 := kp_mi C hbad K1
  have O := O.keep K1 C.kmi
  refine rN ?_
  refine tr_seq ?_
  refine rG <| rM rfl rfl <| rC rfl rfl <| rF fa_keyspan_MergingIter_0 rfl rfl <| rs_v (v_load one_p_keyspan_MergingBuffers rfl (by exact H.mb.b2.cell 0 rfl)) rfl ?_
  refine rC rfl rfl <| rF fa_keyspan_MergingBuffers_1 rfl rfl <| rs_v (v_load one_sl_keyspan_mergingIterLevel rfl (by exact H.b1.cell 1 rfl)) rfl ?_
  refine rs_v (v_len u_sl_keyspan_mergingIterLevel rfl) rfl ?_
  refine rM rfl rfl <| rN <| tr_block ?_
  refine tr_loop (fun m E h' => ∃ k L1, k ≤ vs.length ∧ m = vs.length - k ∧ E = [(0, .pointer (some ⟨mi, 0, none⟩)), (1, kv0), (4, .pointer none), (19, .int .i64 (vs.length : Int)), (20, .int .i64 (k : Int))] ∧ MG A bf mi vs (rK (fun W => tS W key) vs rs k) kv1 bv rev (hdC bf st en (.iface 188 (visF sb)) s0 s1 s2 s3 dir) L1 q tl h' ∧ MO A bf mi sb vs snap F kv1 bv lk1 lb1 h' ∧ KeepP F h h') vs.length [(0, _), (1, _), (4, _), (19, _), (20, _)] ⟨rfl, rfl, rfl, rfl, rfl, trivial⟩ ⟨0, L, Nat.zero_le _, rfl, rfl, H.congr (fun j _ => rfl), O, KP⟩ ?_
  rintro m E hL2 ⟨k, L1, hk, rfl, rfl, H, O, KP⟩
  refine rG <| rs_v (v_lt rfl rfl) rfl ?_
  refine rN ?_
  refine tr_seq ?_
  refine tr_ifn rfl (fun hif => ?_) (fun hif => ?_)
  · -- no
    simp only [dT, dF] at hif
    have H := H.congr (rs' := rT (fun W => tS W key) vs) (fun j hj => rK_all (by omega))
    have hrs1 : ∀ (i : Nat) W, (wsO vs)[i]? = some W → rT (fun W => tS W key) vs i = tS W key := fun i W hW => rT_at hW
    generalize rT (fun W => tS W key) vs = rs1 at H hrs1
    have hrb : ∀ (i : Nat) v, vs[i]? = some v → rs1 i ≤ 2 * v.W.length := fun i v hv => by rw [hrs1 i v.W (wsO_at hv)]; exact tS_le _ _
    refine tr_exit <| q_thn_exit ?_
    refine q_lp_exit ?_
    refine q_blk_hit ?_
    refine q_thn ?_
    refine rG <| rM rfl rfl <| rs_w (w_call (vs := [_]) ok_keyspan_MergingIter_initMaxHeap rfl ⟨rfl, trivial⟩ (c_initMaxHeap H)) rfl ?_
    rintro _ h3 ⟨rfl, q1, tl1, H, hp, hH, K3⟩
    have KP := KeepP.newX KP K3 (fun y hy => .inl (hbad y (C.kmb y hy).1))
    have O := (O.keep K3 C.kmb).ent (F1 := (fun b => F b ∨ h.size ≤ b)) (fun b hb => .inl hb)
    have hq1 := q_lt hp
    refine rN ?_
    refine tr_seq ?_
    refine rG <| rM rfl rfl <| rC rfl rfl <| rF fa_keyspan_MergingIter_5 rfl rfl <| rs_v (v_load one_error rfl (by exact H.mb.b2.cell 8 rfl)) rfl ?_
    refine rs_v (v_ine_nil isi_error rfl rfl) rfl ?_
    refine rN <| tr_if_f rfl ?_
    refine rG <| rM rfl rfl <| rC rfl rfl <| rF fa_keyspan_MergingIter_0 rfl rfl <| rs_v (v_load one_p_keyspan_MergingBuffers rfl (by exact H.mb.b2.cell 0 rfl)) rfl ?_
    refine rC rfl rfl <| rF fa_keyspan_MergingBuffers_2 rfl rfl <| rF fa_keyspan_mergingIterHeap_2 rfl rfl <| rs_v (v_load one_sl_keyspan_mergingIterItem rfl (by exact H.b1.cell 4 rfl)) rfl ?_
    refine rs_v (v_len u_sl_keyspan_mergingIterItem rfl) rfl ?_
    refine rs_v (v_eq rfl rfl) rfl ?_
    refine rN ?_
    refine tr_if rfl (fun hif => ?_) (fun hif => ?_)
    · -- yes
      have hq0 : q1 = [] := List.eq_nil_of_length_eq_zero (by have := of_decide_eq_true hif; omega)
      subst hq0
      have hts0 : ∀ (i : Nat) W, (wsO vs)[i]? = some W → tS W key = 0 := fun i W hW => by
        have h1 := q_none hp rfl i W hW
        rw [hrs1 i W hW] at h1
        have := tS_le W key; omega
      have hFN : FNk (wsO vs) B 0 (fun j => rs1 j + 1) := fn_cut C.hB (p := fun _ => false) (fun _ _ _ e => e) (cut_none B) (fun i W hW => by show rs1 i + 1 = _; rw [hrs1 i W hW, hts0 i W hW, cut_none_cnt C.hB (p := fun _ => false) (fun _ _ _ e => e) (List.mem_of_getElem? hW) (cut_none B)])
      refine rG <| rM rfl rfl <| rs_w (w_call (vs := [_]) ok_keyspan_MergingIter_switchToMinHeap rfl ⟨rfl, trivial⟩ (c_switchToMinHeap H hrb)) rfl ?_
      rintro _ h4 ⟨rfl, L3, q3, tl3, H, hp3, hH3, K4⟩
      have KP := KeepP.newX KP K4 (fun y hy => .inl (hbad y (C.kall y hy).1))
      have O := O.keep K4 C.kall
      refine rN <| rG <| rM rfl rfl <| rs_w (w_call (vs := [_]) ok_keyspan_MergingIter_findNextFragmentSet rfl ⟨rfl, trivial⟩ (c_findNextFragmentSet (F := FU F h _) C (fun b hb => .inl (hbad b hb)) (fu_low hl KP) (MXt.fu ⟨_, _, _, _, _, _, _, _, _, H, O⟩) hp3 hH3 (Nat.zero_le _) hFN)) rfl ?_
      rintro r h5 hP
      refine rA rfl rfl <| rN <| tr_ret <| q_thn_ret <| q_ret (res_tmp rfl rfl) ?_
      rw [pGE_none C.hB hts0]
      exact mpost_trans hl KP (fun b hb => hb) hP
    -- no
    obtain ⟨x, q2, rfl⟩ : ∃ x q2, q1 = x :: q2 := by
      cases q1 with
      | nil => exact absurd rfl (of_decide_eq_false hif)
      | cons a b => exact ⟨a, b, rfl⟩
    obtain ⟨v, hv, hok⟩ := root_ok hp
    have hvm := List.mem_of_getElem? hv
    obtain ⟨a5, n5, c5, ek5⟩ := at_nn (H.sv v hvm).1 hok
    have hlen : (bkW v.W (rs1 x)).data.toList.length ≤ 100000000000 := C.bl _ (C.hB.mem v.W (rs1 x) (List.mem_of_getElem? (wsO_at hv)) hok.1 hok.2)
    have hit := (H.hs hq1).item (i := 0) (x := x) rfl
    have hlv := H.mb.lev (H.lv x v hv).1
    have hkey : cellH h3 mi (10 + x * 4 + 1 + 1) = some (.slice (some a5) n5 c5) := by rw [← ek5]; exact hlv 2 _ rfl
    have hkb : RBytes A h3 (.slice (some a5) n5 c5) (bkW v.W (rs1 x)) := by rw [← ek5]; exact bk_key (H.sv v (List.mem_of_getElem? hv)).1 _
    refine tr_skip ?_
    refine q_thn ?_
    refine rG <| rM rfl rfl <| rM rfl rfl <| rC rfl rfl <| rF fa_keyspan_MergingIter_0 rfl rfl <| rs_v (v_load one_p_keyspan_MergingBuffers rfl (by exact H.mb.b2.cell 0 rfl)) rfl ?_
    refine rC rfl rfl <| rF fa_keyspan_MergingBuffers_2 rfl rfl <| rF fa_keyspan_mergingIterHeap_2 rfl rfl <| rs_v (v_load one_sl_keyspan_mergingIterItem rfl (by exact H.b1.cell 4 rfl)) rfl ?_
    refine rs_v (v_indexAddrE (i := 0) u_sl_keyspan_mergingIterItem siz_keyspan_mergingIterItem rfl rfl rfl (Nat.succ_pos _)) rfl ?_
    refine rF fa_keyspan_mergingIterItem_0 rfl rfl <| rs_v (v_load one_p_keyspan_boundKey rfl (by exact hit 0 _ rfl)) rfl ?_
    refine rC rfl rfl <| rF fa_keyspan_boundKey_1 rfl rfl <| rs_v (v_load one_sl_uint8 rfl (by exact hkey)) rfl ?_
    refine rC rfl rfl <| rF fa_keyspan_MergingIter_1 rfl rfl <| rs_w0 (w_store siz_sl_uint8 rfl rfl rfl rfl H.mb.b2 (by rw [H.mb.len]; omega)) ?_
    rintro _ h6 ⟨B9, K6⟩
    have KP := KeepP.newX KP K6 (fun y hy => .inl (hbad y (C.kmi y hy).1))
    have H := H.hdr (hd' := hdC bf (.slice (some a5) n5 c5) en (.iface 188 (visF sb)) s0 s1 s2 s3 (-1)) (by rw [mi_putH (show (2 : Nat) ≤ 10 by omega)] at B9; exact B9) rfl K6
    have O := O.keep K6 C.kmi
    have hit := (H.hs hq1).item (i := 0) (x := x) rfl
    have hlv := H.mb.lev (H.lv x v hv).1
    have hkey : cellH h6 mi (10 + x * 4 + 1 + 1) = some (.slice (some a5) n5 c5) := by rw [← ek5]; exact hlv 2 _ rfl
    have hkb : RBytes A h6 (.slice (some a5) n5 c5) (bkW v.W (rs1 x)) := by rw [← ek5]; exact bk_key (H.sv v (List.mem_of_getElem? hv)).1 _
    refine rN ?_
    refine tr_cut (fun E h' => ∃ st2 bv2, E = [(0, .pointer (some ⟨mi, 0, none⟩)), (1, kv0), (4, .pointer none)] ∧ MXt A bf mi sb vs snap (fun b => F b ∨ h.size ≤ b) rs1 true (-1) (x :: q2) st2 en bv2 h' ∧ RBytes (fun b => A b ∨ b ∈ bv2.ownBlock.toList) h' st2 (bkW v.W (rs1 x)) ∧ NN st2 ∧ KeepP F h h') ?_ ?_
    ·
      refine rG <| rM rfl rfl <| rC rfl rfl <| rF fa_keyspan_MergingIter_0 rfl rfl <| rs_v (v_load one_p_keyspan_MergingBuffers rfl (by exact H.mb.b2.cell 0 rfl)) rfl ?_
      refine rC rfl rfl <| rF fa_keyspan_MergingBuffers_2 rfl rfl <| rF fa_keyspan_mergingIterHeap_2 rfl rfl <| rs_v (v_load one_sl_keyspan_mergingIterItem rfl (by exact H.b1.cell 4 rfl)) rfl ?_
      refine rs_v (v_indexAddrE (i := 0) u_sl_keyspan_mergingIterItem siz_keyspan_mergingIterItem rfl rfl rfl (Nat.succ_pos _)) rfl ?_
      refine rF fa_keyspan_mergingIterItem_0 rfl rfl <| rs_v (v_load one_p_keyspan_boundKey rfl (by exact hit 0 _ rfl)) rfl ?_
      refine rC rfl rfl <| rF fa_keyspan_boundKey_0 rfl rfl <| rs_v (v_load one_keyspan_boundKind rfl (by exact hlv 1 _ rfl)) rfl ?_
      refine rs_v (v_eq rfl rfl) rfl ?_
      refine rN ?_
      refine tr_if rfl (fun hif => ?_) (fun hif => ?_)
      · -- yes
        have hkd : (v.at (rs1 x)).kind = 2 := of_decide_eq_true hif
        obtain ⟨ab, cb, rfl⟩ := O.b.slice
        have O0 := O
        refine tr_seq ?_
        have hmiX : mi ∉ (.slice ab lb1.length cb : Value).ownBlock.toList := fun hx => O.b.2 _ hx (.inr (.inr (.inl rfl)))
        have hbfX : bf ∉ (.slice ab lb1.length cb : Value).ownBlock.toList := fun hx => O.b.2 _ hx (.inr (.inl rfl))
        refine tr_draw [(true, 17), (false, 3)] _ (by kernel_rfl) (by kernel_rfl) (by kernel_rfl) ?_
        refine rx_big (Keep []) (Keep (.slice ab lb1.length cb : Value).ownBlock.toList) (keep_pre _) (keep_pre _) (fun _ _ k => k.any) ?_
        refine rb_v (keep_pre _) (fun h' hk => v_move rfl) ?_
        refine rb_v (keep_pre _) (fun h' hk => v_nilCheck_ptr rfl) ?_
        refine rb_v (keep_pre _) (fun h' hk => v_fieldAddr fa_keyspan_MergingIter_0 rfl) ?_
        refine rb_v (keep_pre _) (fun h' hk => v_load one_p_keyspan_MergingBuffers rfl (Blk.cell (hk.blk hmiX H.mb.b2) 0 rfl)) ?_
        refine rb_v (keep_pre _) (fun h' hk => v_move rfl) ?_
        refine rb_v (keep_pre _) (fun h' hk => v_nilCheck_ptr rfl) ?_
        refine rb_v (keep_pre _) (fun h' hk => v_fieldAddr fa_keyspan_MergingIter_0 rfl) ?_
        refine rb_v (keep_pre _) (fun h' hk => v_load one_p_keyspan_MergingBuffers rfl (Blk.cell (hk.blk hmiX H.mb.b2) 0 rfl)) ?_
        refine rb_v (keep_pre _) (fun h' hk => v_nilCheck_ptr rfl) ?_
        refine rb_v (keep_pre _) (fun h' hk => v_fieldAddr fa_keyspan_MergingBuffers_3 rfl) ?_
        refine rb_v (keep_pre _) (fun h' hk => v_load one_sl_uint8 rfl (Blk.cell (hk.blk hbfX H.b1) 5 rfl)) ?_
        refine rb_v (keep_pre _) (fun h' hk => v_slice_h u_sl_uint8 siz_uint8 (i := 0) rfl rfl rfl (Nat.zero_le _)) ?_
        refine rb_v (keep_pre _) (fun h' hk => v_move rfl) ?_
        refine rb_v (keep_pre _) (fun h' hk => v_nilCheck_ptr rfl) ?_
        refine rb_v (keep_pre _) (fun h' hk => v_fieldAddr fa_keyspan_MergingIter_1 rfl) ?_
        refine rb_v (keep_pre _) (fun h' hk => v_load one_sl_uint8 rfl (Blk.cell (hk.blk hmiX H.mb.b2) 1 rfl)) ?_
        refine rb_big (fun v' h' => BW (badB A bf mi sb vs) v' (bkW v.W (rs1 x)).data.toList h' ∧ (v'.ownBlock = (.slice ab lb1.length cb : Value).ownBlock ∨ ∃ z, v'.ownBlock = some z ∧ h6.size ≤ z)) (fun v _ _ k1 k2 hr => ⟨hr.1.keep k2 (by simp), hr.2⟩)
          (fun h' hk => OpW.mono (w_appBW rfl rfl (O.b.cut.keep hk (by simp)) (hkb.stab (hk.st H.low)) hlen (fun y hy => Nat.lt_of_lt_of_le (H.bad_lt O.s.lt y hy) hk.1)) (fun v h'' hv => ⟨by rw [own_block0 (m2 := lb1.length) (c2 := cb)] at hv; exact hv.2.1, hv.1, by
            rw [own_block0 (m2 := lb1.length) (c2 := cb)] at hv
            exact hv.2.2.imp id (fun e => ⟨_, e, hk.1⟩)⟩)) ?_
        refine rb_end ?_; intro ha Ka; simp only [endM, hypF, ofE, argE, List.nil_append]
        rintro v57 ⟨H3, he⟩
        obtain ⟨ab2, cb2, rfl⟩ := H3.slice
        have H := H.keep Ka (fun y hy => ⟨fun e => O.b.2 y hy (.inl e), fun e => O.b.2 y hy (.inr (.inl e)), fun e => O.b.2 y hy (.inr (.inr (.inl e))), fun v hv e => O.b.2 y hy (.inr (.inr (.inr (.inr ⟨v, hv, e⟩))))⟩)
        have O := O.app C Ka H3 (fun y hy => by
          rcases he with e | ⟨z, e, hz⟩
          · rw [e] at hy; exact .inl hy
          · rw [e] at hy; simp at hy; exact .inr (by omega)) (fun y hy => .inr (by have := KP.1; omega))
        have KP := KeepP.newX KP Ka (fun y hy => O0.ob y hy)
        refine rx_seq ?_
        refine rC rfl rfl <| rF fa_keyspan_MergingBuffers_3 rfl rfl <| rs_w0 (w_put siz_sl_uint8 rfl rfl rfl rfl H.b1 rfl) ?_
        rintro _ h7 ⟨B, K9⟩
        have KP := KeepP.newX KP K9 (fun y hy => .inl (hbad y (C.kbf y hy).1))
        have H := H.both (q' := x :: q2) (tl' := tl1) (kv' := kv1) (rev' := true) B (K9.blk (by simpa using fun e => H.ne e.symm) H.mb.b2) H.mb.hdl H.mb.ql (K9.sub (by simp))
        have O := O.keep K9 C.kbf
        refine rs_nil ?_
        refine q_con ?_
        refine rx_nil ?_
        refine q_thn ?_
        refine tr_reg ?_
        refine rM rfl rfl <| rM rfl rfl <| rC rfl rfl <| rF fa_keyspan_MergingIter_0 rfl rfl <| rs_v (v_load one_p_keyspan_MergingBuffers rfl (by exact H.mb.b2.cell 0 rfl)) rfl ?_
        refine rC rfl rfl <| rF fa_keyspan_MergingBuffers_3 rfl rfl <| rs_v (v_load one_sl_uint8 rfl (by exact H.b1.cell 5 rfl)) rfl ?_
        refine rC rfl rfl <| rF fa_keyspan_MergingIter_1 rfl rfl <| rs_w0 (w_store siz_sl_uint8 rfl rfl rfl rfl H.mb.b2 (by rw [H.mb.len]; omega)) ?_
        rintro _ h8 ⟨B9, K8⟩
        have KP := KeepP.newX KP K8 (fun y hy => .inl (hbad y (C.kmi y hy).1))
        have H := H.hdr (hd' := hdC bf (.slice ab2 (bkW v.W (rs1 x)).data.toList.length cb2) en (.iface 188 (visF sb)) s0 s1 s2 s3 (-1)) (by rw [mi_putH (show (2 : Nat) ≤ 10 by omega)] at B9; exact B9) rfl K8
        have O := O.keep K8 C.kmi
        have hst9 : RBytes (fun b => A b ∨ b ∈ (.slice ab2 (bkW v.W (rs1 x)).data.toList.length cb2 : Value).ownBlock.toList) h8 (.slice ab2 (bkW v.W (rs1 x)).data.toList.length cb2) (bkW v.W (rs1 x)) := O.b.bytes (by omega) (fun y hy => .inr hy)
        refine rs_nil ?_
        exact q_cut [(0, _), (1, _), (4, _)] ⟨rfl, rfl, rfl, trivial⟩ ⟨_, _, rfl, ⟨_, _, _, _, _, _, _, _, _, H, O⟩, hst9, (end_pos (C.ord v hvm) hok hkd hst9), KP⟩
      -- no
      skip
      refine tr_skip ?_
      exact q_cut [(0, _), (1, _), (4, _)] ⟨rfl, rfl, rfl, trivial⟩ ⟨_, _, rfl, ⟨_, _, _, _, _, _, _, _, _, H, O⟩, hkb.mono (fun b hb => .inl hb), ⟨_, _, _, rfl⟩, KP⟩
    rintro E h98 ⟨st2, bv2, rfl, X, hst, hstn, KP⟩
    obtain ⟨s0, s1, s2, s3, kv2, L2, tl2, lk2, lb2, H, O⟩ := X
    obtain ⟨a7, n7, c7, rfl⟩ := hstn
    refine rG <| rM rfl rfl <| rs_w (w_call (vs := [_]) ok_keyspan_MergingIter_switchToMinHeap rfl ⟨rfl, trivial⟩ (c_switchToMinHeap H hrb)) rfl ?_
    rintro _ h10 ⟨rfl, L3, q4, tl3, H', hp4, hH4, K10⟩
    have hst := st_keep H O hst K10 C.kall H.nAall
    have H := H'
    have KP := KeepP.newX KP K10 (fun y hy => .inl (hbad y (C.kall y hy).1))
    have O := O.keep K10 C.kall
    have hq4 := q_lt hp4
    generalize hrs4e : (fun j => rs1 j + 1) = rs4 at H hp4 hH4
    have hrs4 : ∀ (i : Nat) W, (wsO vs)[i]? = some W → rs4 i = tS W key + 1 := fun i W hW => by
      have h1 := hrs1 i W hW
      rw [← hrs4e]
      show rs1 i + 1 = _
      omega
    have hkyb := hkey0.stab (fun b hb => KP.2 b hb.2 hb.1)
    refine rN ?_
    refine tr_seq ?_
    refine rG <| rM rfl rfl <| rC rfl rfl <| rF fa_keyspan_MergingIter_5 rfl rfl <| rs_v (v_load one_error rfl (by exact H.mb.b2.cell 8 rfl)) rfl ?_
    refine rs_v (v_ine_nil isi_error rfl rfl) rfl ?_
    refine rN <| tr_if_f rfl ?_
    refine rG <| rM rfl rfl <| rC rfl rfl <| rF fa_keyspan_MergingIter_0 rfl rfl <| rs_v (v_load one_p_keyspan_MergingBuffers rfl (by exact H.mb.b2.cell 0 rfl)) rfl ?_
    refine rC rfl rfl <| rF fa_keyspan_MergingBuffers_2 rfl rfl <| rF fa_keyspan_mergingIterHeap_2 rfl rfl <| rs_v (v_load one_sl_keyspan_mergingIterItem rfl (by exact H.b1.cell 4 rfl)) rfl ?_
    refine rs_v (v_len u_sl_keyspan_mergingIterItem rfl) rfl ?_
    refine rs_v (v_eq rfl rfl) rfl ?_
    refine rN ?_
    refine tr_if rfl (fun hif => ?_) (fun hif => ?_)
    · -- yes
      have hq0 : q4 = [] := List.eq_nil_of_length_eq_zero (by have := of_decide_eq_true hif; omega)
      subst hq0
      have hts0 : ∀ (i : Nat) W, (wsO vs)[i]? = some W → tS W key = 2 * W.length := fun i W hW => by
        have h1 := q_none hp4 rfl i W hW
        rw [hrs4 i W hW] at h1
        have := tS_le W key; omega
      refine rG <| rA rfl rfl <| rN <| tr_ret <| q_thn_ret <| q_ret (res_tmp rfl rfl) ?_
      rw [pGE_all C.hB hts0]
      exact mpost_behind hbad hl KP ⟨_, _, _, _, _, _, _, _, _, H, O⟩ hp4 hH4 (fun i W hW => by rw [hrs4 i W hW, hts0 i W hW]) rfl
    -- no
    obtain ⟨y, q5, rfl⟩ : ∃ y q5, q4 = y :: q5 := by
      cases q4 with
      | nil => exact absurd rfl (of_decide_eq_false hif)
      | cons a b => exact ⟨a, b, rfl⟩
    obtain ⟨w, hw, how⟩ := root_ok hp4
    obtain ⟨a6, n6, c6, ek6⟩ := at_nn (H.sv w (List.mem_of_getElem? hw)).1 how
    have hit6 := (H.hs hq4).item (i := 0) (x := y) rfl
    have hlv6 := H.mb.lev (H.lv y w hw).1
    have hkey6 : cellH h10 mi (10 + y * 4 + 1 + 1) = some (.slice (some a6) n6 c6) := by rw [← ek6]; exact hlv6 2 _ rfl
    have hkb6 : RBytes A h10 (.slice (some a6) n6 c6) (bkW w.W (rs4 y)) := by rw [← ek6]; exact bk_key (H.sv w (List.mem_of_getElem? hw)).1 _
    refine tr_skip ?_
    refine q_thn ?_
    refine tr_seq ?_
    refine tr_cut (fun E h' => h10 = h' ∧ ∃ b : Bool, E = [(0, .pointer (some ⟨mi, 0, none⟩)), (1, kv0), (4, .pointer none), (204, .bool b)] ∧ (b = true → ((w.at (rs4 y)).kind = 1 ∧ bkW w.W (rs4 y) = key)) ∧ (b = false → ¬ ((w.at (rs4 y)).kind = 1 ∧ bkW w.W (rs4 y) = key))) ?_ ?_
    ·
      rcases Bool.eq_false_or_eq_true (decide ((w.at (rs4 y)).kind = 1)) with g1 | g1
      · skip
        refine tr_reg ?_
        refine rM rfl rfl <| rC rfl rfl <| rF fa_keyspan_MergingIter_0 rfl rfl <| rs_v (v_load one_p_keyspan_MergingBuffers rfl (by exact H.mb.b2.cell 0 rfl)) rfl ?_
        refine rC rfl rfl <| rF fa_keyspan_MergingBuffers_2 rfl rfl <| rF fa_keyspan_mergingIterHeap_2 rfl rfl <| rs_v (v_load one_sl_keyspan_mergingIterItem rfl (by exact H.b1.cell 4 rfl)) rfl ?_
        refine rs_v (v_indexAddrE (i := 0) u_sl_keyspan_mergingIterItem siz_keyspan_mergingIterItem rfl rfl rfl (Nat.succ_pos _)) rfl ?_
        refine rF fa_keyspan_mergingIterItem_0 rfl rfl <| rs_v (v_load one_p_keyspan_boundKey rfl (by exact hit6 0 _ rfl)) rfl ?_
        refine rC rfl rfl <| rF fa_keyspan_boundKey_0 rfl rfl <| rs_v (v_load one_keyspan_boundKind rfl (by exact hlv6 1 _ rfl)) rfl ?_
        refine rs_v (v_eq rfl rfl) rfl ?_
        refine rM rfl rfl <| rs_gv rfl (lkb g1) (v_move rfl) rfl <| rs_gv rfl (lkb g1) (v_move rfl) rfl <| rs_gv rfl (lkb g1) (v_nilCheck_ptr rfl) rfl ?_
        refine rs_gv rfl (lkb g1) (v_fieldAddr fa_keyspan_MergingIter_0 rfl) rfl ?_
        refine rs_gv rfl (lkb g1) (v_load one_p_keyspan_MergingBuffers rfl (by exact H.mb.b2.cell 0 rfl)) rfl ?_
        refine rs_gv rfl (lkb g1) (v_nilCheck_ptr rfl) rfl ?_
        refine rs_gv rfl (lkb g1) (v_fieldAddr fa_keyspan_MergingBuffers_2 rfl) rfl ?_
        refine rs_gv rfl (lkb g1) (v_fieldAddr fa_keyspan_mergingIterHeap_2 rfl) rfl ?_
        refine rs_gv rfl (lkb g1) (v_load one_sl_keyspan_mergingIterItem rfl (by exact H.b1.cell 4 rfl)) rfl ?_
        refine rs_gv rfl (lkb g1) (v_indexAddrE (i := 0) u_sl_keyspan_mergingIterItem siz_keyspan_mergingIterItem rfl rfl rfl (Nat.succ_pos _)) rfl ?_
        refine rs_gv rfl (lkb g1) (v_fieldAddr fa_keyspan_mergingIterItem_0 rfl) rfl ?_
        refine rs_gv rfl (lkb g1) (v_load one_p_keyspan_boundKey rfl (by exact hit6 0 _ rfl)) rfl ?_
        refine rs_gv rfl (lkb g1) (v_nilCheck_ptr rfl) rfl ?_
        refine rs_gv rfl (lkb g1) (v_fieldAddr fa_keyspan_boundKey_1 rfl) rfl ?_
        refine rs_gv rfl (lkb g1) (v_load one_sl_uint8 rfl (by exact hkey6)) rfl ?_
        refine rs_gv rfl (lkb g1) (v_move rfl) rfl ?_
        refine rs_gw rfl (lkb g1) (w_call (vs := [_, _, _]) ok_keyspan_MergingIter_cmp rfl ⟨rfl, rfl, rfl, trivial⟩ (c_mcmp H (RBytes.by hkb6) (RBytes.by hkyb))) rfl ?_
        rintro _ h11 ⟨rfl, hsame⟩; have hsame := hsame.symm; subst hsame
        refine rs_gv rfl (lkb g1) (v_eq rfl rfl) rfl ?_
        refine rs_v (v_pick_t (lkb g1) rfl) rfl ?_
        refine rs_nil ?_
        exact q_cut [(0, _), (1, _), (4, _), (204, _)] ⟨rfl, rfl, rfl, rfl, trivial⟩ ⟨rfl, _, rfl, fun e => ⟨of_decide_eq_true g1, cmpB_eq (of_decide_eq_true e)⟩, fun e e2 => of_decide_eq_false e (by rw [e2.2]; exact cmpB_refl _)⟩
      · skip
        refine tr_reg ?_
        refine rM rfl rfl <| rC rfl rfl <| rF fa_keyspan_MergingIter_0 rfl rfl <| rs_v (v_load one_p_keyspan_MergingBuffers rfl (by exact H.mb.b2.cell 0 rfl)) rfl ?_
        refine rC rfl rfl <| rF fa_keyspan_MergingBuffers_2 rfl rfl <| rF fa_keyspan_mergingIterHeap_2 rfl rfl <| rs_v (v_load one_sl_keyspan_mergingIterItem rfl (by exact H.b1.cell 4 rfl)) rfl ?_
        refine rs_v (v_indexAddrE (i := 0) u_sl_keyspan_mergingIterItem siz_keyspan_mergingIterItem rfl rfl rfl (Nat.succ_pos _)) rfl ?_
        refine rF fa_keyspan_mergingIterItem_0 rfl rfl <| rs_v (v_load one_p_keyspan_boundKey rfl (by exact hit6 0 _ rfl)) rfl ?_
        refine rC rfl rfl <| rF fa_keyspan_boundKey_0 rfl rfl <| rs_v (v_load one_keyspan_boundKind rfl (by exact hlv6 1 _ rfl)) rfl ?_
        refine rs_v (v_eq rfl rfl) rfl ?_
        refine rM rfl rfl <| rs_gs rfl (lkb g1) rfl rfl <| rs_gs rfl (lkb g1) rfl rfl <| rs_gs rfl (lkb g1) rfl rfl <| rs_gs rfl (lkb g1) rfl rfl <| rs_gs rfl (lkb g1) rfl rfl <| rs_gs rfl (lkb g1) rfl rfl <| rs_gs rfl (lkb g1) rfl rfl <| rs_gs rfl (lkb g1) rfl rfl <| rs_gs rfl (lkb g1) rfl rfl <| rs_gs rfl (lkb g1) rfl rfl <| rs_gs rfl (lkb g1) rfl rfl <| rs_gs rfl (lkb g1) rfl rfl <| rs_gs rfl (lkb g1) rfl rfl <| rs_gs rfl (lkb g1) rfl rfl <| rs_gs rfl (lkb g1) rfl rfl <| rs_gs rfl (lkb g1) rfl rfl <| rs_gs rfl (lkb g1) rfl rfl <| rs_gs rfl (lkb g1) rfl rfl <| rs_v (v_pick_f (lkb g1) rfl) rfl ?_
        refine rs_nil ?_
        exact q_cut [(0, _), (1, _), (4, _), (204, _)] ⟨rfl, rfl, rfl, rfl, trivial⟩ ⟨rfl, _, rfl, fun e => (by cases e), fun _ e2 => of_decide_eq_false g1 e2.1⟩
    rintro E h94 ⟨hh, b, rfl, hb1, hb0⟩
    subst hh
    refine tr_if rfl (fun hif => ?_) (fun hif => ?_)
    · -- yes
      have hyes := hb1 hif
      obtain ⟨k, hkl, hFN, hpe⟩ := seek_yesE (kf := kfM vs snap) C.hB hw how hrs4 hyes.2
      refine rG <| rM rfl rfl <| rs_w (w_call (vs := [_]) ok_keyspan_MergingIter_findNextFragmentSet rfl ⟨rfl, trivial⟩ (c_findNextFragmentSet (F := FU F h _) C (fun b hb => .inl (hbad b hb)) (fu_low hl KP) (MXt.fu ⟨_, _, _, _, _, _, _, _, _, H, O⟩) hp4 hH4 hkl hFN)) rfl ?_
      rintro r h13 hP
      refine rA rfl rfl <| rN <| tr_ret <| q_thn_ret <| q_ret (res_tmp rfl rfl) ?_
      rw [hpe]
      exact mpost_trans hl KP (fun b hb => hb) hP
    -- no
    have hall := seek_noE C.ord hp4 hH4 hw hrs4 (hb0 hif)
    obtain ⟨k, hc⟩ := cut_at C.hB (down_le key)
    have hFN : FNk (wsO vs) B k rs4 := fn_cut C.hB (down_le key) hc (fun i W hW => by rw [hrs4 i W hW, hall i W hW]; rfl)
    have hFP : FPk (wsO vs) B k rs1 := fp_cut C.hB (down_le key) hc (fun i W hW => by rw [hrs1 i W hW, hall i W hW]; rfl)
    obtain ⟨hkB2, hκ2⟩ := fn_root' C.hB hFN hp4 hH4 hw
    obtain ⟨hk0, hκ1⟩ := fp_root' C.hB hFP hp hH hv
    obtain ⟨j, rfl⟩ : ∃ j, k = j + 1 := ⟨k - 1, by omega⟩
    rw [Nat.add_sub_cancel] at hκ1
    rw [hκ1] at hst
    have hdone : ∀ (i : Nat) W, (wsO vs)[i]? = some W → rs4 i = cE W (atB B j) + 1 := fun i W hW => by
      rw [hrs4 i W hW, hall i W hW]
      exact congrArg (· + 1) (cut_cE C.hB (down_le key) (List.mem_of_getElem? hW) hc)
    refine tr_skip ?_
    refine q_thn ?_
    refine rG <| rM rfl rfl <| rM rfl rfl <| rC rfl rfl <| rF fa_keyspan_MergingIter_0 rfl rfl <| rs_v (v_load one_p_keyspan_MergingBuffers rfl (by exact H.mb.b2.cell 0 rfl)) rfl ?_
    refine rC rfl rfl <| rF fa_keyspan_MergingBuffers_2 rfl rfl <| rF fa_keyspan_mergingIterHeap_2 rfl rfl <| rs_v (v_load one_sl_keyspan_mergingIterItem rfl (by exact H.b1.cell 4 rfl)) rfl ?_
    refine rs_v (v_indexAddrE (i := 0) u_sl_keyspan_mergingIterItem siz_keyspan_mergingIterItem rfl rfl rfl (Nat.succ_pos _)) rfl ?_
    refine rF fa_keyspan_mergingIterItem_0 rfl rfl <| rs_v (v_load one_p_keyspan_boundKey rfl (by exact hit6 0 _ rfl)) rfl ?_
    refine rC rfl rfl <| rF fa_keyspan_boundKey_1 rfl rfl <| rs_v (v_load one_sl_uint8 rfl (by exact hkey6)) rfl ?_
    refine rC rfl rfl <| rF fa_keyspan_MergingIter_2 rfl rfl <| rs_w0 (w_store siz_sl_uint8 rfl rfl rfl rfl H.mb.b2 (by rw [H.mb.len]; omega)) ?_
    rintro _ h14 ⟨B9, K14⟩
    have KP := KeepP.newX KP K14 (fun y hy => .inl (hbad y (C.kmi y hy).1))
    have hst := st_keep H O hst K14 C.kmi H.nAm
    have H := H.hdr (hd' := hdC bf (.slice (some a7) n7 c7) (.slice (some a6) n6 c6) (.iface 188 (visF sb)) s0 s1 s2 s3 1) (by rw [mi_putH (show (3 : Nat) ≤ 10 by omega)] at B9; exact B9) rfl K14
    have O := O.keep K14 C.kmi
    have hit6 := (H.hs hq4).item (i := 0) (x := y) rfl
    have hlv6 := H.mb.lev (H.lv y w hw).1
    have hkey6 : cellH h14 mi (10 + y * 4 + 1 + 1) = some (.slice (some a6) n6 c6) := by rw [← ek6]; exact hlv6 2 _ rfl
    have hkb6 : RBytes A h14 (.slice (some a6) n6 c6) (bkW w.W (rs4 y)) := by rw [← ek6]; exact bk_key (H.sv w (List.mem_of_getElem? hw)).1 _
    obtain ⟨ak, ck, rfl⟩ := O.k.slice
    refine rN ?_
    refine tr_seq ?_
    refine rG <| rM rfl rfl <| rs_w (w_call (vs := [_, _]) ok_keyspan_MergingIter_synthesizeKeys rfl ⟨rfl, rfl, trivial⟩ (c_synthP H O.k O.s C.nb C.nm C.kl2 (C.kr2))) rfl ?_
    rintro _ h15 ⟨rfl, ka, kc, nd, l8, H8, HK8, hl8, htk, hnd8, hown, BS8, K15⟩
    have O0 := O
    have hX8 : ∀ y, y ∈ mi :: bf :: (.slice ak lk2.length ck : Value).ownBlock.toList → ¬ A y ∧ y ∉ bv2.ownBlock.toList := fun y hy => syn_out H O y hy
    have hst := st_keep0 H O hst K15 hX8
    have hkb8 := hkb6.stab (K15.stab fun y hy => ⟨H.low y hy, fun hm => (hX8 y hm).1 hy⟩)
    have hcat := cat_P hdone
    rw [hcat.1] at htk hnd8
    have hrb : ∀ y, y ∈ (sortKT (catX vs (atB B j))).filter (fun y => visK snap y.k) → RBytes A h15 (.slice y.a1 y.n1 y.c1) y.k.suf ∧ RBytes A h15 (.slice y.a2 y.n2 y.c2) y.k.val := fun y hy => catK_rb (D := 2) H8 (by decide) (by rw [hcat.1]; exact (sortKT_perm _).mem_iff.1 (List.mem_filter.1 hy).1)
    have O := O.syn C (fun y hy => .inr (by have := KP.1; omega)) HK8 hl8 hown BS8 K15
    have KP := KeepP.newX KP K15 (syn_kp hbad O0)
    have H := H8
    have hspan : PSpan (FU F h h15) h15 mi 4 ⟨atB B j, atB B (j + 1), kfM vs snap (atB B j)⟩ := by
      have hF9 : ∀ b, A b → FU F h h15 b := fun b hb => .inl (hbad b (.inl hb))
      have hst9 : ∀ b, A b ∨ b ∈ bv2.ownBlock.toList → FU F h h15 b := fun b hb => hb.elim (hF9 b) (fun e => (O.ob b e).imp id (fun e2 => ⟨e2, own_lt O.b.1 b e⟩))
      refine ⟨_, _, _, 0, H.mb.b2.sub 4 4 rfl, hst.mono hst9, ?_, ?_⟩
      · have := hkb8.mono hF9; rw [hκ2] at this; exact this
      · exact pkeys_of HK8 htk hnd8 hl8 hF9 (fun y hy => (O.ok y hy).imp id (fun e2 => ⟨e2, HK8.lt y hy⟩)) hrb
    refine rM rfl rfl <| rs_v (v_extract rfl rfl) rfl ?_
    refine rs_v (v_extract rfl rfl) rfl ?_
    refine rA rfl rfl <| rA rfl rfl <| rN ?_
    refine tr_cut (fun E h' => h15 = h' ∧ ∃ b : Bool, E = [(0, .pointer (some ⟨mi, 0, none⟩)), (1, kv0), (4, .pointer none), (9, .pointer (some ⟨mi, 4, none⟩)), (233, .bool b)] ∧ b = covB (wsO vs) (atB B j)) ?_ ?_
    ·
      rcases Bool.eq_false_or_eq_true (anyK 2 vs rs4 vs.length) with g1 | g1
      · skip
        refine tr_reg ?_
        refine rM rfl rfl <| rM rfl rfl <| rs_gv rfl (lkb g1) (v_move rfl) rfl <| rs_gv rfl (lkb g1) (v_pne u_p_keyspan_Span rfl rfl) rfl ?_
        refine rs_v (v_pick_t (lkb g1) rfl) rfl ?_
        refine rs_nil ?_
        exact q_cut [(0, _), (1, _), (4, _), (9, _), (233, _)] ⟨rfl, rfl, rfl, rfl, rfl, trivial⟩ ⟨rfl, _, rfl, by rw [← hcat.2, g1]; rfl⟩
      · skip
        refine tr_reg ?_
        refine rM rfl rfl <| rM rfl rfl <| rs_gs rfl (lkb g1) rfl rfl <| rs_gs rfl (lkb g1) rfl rfl <| rs_v (v_pick_f (lkb g1) rfl) rfl ?_
        refine rs_nil ?_
        exact q_cut [(0, _), (1, _), (4, _), (9, _), (233, _)] ⟨rfl, rfl, rfl, rfl, rfl, trivial⟩ ⟨rfl, _, rfl, by rw [← hcat.2, g1]⟩
    rintro E h95 ⟨hh, b, rfl, hcv⟩
    subst hh
    refine tr_if rfl (fun hif => ?_) (fun hif => ?_)
    · -- yes
      skip
      refine rG <| rM rfl rfl <| rA rfl rfl <| rN <| tr_ret <| q_thn_ret <| q_ret (res_tmp rfl rfl) ?_
      have hcov : covB (wsO vs) (atB B j) = true := by rw [← hcv]; exact hif
      exact mpost_pt hbad hl KP ⟨_, _, _, _, _, _, _, _, _, H, O⟩ hp4 hH4 ⟨hkB2, ⟨_, _, _, rfl⟩, ⟨_, _, _, rfl⟩, .inl ⟨rfl, rfl, hdone⟩⟩ (by rw [pGE_cut hc, Nat.add_sub_cancel]; exact (fwdF_yes hkB2 hcov).2) hspan
    -- no
    have hcov : covB (wsO vs) (atB B j) = false := by rw [← hcv]; exact hif
    refine tr_skip ?_
    refine q_thn ?_
    refine rG <| rM rfl rfl <| rs_w (w_call (vs := [_]) ok_keyspan_MergingIter_findNextFragmentSet rfl ⟨rfl, trivial⟩ (c_findNextFragmentSet (F := FU F h _) C (fun b hb => .inl (hbad b hb)) (fu_low hl KP) (MXt.fu ⟨_, _, _, _, _, _, _, _, _, H, O⟩) hp4 hH4 (by omega) hFN)) rfl ?_
    rintro r h17 hP
    refine rA rfl rfl <| rN <| tr_ret <| q_ret (res_tmp rfl rfl) ?_
    rw [pGE_cut hc, Nat.add_sub_cancel]
    rw [fwdF_no hkB2 hcov]
    exact mpost_trans hl KP (fun b hb => hb) hP
  -- yes
  simp only [dT, dF] at hif
  obtain ⟨v, hv⟩ := ex_get (L := vs) (k := k) (by omega)
  obtain ⟨hlx, hI, hrx⟩ := H.lv k v hv
  obtain ⟨hS, hne, hnb, hAc, hlt⟩ := H.sv v (List.mem_of_getElem? hv)
  have hlv := H.mb.lev hlx
  have hvl := H.vl
  have hit0 : cellH hL2 mi (10 + k * 4 + 0) = some v.it := by rw [← at_it v _]; exact hlv 0 _ rfl
  have hOv := C.ord v (List.mem_of_getElem? hv)
  have hgl := geI_le v.W key
  have hll := ltI_le v.W key
  have hky := (hkey0.stab (fun b hb => KP.2 b hb.2 hb.1)).mono (fun b hb => show b ≠ v.c from fun e => hb.1 (by rw [e]; exact hbad _ (C.kc hv _ (by simp)).1))
  refine tr_skip ?_
  refine q_thn ?_
  refine tr_seq ?_
  refine tr_block <| rG <| rM rfl rfl <| rA rfl rfl <| rN <| rG <| rM rfl rfl <| rC rfl rfl <| rF fa_keyspan_MergingIter_0 rfl rfl <| rs_v (v_load one_p_keyspan_MergingBuffers rfl (by exact H.mb.b2.cell 0 rfl)) rfl ?_
  refine rC rfl rfl <| rF fa_keyspan_MergingBuffers_1 rfl rfl <| rs_v (v_load one_sl_keyspan_mergingIterLevel rfl (by exact H.b1.cell 1 rfl)) rfl ?_
  refine rM rfl rfl <| rs_v (v_indexAddrE (i := k) u_sl_keyspan_mergingIterLevel siz_keyspan_mergingIterLevel rfl rfl rfl (by omega)) rfl ?_
  refine rA rfl rfl <| rN <| rG <| rM rfl rfl <| rC rfl rfl <| rF fa_keyspan_mergingIterLevel_0 rfl rfl <| rs_v (v_load one_keyspan_FragmentIterator rfl (by exact hit0)) rfl ?_
  refine rM rfl rfl <| rs_w (w_mcall (vs := [_]) (lv_SeekLT hS H.low hAc hI hky) rfl ⟨rfl, trivial⟩) rfl ?_
  rintro r h18 ⟨hr, hI1, hI1b, K18⟩
  have hS1 := hS.stab (H.stab K18 (by simpa using hAc))
  obtain ⟨p, hrp, hpc⟩ := seek_form hS1 (c := ltI v.W key = 0) (ltI v.W key - 1) (fun h0 => by omega)
  rw [hrp] at hr; subst hr
  have M := H.mb.keep K18 (by simpa using fun e => hne e.symm)
  have B1 := K18.blk (by simpa using fun e => hnb e.symm) H.b1
  have Kc := K18
  have KP := KeepP.newX KP K18 (fun y hy => .inl (hbad y (C.kc hv y hy).1))
  have O := O.keep K18 (C.kc hv)
  have hky2 := hkey0.stab (fun b hb => KP.2 b hb.2 hb.1)
  refine rA rfl rfl <| rN <| rG <| rM rfl rfl <| rs_v (v_peq u_p_keyspan_Span rfl rfl) rfl ?_
  refine rN ?_
  refine tr_if rfl (fun hif => ?_) (fun hif => ?_)
  · -- yes
    obtain ⟨rfl, hc0⟩ : p = none ∧ ltI v.W key = 0 := by
      rcases hpc with e | ⟨b, o, x, rfl, _⟩
      · exact e
      · cases hif
    have hts := (tS_lt hOv key).1 hc0
    have hI9 : LevI v (tS v.W key) h18 := by rw [hts]; rw [hc0] at hI1; exact hI1
    refine tr_reg ?_
    refine rM rfl rfl <| rs_v (v_build1 rfl (bld_keyspan_boundKey_0 _)) rfl ?_
    refine rC rfl rfl <| rF fa_keyspan_mergingIterLevel_1 rfl rfl <| rs_w0 (w_store siz_keyspan_boundKey rfl rfl rfl rfl M.b2 (by rw [M.len]; omega)) ?_
    rintro _ h19 ⟨B9, K19⟩
    have M2 := M.setL (it := v.it) hlx (at_it _ _) B9
    have hI2 := hI9.keep K19 (by simpa using hne)
    have KP := KeepP.newX KP K19 (fun y hy => .inl (hbad y (C.kmi y hy).1))
    have O := O.keep K19 C.kmi
    have H := H.step hv (r := tS v.W key) (by rw [hts, Lev.at0 (by unfold Lev.ok; omega)]; exact M2) hI2 (by have := tS_le v.W key; omega) ((Kc.sub (by simp)).trans (K19.sub (by simp)))
    refine rs_nil ?_
    refine q_blk_n ?_
    refine q_thn ?_
    refine tr_reg ?_
    refine rs_v (v_add rfl rfl (by omega) (by omega)) rfl ?_
    refine rM rfl rfl ?_
    refine rs_nil ?_
    refine q_lp (vs.length - (k + 1)) [(0, _), (1, _), (4, _), (19, _), (20, _)] (by omega) ⟨rfl, rfl, rfl, rfl, rfl, trivial⟩ ⟨k + 1, _, by omega, rfl, rfl, H.congr (fun j _ => rK_step (f := (fun W => tS W key)) hv j), O, KP⟩
  -- no
  obtain ⟨b, o, x, rfl, hc0, hx, hsp, hAb, hcs, hr1, hr2⟩ : ∃ b o x, p = some ⟨b, o, none⟩ ∧ ¬ ltI v.W key = 0 ∧ v.W[ltI v.W key - 1]? = some x ∧ v.sp (ltI v.W key - 1) = .pointer (some ⟨b, o, none⟩) ∧ A b ∧ CellsAt h18 b o [v.sv (ltI v.W key - 1), v.ev (ltI v.W key - 1), v.kv (ltI v.W key - 1), .int .i8 0] ∧ RBytes A h18 (v.sv (ltI v.W key - 1)) x.s ∧ RBytes A h18 (v.ev (ltI v.W key - 1)) x.e := by
    rcases hpc with ⟨rfl, _⟩ | e
    · cases hif
    · exact e
  obtain ⟨a9, n9, c9, e9⟩ := (hS.nn _ x hx).1
  obtain ⟨a8, n8, c8, e8⟩ := (hS.nn _ x hx).2
  have hxl := (List.getElem?_eq_some_iff.1 hx).1
  rw [e9, e8] at hcs
  rw [e9] at hr1
  rw [e8] at hr2
  refine rG <| rM rfl rfl <| rM rfl rfl <| rC rfl rfl <| rF fa_keyspan_Span_1 rfl rfl <| rs_v (v_load one_sl_uint8 rfl (by exact hcs 1 _ rfl)) rfl ?_
  refine rM rfl rfl <| rs_w (w_call (vs := [_, _, _]) ok_keyspan_MergingIter_cmp rfl ⟨rfl, rfl, rfl, trivial⟩ (c_mcmp2 M B1 (RBytes.by hr2) (RBytes.by hky2))) rfl ?_
  rintro _ h20 ⟨rfl, hsame⟩; have hsame := hsame.symm; subst hsame
  refine rs_v (v_le rfl rfl) rfl ?_
  refine rN ?_
  refine tr_if rfl (fun hif => ?_) (fun hif => ?_)
  · -- yes
    have hle : sle x.e key = true := sle_iff.2 (of_decide_eq_true hif)
    have hts := (tS_lt hOv key).2 x hc0 hx
    rw [if_pos hle] at hts
    have hI9 : LevI v (tS v.W key) h18 := by rw [hts]; exact hI1
    refine tr_reg ?_
    refine rM rfl rfl <| rM rfl rfl <| rC rfl rfl <| rF fa_keyspan_Span_1 rfl rfl <| rs_v (v_load one_sl_uint8 rfl (by exact hcs 1 _ rfl)) rfl ?_
    refine rM rfl rfl <| rs_v (v_build3 rfl rfl rfl (bld_keyspan_boundKey_0_1_2 _ _ _ _ _)) rfl ?_
    refine rC rfl rfl <| rF fa_keyspan_mergingIterLevel_1 rfl rfl <| rs_w0 (w_store siz_keyspan_boundKey rfl rfl rfl rfl M.b2 (by rw [M.len]; omega)) ?_
    rintro _ h21 ⟨B9, K21⟩
    have M2 := M.setL (it := v.it) hlx (at_it _ _) B9
    have hI2 := hI9.keep K21 (by simpa using hne)
    have KP := KeepP.newX KP K21 (fun y hy => .inl (hbad y (C.kmi y hy).1))
    have O := O.keep K21 C.kmi
    have H := H.step hv (r := tS v.W key) (by rw [hts, show 2 * ltI v.W key = 2 * (ltI v.W key - 1) + 2 from by omega, Lev.at2 hxl, hsp, e8]; exact M2) hI2 (by have := tS_le v.W key; omega) ((Kc.sub (by simp)).trans (K21.sub (by simp)))
    refine rs_nil ?_
    refine q_blk_n ?_
    refine q_thn ?_
    refine tr_reg ?_
    refine rs_v (v_add rfl rfl (by omega) (by omega)) rfl ?_
    refine rM rfl rfl ?_
    refine rs_nil ?_
    refine q_lp (vs.length - (k + 1)) [(0, _), (1, _), (4, _), (19, _), (20, _)] (by omega) ⟨rfl, rfl, rfl, rfl, rfl, trivial⟩ ⟨k + 1, _, by omega, rfl, rfl, H.congr (fun j _ => rK_step (f := (fun W => tS W key)) hv j), O, KP⟩
  -- no
  have hle : sle x.e key = false := sle_no.2 (by have := of_decide_eq_false hif; omega)
  have hts := (tS_lt hOv key).2 x hc0 hx
  rw [if_neg (by rw [hle]; decide)] at hts
  have hI9 : LevI v (tS v.W key) h18 := by rw [hts]; exact hI1b hc0
  refine tr_reg ?_
  refine rM rfl rfl <| rM rfl rfl <| rC rfl rfl <| rF fa_keyspan_Span_0 rfl rfl <| rs_v (v_load one_sl_uint8 rfl (by exact hcs 0 _ rfl)) rfl ?_
  refine rM rfl rfl <| rs_v (v_build3 rfl rfl rfl (bld_keyspan_boundKey_0_1_2 _ _ _ _ _)) rfl ?_
  refine rC rfl rfl <| rF fa_keyspan_mergingIterLevel_1 rfl rfl <| rs_w0 (w_store siz_keyspan_boundKey rfl rfl rfl rfl M.b2 (by rw [M.len]; omega)) ?_
  rintro _ h22 ⟨B9, K22⟩
  have M2 := M.setL (it := v.it) hlx (at_it _ _) B9
  have hI2 := hI9.keep K22 (by simpa using hne)
  have KP := KeepP.newX KP K22 (fun y hy => .inl (hbad y (C.kmi y hy).1))
  have O := O.keep K22 C.kmi
  have H := H.step hv (r := tS v.W key) (by rw [hts, show 2 * ltI v.W key - 1 = 2 * (ltI v.W key - 1) + 1 from by omega, Lev.at1 hxl, hsp, e9]; exact M2) hI2 (by have := tS_le v.W key; omega) ((Kc.sub (by simp)).trans (K22.sub (by simp)))
  refine rs_nil ?_
  refine q_blk_n ?_
  refine q_thn ?_
  refine tr_reg ?_
  refine rs_v (v_add rfl rfl (by omega) (by omega)) rfl ?_
  refine rM rfl rfl ?_
  refine rs_nil ?_
  refine q_lp (vs.length - (k + 1)) [(0, _), (1, _), (4, _), (19, _), (20, _)] (by omega) ⟨rfl, rfl, rfl, rfl, rfl, trivial⟩ ⟨k + 1, _, by omega, rfl, rfl, H.congr (fun j _ => rK_step (f := (fun W => tS W key)) hv j), O, KP⟩
set_option maxHeartbeats 4000000
theorem c_MSeekLT {χ : Chi} {A : Nat → Prop} {bf mi sb : Nat} {vs : List Lev} {snap : Nat} {B : List ByteArray} {F : Nat → Prop} {rs : Nat → Nat} {rev : Bool} {dir : Int} {q : List Nat} {st en bv : Value} {h : Heap} {kv0 : Value} {key : ByteArray} (C : MC A bf mi sb vs B) (hbad : ∀ b, badB A bf mi sb vs b → F b) (hl : Low F h) (X : MXt A bf mi sb vs snap F rs rev dir q st en bv h) (hkey : RBytes (fun b => ¬ F b) h kv0 key) :
    Cl Tryz.prog χ 180 #[.pointer (some ⟨mi, 0, none⟩), kv0] h (MPost A bf mi sb vs snap B F h (bwdP (covF (wsO vs)) (sgM vs snap B) (pLT (sgM vs snap B) key))) := by
  obtain ⟨s0, s1, s2, s3, kv1, L, tl, lk1, lb1, H, O⟩ := X
  have hkey0 := RBytes.lowen hkey
  refine cl_intro Tryz.func180 rfl rfl rfl ?_
  have K : Keep [] h h := Keep.refl _ _
  refine rG <| rA rfl rfl <| rN <| rG <| rM rfl rfl <| rs_w (w_call (vs := [_]) ok_keyspan_MergingIter_invalidate rfl ⟨rfl, trivial⟩ (c_invalidate H)) rfl ?_
  rintro _ h1 ⟨rfl, H, K1⟩
  have KP : KeepP F h h1 := kp_mi C hbad K1
  have O := O.keep K1 C.kmi
  refine rN ?_
  refine tr_seq ?_
  refine rG <| rM rfl rfl <| rC rfl rfl <| rF fa_keyspan_MergingIter_0 rfl rfl <| rs_v (v_load one_p_keyspan_MergingBuffers rfl (by exact H.mb.b2.cell 0 rfl)) rfl ?_
  refine rC rfl rfl <| rF fa_keyspan_MergingBuffers_1 rfl rfl <| rs_v (v_load one_sl_keyspan_mergingIterLevel rfl (by exact H.b1.cell 1 rfl)) rfl ?_
  refine rs_v (v_len u_sl_keyspan_mergingIterLevel rfl) rfl ?_
  refine rM rfl rfl <| rN <| tr_block ?_
  refine tr_loop (fun m E h' => ∃ k L1, k ≤ vs.length ∧ m = vs.length - k ∧ E = [(0, .pointer (some ⟨mi, 0, none⟩)), (1, kv0), (4, .pointer none), (19, .int .i64 (vs.length : Int)), (20, .int .i64 (k : Int))] ∧ MG A bf mi vs (rK (fun W => tS W key + 1) vs rs k) kv1 bv rev (hdC bf st en (.iface 188 (visF sb)) s0 s1 s2 s3 dir) L1 q tl h' ∧ MO A bf mi sb vs snap F kv1 bv lk1 lb1 h' ∧ KeepP F h h') vs.length [(0, _), (1, _), (4, _), (19, _), (20, _)] ⟨rfl, rfl, rfl, rfl, rfl, trivial⟩ ⟨0, L, Nat.zero_le _, rfl, rfl, H.congr (fun j _ => rfl), O, KP⟩ ?_
  rintro m E hL2 ⟨k, L1, hk, rfl, rfl, H, O, KP⟩
  refine rG <| rs_v (v_lt rfl rfl) rfl ?_
  refine rN ?_
  refine tr_seq ?_
  refine tr_ifn rfl (fun hif => ?_) (fun hif => ?_)
  · -- no
    simp only [dT, dF] at hif
    have H := H.congr (rs' := rT (fun W => tS W key + 1) vs) (fun j hj => rK_all (by omega))
    have hrs1 : ∀ (i : Nat) W, (wsO vs)[i]? = some W → rT (fun W => tS W key + 1) vs i = tS W key + 1 := fun i W hW => rT_at hW
    generalize rT (fun W => tS W key + 1) vs = rs1 at H hrs1
    have hrb : ∀ (i : Nat) v, vs[i]? = some v → 1 ≤ rs1 i := fun i v hv => by rw [hrs1 i v.W (wsO_at hv)]; omega
    refine tr_exit <| q_thn_exit ?_
    refine q_lp_exit ?_
    refine q_blk_hit ?_
    refine q_thn ?_
    refine rG <| rM rfl rfl <| rs_w (w_call (vs := [_]) ok_keyspan_MergingIter_initMinHeap rfl ⟨rfl, trivial⟩ (c_initMinHeap H)) rfl ?_
    rintro _ h3 ⟨rfl, q1, tl1, H, hp, hH, K3⟩
    have KP := KeepP.newX KP K3 (fun y hy => .inl (hbad y (C.kmb y hy).1))
    have O := (O.keep K3 C.kmb).ent (F1 := (fun b => F b ∨ h.size ≤ b)) (fun b hb => .inl hb)
    have hq1 := q_lt hp
    refine rN ?_
    refine tr_seq ?_
    refine rG <| rM rfl rfl <| rC rfl rfl <| rF fa_keyspan_MergingIter_5 rfl rfl <| rs_v (v_load one_error rfl (by exact H.mb.b2.cell 8 rfl)) rfl ?_
    refine rs_v (v_ine_nil isi_error rfl rfl) rfl ?_
    refine rN <| tr_if_f rfl ?_
    refine rG <| rM rfl rfl <| rC rfl rfl <| rF fa_keyspan_MergingIter_0 rfl rfl <| rs_v (v_load one_p_keyspan_MergingBuffers rfl (by exact H.mb.b2.cell 0 rfl)) rfl ?_
    refine rC rfl rfl <| rF fa_keyspan_MergingBuffers_2 rfl rfl <| rF fa_keyspan_mergingIterHeap_2 rfl rfl <| rs_v (v_load one_sl_keyspan_mergingIterItem rfl (by exact H.b1.cell 4 rfl)) rfl ?_
    refine rs_v (v_len u_sl_keyspan_mergingIterItem rfl) rfl ?_
    refine rs_v (v_eq rfl rfl) rfl ?_
    refine rN ?_
    refine tr_if rfl (fun hif => ?_) (fun hif => ?_)
    · -- yes
      have hq0 : q1 = [] := List.eq_nil_of_length_eq_zero (by have := of_decide_eq_true hif; omega)
      subst hq0
      have hts0 : ∀ (i : Nat) W, (wsO vs)[i]? = some W → tS W key = 2 * W.length := fun i W hW => by
        have h1 := q_none hp rfl i W hW
        rw [hrs1 i W hW] at h1
        have := tS_le W key; omega
      have hFN : FPk (wsO vs) B B.length (fun j => rs1 j - 1) := fp_cut C.hB (p := fun _ => true) (fun _ _ _ e => e) (cut_all B) (fun i W hW => by show rs1 i - 1 = _; rw [hrs1 i W hW, hts0 i W hW, cut_all_cnt C.hB (p := fun _ => true) (fun _ _ _ e => e) (List.mem_of_getElem? hW) (cut_all B)]; rfl)
      refine rG <| rM rfl rfl <| rs_w (w_call (vs := [_]) ok_keyspan_MergingIter_switchToMaxHeap rfl ⟨rfl, trivial⟩ (c_switchToMaxHeap H hrb)) rfl ?_
      rintro _ h4 ⟨rfl, L3, q3, tl3, H, hp3, hH3, K4⟩
      have KP := KeepP.newX KP K4 (fun y hy => .inl (hbad y (C.kall y hy).1))
      have O := O.keep K4 C.kall
      refine rN <| rG <| rM rfl rfl <| rs_w (w_call (vs := [_]) ok_keyspan_MergingIter_findPrevFragmentSet rfl ⟨rfl, trivial⟩ (c_findPrevFragmentSet (F := FU F h _) C (fun b hb => .inl (hbad b hb)) (fu_low hl KP) (MXt.fu ⟨_, _, _, _, _, _, _, _, _, H, O⟩) hp3 hH3 (Nat.le_refl _) hFN)) rfl ?_
      rintro r h5 hP
      refine rA rfl rfl <| rN <| tr_ret <| q_thn_ret <| q_ret (res_tmp rfl rfl) ?_
      rw [pLT_all C.hB hts0]
      exact mpost_trans hl KP (fun b hb => hb) hP
    -- no
    obtain ⟨x, q2, rfl⟩ : ∃ x q2, q1 = x :: q2 := by
      cases q1 with
      | nil => exact absurd rfl (of_decide_eq_false hif)
      | cons a b => exact ⟨a, b, rfl⟩
    obtain ⟨v, hv, hok⟩ := root_ok hp
    have hvm := List.mem_of_getElem? hv
    obtain ⟨a5, n5, c5, ek5⟩ := at_nn (H.sv v hvm).1 hok
    have hlen : (bkW v.W (rs1 x)).data.toList.length ≤ 100000000000 := C.bl _ (C.hB.mem v.W (rs1 x) (List.mem_of_getElem? (wsO_at hv)) hok.1 hok.2)
    have hit := (H.hs hq1).item (i := 0) (x := x) rfl
    have hlv := H.mb.lev (H.lv x v hv).1
    have hkey : cellH h3 mi (10 + x * 4 + 1 + 1) = some (.slice (some a5) n5 c5) := by rw [← ek5]; exact hlv 2 _ rfl
    have hkb : RBytes A h3 (.slice (some a5) n5 c5) (bkW v.W (rs1 x)) := by rw [← ek5]; exact bk_key (H.sv v (List.mem_of_getElem? hv)).1 _
    refine tr_skip ?_
    refine q_thn ?_
    refine rG <| rM rfl rfl <| rM rfl rfl <| rC rfl rfl <| rF fa_keyspan_MergingIter_0 rfl rfl <| rs_v (v_load one_p_keyspan_MergingBuffers rfl (by exact H.mb.b2.cell 0 rfl)) rfl ?_
    refine rC rfl rfl <| rF fa_keyspan_MergingBuffers_2 rfl rfl <| rF fa_keyspan_mergingIterHeap_2 rfl rfl <| rs_v (v_load one_sl_keyspan_mergingIterItem rfl (by exact H.b1.cell 4 rfl)) rfl ?_
    refine rs_v (v_indexAddrE (i := 0) u_sl_keyspan_mergingIterItem siz_keyspan_mergingIterItem rfl rfl rfl (Nat.succ_pos _)) rfl ?_
    refine rF fa_keyspan_mergingIterItem_0 rfl rfl <| rs_v (v_load one_p_keyspan_boundKey rfl (by exact hit 0 _ rfl)) rfl ?_
    refine rC rfl rfl <| rF fa_keyspan_boundKey_1 rfl rfl <| rs_v (v_load one_sl_uint8 rfl (by exact hkey)) rfl ?_
    refine rC rfl rfl <| rF fa_keyspan_MergingIter_2 rfl rfl <| rs_w0 (w_store siz_sl_uint8 rfl rfl rfl rfl H.mb.b2 (by rw [H.mb.len]; omega)) ?_
    rintro _ h6 ⟨B9, K6⟩
    have KP := KeepP.newX KP K6 (fun y hy => .inl (hbad y (C.kmi y hy).1))
    have H := H.hdr (hd' := hdC bf st (.slice (some a5) n5 c5) (.iface 188 (visF sb)) s0 s1 s2 s3 1) (by rw [mi_putH (show (3 : Nat) ≤ 10 by omega)] at B9; exact B9) rfl K6
    have O := O.keep K6 C.kmi
    have hit := (H.hs hq1).item (i := 0) (x := x) rfl
    have hlv := H.mb.lev (H.lv x v hv).1
    have hkey : cellH h6 mi (10 + x * 4 + 1 + 1) = some (.slice (some a5) n5 c5) := by rw [← ek5]; exact hlv 2 _ rfl
    have hkb : RBytes A h6 (.slice (some a5) n5 c5) (bkW v.W (rs1 x)) := by rw [← ek5]; exact bk_key (H.sv v (List.mem_of_getElem? hv)).1 _
    refine rN ?_
    refine tr_cut (fun E h' => ∃ st2 bv2, E = [(0, .pointer (some ⟨mi, 0, none⟩)), (1, kv0), (4, .pointer none)] ∧ MXt A bf mi sb vs snap (fun b => F b ∨ h.size ≤ b) rs1 false 1 (x :: q2) st st2 bv2 h' ∧ RBytes (fun b => A b ∨ b ∈ bv2.ownBlock.toList) h' st2 (bkW v.W (rs1 x)) ∧ KeepP F h h') ?_ ?_
    ·
      refine rG <| rM rfl rfl <| rC rfl rfl <| rF fa_keyspan_MergingIter_0 rfl rfl <| rs_v (v_load one_p_keyspan_MergingBuffers rfl (by exact H.mb.b2.cell 0 rfl)) rfl ?_
      refine rC rfl rfl <| rF fa_keyspan_MergingBuffers_2 rfl rfl <| rF fa_keyspan_mergingIterHeap_2 rfl rfl <| rs_v (v_load one_sl_keyspan_mergingIterItem rfl (by exact H.b1.cell 4 rfl)) rfl ?_
      refine rs_v (v_indexAddrE (i := 0) u_sl_keyspan_mergingIterItem siz_keyspan_mergingIterItem rfl rfl rfl (Nat.succ_pos _)) rfl ?_
      refine rF fa_keyspan_mergingIterItem_0 rfl rfl <| rs_v (v_load one_p_keyspan_boundKey rfl (by exact hit 0 _ rfl)) rfl ?_
      refine rC rfl rfl <| rF fa_keyspan_boundKey_0 rfl rfl <| rs_v (v_load one_keyspan_boundKind rfl (by exact hlv 1 _ rfl)) rfl ?_
      refine rs_v (v_eq rfl rfl) rfl ?_
      refine rN ?_
      refine tr_if rfl (fun hif => ?_) (fun hif => ?_)
      · -- yes
        have hkd : (v.at (rs1 x)).kind = 1 := of_decide_eq_true hif
        obtain ⟨ab, cb, rfl⟩ := O.b.slice
        have O0 := O
        refine tr_seq ?_
        have hmiX : mi ∉ (.slice ab lb1.length cb : Value).ownBlock.toList := fun hx => O.b.2 _ hx (.inr (.inr (.inl rfl)))
        have hbfX : bf ∉ (.slice ab lb1.length cb : Value).ownBlock.toList := fun hx => O.b.2 _ hx (.inr (.inl rfl))
        refine tr_draw [(true, 17), (false, 3)] _ (by kernel_rfl) (by kernel_rfl) (by kernel_rfl) ?_
        refine rx_big (Keep []) (Keep (.slice ab lb1.length cb : Value).ownBlock.toList) (keep_pre _) (keep_pre _) (fun _ _ k => k.any) ?_
        refine rb_v (keep_pre _) (fun h' hk => v_move rfl) ?_
        refine rb_v (keep_pre _) (fun h' hk => v_nilCheck_ptr rfl) ?_
        refine rb_v (keep_pre _) (fun h' hk => v_fieldAddr fa_keyspan_MergingIter_0 rfl) ?_
        refine rb_v (keep_pre _) (fun h' hk => v_load one_p_keyspan_MergingBuffers rfl (Blk.cell (hk.blk hmiX H.mb.b2) 0 rfl)) ?_
        refine rb_v (keep_pre _) (fun h' hk => v_move rfl) ?_
        refine rb_v (keep_pre _) (fun h' hk => v_nilCheck_ptr rfl) ?_
        refine rb_v (keep_pre _) (fun h' hk => v_fieldAddr fa_keyspan_MergingIter_0 rfl) ?_
        refine rb_v (keep_pre _) (fun h' hk => v_load one_p_keyspan_MergingBuffers rfl (Blk.cell (hk.blk hmiX H.mb.b2) 0 rfl)) ?_
        refine rb_v (keep_pre _) (fun h' hk => v_nilCheck_ptr rfl) ?_
        refine rb_v (keep_pre _) (fun h' hk => v_fieldAddr fa_keyspan_MergingBuffers_3 rfl) ?_
        refine rb_v (keep_pre _) (fun h' hk => v_load one_sl_uint8 rfl (Blk.cell (hk.blk hbfX H.b1) 5 rfl)) ?_
        refine rb_v (keep_pre _) (fun h' hk => v_slice_h u_sl_uint8 siz_uint8 (i := 0) rfl rfl rfl (Nat.zero_le _)) ?_
        refine rb_v (keep_pre _) (fun h' hk => v_move rfl) ?_
        refine rb_v (keep_pre _) (fun h' hk => v_nilCheck_ptr rfl) ?_
        refine rb_v (keep_pre _) (fun h' hk => v_fieldAddr fa_keyspan_MergingIter_2 rfl) ?_
        refine rb_v (keep_pre _) (fun h' hk => v_load one_sl_uint8 rfl (Blk.cell (hk.blk hmiX H.mb.b2) 2 rfl)) ?_
        refine rb_big (fun v' h' => BW (badB A bf mi sb vs) v' (bkW v.W (rs1 x)).data.toList h' ∧ (v'.ownBlock = (.slice ab lb1.length cb : Value).ownBlock ∨ ∃ z, v'.ownBlock = some z ∧ h6.size ≤ z)) (fun v _ _ k1 k2 hr => ⟨hr.1.keep k2 (by simp), hr.2⟩)
          (fun h' hk => OpW.mono (w_appBW rfl rfl (O.b.cut.keep hk (by simp)) (hkb.stab (hk.st H.low)) hlen (fun y hy => Nat.lt_of_lt_of_le (H.bad_lt O.s.lt y hy) hk.1)) (fun v h'' hv => ⟨by rw [own_block0 (m2 := lb1.length) (c2 := cb)] at hv; exact hv.2.1, hv.1, by
            rw [own_block0 (m2 := lb1.length) (c2 := cb)] at hv
            exact hv.2.2.imp id (fun e => ⟨_, e, hk.1⟩)⟩)) ?_
        refine rb_end ?_; intro ha Ka; simp only [endM, hypF, ofE, argE, List.nil_append]
        rintro v57 ⟨H3, he⟩
        obtain ⟨ab2, cb2, rfl⟩ := H3.slice
        have H := H.keep Ka (fun y hy => ⟨fun e => O.b.2 y hy (.inl e), fun e => O.b.2 y hy (.inr (.inl e)), fun e => O.b.2 y hy (.inr (.inr (.inl e))), fun v hv e => O.b.2 y hy (.inr (.inr (.inr (.inr ⟨v, hv, e⟩))))⟩)
        have O := O.app C Ka H3 (fun y hy => by
          rcases he with e | ⟨z, e, hz⟩
          · rw [e] at hy; exact .inl hy
          · rw [e] at hy; simp at hy; exact .inr (by omega)) (fun y hy => .inr (by have := KP.1; omega))
        have KP := KeepP.newX KP Ka (fun y hy => O0.ob y hy)
        refine rx_seq ?_
        refine rC rfl rfl <| rF fa_keyspan_MergingBuffers_3 rfl rfl <| rs_w0 (w_put siz_sl_uint8 rfl rfl rfl rfl H.b1 rfl) ?_
        rintro _ h7 ⟨B, K9⟩
        have KP := KeepP.newX KP K9 (fun y hy => .inl (hbad y (C.kbf y hy).1))
        have H := H.both (q' := x :: q2) (tl' := tl1) (kv' := kv1) (rev' := false) B (K9.blk (by simpa using fun e => H.ne e.symm) H.mb.b2) H.mb.hdl H.mb.ql (K9.sub (by simp))
        have O := O.keep K9 C.kbf
        refine rs_nil ?_
        refine q_con ?_
        refine rx_nil ?_
        refine q_thn ?_
        refine tr_reg ?_
        refine rM rfl rfl <| rM rfl rfl <| rC rfl rfl <| rF fa_keyspan_MergingIter_0 rfl rfl <| rs_v (v_load one_p_keyspan_MergingBuffers rfl (by exact H.mb.b2.cell 0 rfl)) rfl ?_
        refine rC rfl rfl <| rF fa_keyspan_MergingBuffers_3 rfl rfl <| rs_v (v_load one_sl_uint8 rfl (by exact H.b1.cell 5 rfl)) rfl ?_
        refine rC rfl rfl <| rF fa_keyspan_MergingIter_2 rfl rfl <| rs_w0 (w_store siz_sl_uint8 rfl rfl rfl rfl H.mb.b2 (by rw [H.mb.len]; omega)) ?_
        rintro _ h8 ⟨B9, K8⟩
        have KP := KeepP.newX KP K8 (fun y hy => .inl (hbad y (C.kmi y hy).1))
        have H := H.hdr (hd' := hdC bf st (.slice ab2 (bkW v.W (rs1 x)).data.toList.length cb2) (.iface 188 (visF sb)) s0 s1 s2 s3 1) (by rw [mi_putH (show (3 : Nat) ≤ 10 by omega)] at B9; exact B9) rfl K8
        have O := O.keep K8 C.kmi
        have hst9 : RBytes (fun b => A b ∨ b ∈ (.slice ab2 (bkW v.W (rs1 x)).data.toList.length cb2 : Value).ownBlock.toList) h8 (.slice ab2 (bkW v.W (rs1 x)).data.toList.length cb2) (bkW v.W (rs1 x)) := O.b.bytes (by omega) (fun y hy => .inr hy)
        refine rs_nil ?_
        exact q_cut [(0, _), (1, _), (4, _)] ⟨rfl, rfl, rfl, trivial⟩ ⟨_, _, rfl, ⟨_, _, _, _, _, _, _, _, _, H, O⟩, hst9, KP⟩
      -- no
      skip
      refine tr_skip ?_
      exact q_cut [(0, _), (1, _), (4, _)] ⟨rfl, rfl, rfl, trivial⟩ ⟨_, _, rfl, ⟨_, _, _, _, _, _, _, _, _, H, O⟩, hkb.mono (fun b hb => .inl hb), KP⟩
    rintro E h98 ⟨st2, bv2, rfl, X, hst, KP⟩
    obtain ⟨s0, s1, s2, s3, kv2, L2, tl2, lk2, lb2, H, O⟩ := X
    obtain ⟨a7, c7, e7⟩ := SlR.form2 hst
    generalize (bkW v.W (rs1 x)).data.toList.length = n7 at e7
    subst e7
    refine rG <| rM rfl rfl <| rs_w (w_call (vs := [_]) ok_keyspan_MergingIter_switchToMaxHeap rfl ⟨rfl, trivial⟩ (c_switchToMaxHeap H hrb)) rfl ?_
    rintro _ h10 ⟨rfl, L3, q4, tl3, H', hp4, hH4, K10⟩
    have hst := st_keep H O hst K10 C.kall H.nAall
    have H := H'
    have KP := KeepP.newX KP K10 (fun y hy => .inl (hbad y (C.kall y hy).1))
    have O := O.keep K10 C.kall
    have hq4 := q_lt hp4
    generalize hrs4e : (fun j => rs1 j - 1) = rs4 at H hp4 hH4
    have hrs4 : ∀ (i : Nat) W, (wsO vs)[i]? = some W → rs4 i = tS W key := fun i W hW => by
      have h1 := hrs1 i W hW
      rw [← hrs4e]
      show rs1 i - 1 = _
      omega
    have hkyb := hkey0.stab (fun b hb => KP.2 b hb.2 hb.1)
    refine rN ?_
    refine tr_seq ?_
    refine rG <| rM rfl rfl <| rC rfl rfl <| rF fa_keyspan_MergingIter_5 rfl rfl <| rs_v (v_load one_error rfl (by exact H.mb.b2.cell 8 rfl)) rfl ?_
    refine rs_v (v_ine_nil isi_error rfl rfl) rfl ?_
    refine rN <| tr_if_f rfl ?_
    refine rG <| rM rfl rfl <| rC rfl rfl <| rF fa_keyspan_MergingIter_0 rfl rfl <| rs_v (v_load one_p_keyspan_MergingBuffers rfl (by exact H.mb.b2.cell 0 rfl)) rfl ?_
    refine rC rfl rfl <| rF fa_keyspan_MergingBuffers_2 rfl rfl <| rF fa_keyspan_mergingIterHeap_2 rfl rfl <| rs_v (v_load one_sl_keyspan_mergingIterItem rfl (by exact H.b1.cell 4 rfl)) rfl ?_
    refine rs_v (v_len u_sl_keyspan_mergingIterItem rfl) rfl ?_
    refine rs_v (v_eq rfl rfl) rfl ?_
    refine rN ?_
    refine tr_if rfl (fun hif => ?_) (fun hif => ?_)
    · -- yes
      have hq0 : q4 = [] := List.eq_nil_of_length_eq_zero (by have := of_decide_eq_true hif; omega)
      subst hq0
      have hts0 : ∀ (i : Nat) W, (wsO vs)[i]? = some W → tS W key = 0 := fun i W hW => by
        have h1 := q_none hp4 rfl i W hW
        rw [hrs4 i W hW] at h1
        have := tS_le W key; omega
      refine rG <| rA rfl rfl <| rN <| tr_ret <| q_thn_ret <| q_ret (res_tmp rfl rfl) ?_
      rw [pLT_none C.hB hts0]
      exact mpost_ahead hbad hl KP ⟨_, _, _, _, _, _, _, _, _, H, O⟩ hp4 hH4 (fun i W hW => by rw [hrs4 i W hW, hts0 i W hW]) rfl
    -- no
    obtain ⟨y, q5, rfl⟩ : ∃ y q5, q4 = y :: q5 := by
      cases q4 with
      | nil => exact absurd rfl (of_decide_eq_false hif)
      | cons a b => exact ⟨a, b, rfl⟩
    obtain ⟨w, hw, how⟩ := root_ok hp4
    obtain ⟨a6, n6, c6, ek6⟩ := at_nn (H.sv w (List.mem_of_getElem? hw)).1 how
    have hit6 := (H.hs hq4).item (i := 0) (x := y) rfl
    have hlv6 := H.mb.lev (H.lv y w hw).1
    have hkey6 : cellH h10 mi (10 + y * 4 + 1 + 1) = some (.slice (some a6) n6 c6) := by rw [← ek6]; exact hlv6 2 _ rfl
    have hkb6 : RBytes A h10 (.slice (some a6) n6 c6) (bkW w.W (rs4 y)) := by rw [← ek6]; exact bk_key (H.sv w (List.mem_of_getElem? hw)).1 _
    refine tr_skip ?_
    refine q_thn ?_
    refine tr_seq ?_
    refine tr_cut (fun E h' => h10 = h' ∧ ∃ b : Bool, E = [(0, .pointer (some ⟨mi, 0, none⟩)), (1, kv0), (4, .pointer none), (204, .bool b)] ∧ (b = true → ((w.at (rs4 y)).kind = 2 ∧ bkW w.W (rs4 y) = key)) ∧ (b = false → ¬ ((w.at (rs4 y)).kind = 2 ∧ bkW w.W (rs4 y) = key))) ?_ ?_
    ·
      rcases Bool.eq_false_or_eq_true (decide ((w.at (rs4 y)).kind = 2)) with g1 | g1
      · skip
        refine tr_reg ?_
        refine rM rfl rfl <| rC rfl rfl <| rF fa_keyspan_MergingIter_0 rfl rfl <| rs_v (v_load one_p_keyspan_MergingBuffers rfl (by exact H.mb.b2.cell 0 rfl)) rfl ?_
        refine rC rfl rfl <| rF fa_keyspan_MergingBuffers_2 rfl rfl <| rF fa_keyspan_mergingIterHeap_2 rfl rfl <| rs_v (v_load one_sl_keyspan_mergingIterItem rfl (by exact H.b1.cell 4 rfl)) rfl ?_
        refine rs_v (v_indexAddrE (i := 0) u_sl_keyspan_mergingIterItem siz_keyspan_mergingIterItem rfl rfl rfl (Nat.succ_pos _)) rfl ?_
        refine rF fa_keyspan_mergingIterItem_0 rfl rfl <| rs_v (v_load one_p_keyspan_boundKey rfl (by exact hit6 0 _ rfl)) rfl ?_
        refine rC rfl rfl <| rF fa_keyspan_boundKey_0 rfl rfl <| rs_v (v_load one_keyspan_boundKind rfl (by exact hlv6 1 _ rfl)) rfl ?_
        refine rs_v (v_eq rfl rfl) rfl ?_
        refine rM rfl rfl <| rs_gv rfl (lkb g1) (v_move rfl) rfl <| rs_gv rfl (lkb g1) (v_move rfl) rfl <| rs_gv rfl (lkb g1) (v_nilCheck_ptr rfl) rfl ?_
        refine rs_gv rfl (lkb g1) (v_fieldAddr fa_keyspan_MergingIter_0 rfl) rfl ?_
        refine rs_gv rfl (lkb g1) (v_load one_p_keyspan_MergingBuffers rfl (by exact H.mb.b2.cell 0 rfl)) rfl ?_
        refine rs_gv rfl (lkb g1) (v_nilCheck_ptr rfl) rfl ?_
        refine rs_gv rfl (lkb g1) (v_fieldAddr fa_keyspan_MergingBuffers_2 rfl) rfl ?_
        refine rs_gv rfl (lkb g1) (v_fieldAddr fa_keyspan_mergingIterHeap_2 rfl) rfl ?_
        refine rs_gv rfl (lkb g1) (v_load one_sl_keyspan_mergingIterItem rfl (by exact H.b1.cell 4 rfl)) rfl ?_
        refine rs_gv rfl (lkb g1) (v_indexAddrE (i := 0) u_sl_keyspan_mergingIterItem siz_keyspan_mergingIterItem rfl rfl rfl (Nat.succ_pos _)) rfl ?_
        refine rs_gv rfl (lkb g1) (v_fieldAddr fa_keyspan_mergingIterItem_0 rfl) rfl ?_
        refine rs_gv rfl (lkb g1) (v_load one_p_keyspan_boundKey rfl (by exact hit6 0 _ rfl)) rfl ?_
        refine rs_gv rfl (lkb g1) (v_nilCheck_ptr rfl) rfl ?_
        refine rs_gv rfl (lkb g1) (v_fieldAddr fa_keyspan_boundKey_1 rfl) rfl ?_
        refine rs_gv rfl (lkb g1) (v_load one_sl_uint8 rfl (by exact hkey6)) rfl ?_
        refine rs_gv rfl (lkb g1) (v_move rfl) rfl ?_
        refine rs_gw rfl (lkb g1) (w_call (vs := [_, _, _]) ok_keyspan_MergingIter_cmp rfl ⟨rfl, rfl, rfl, trivial⟩ (c_mcmp H (RBytes.by hkb6) (RBytes.by hkyb))) rfl ?_
        rintro _ h11 ⟨rfl, hsame⟩; have hsame := hsame.symm; subst hsame
        refine rs_gv rfl (lkb g1) (v_eq rfl rfl) rfl ?_
        refine rs_v (v_pick_t (lkb g1) rfl) rfl ?_
        refine rs_nil ?_
        exact q_cut [(0, _), (1, _), (4, _), (204, _)] ⟨rfl, rfl, rfl, rfl, trivial⟩ ⟨rfl, _, rfl, fun e => ⟨of_decide_eq_true g1, cmpB_eq (of_decide_eq_true e)⟩, fun e e2 => of_decide_eq_false e (by rw [e2.2]; exact cmpB_refl _)⟩
      · skip
        refine tr_reg ?_
        refine rM rfl rfl <| rC rfl rfl <| rF fa_keyspan_MergingIter_0 rfl rfl <| rs_v (v_load one_p_keyspan_MergingBuffers rfl (by exact H.mb.b2.cell 0 rfl)) rfl ?_
        refine rC rfl rfl <| rF fa_keyspan_MergingBuffers_2 rfl rfl <| rF fa_keyspan_mergingIterHeap_2 rfl rfl <| rs_v (v_load one_sl_keyspan_mergingIterItem rfl (by exact H.b1.cell 4 rfl)) rfl ?_
        refine rs_v (v_indexAddrE (i := 0) u_sl_keyspan_mergingIterItem siz_keyspan_mergingIterItem rfl rfl rfl (Nat.succ_pos _)) rfl ?_
        refine rF fa_keyspan_mergingIterItem_0 rfl rfl <| rs_v (v_load one_p_keyspan_boundKey rfl (by exact hit6 0 _ rfl)) rfl ?_
        refine rC rfl rfl <| rF fa_keyspan_boundKey_0 rfl rfl <| rs_v (v_load one_keyspan_boundKind rfl (by exact hlv6 1 _ rfl)) rfl ?_
        refine rs_v (v_eq rfl rfl) rfl ?_
        refine rM rfl rfl <| rs_gs rfl (lkb g1) rfl rfl <| rs_gs rfl (lkb g1) rfl rfl <| rs_gs rfl (lkb g1) rfl rfl <| rs_gs rfl (lkb g1) rfl rfl <| rs_gs rfl (lkb g1) rfl rfl <| rs_gs rfl (lkb g1) rfl rfl <| rs_gs rfl (lkb g1) rfl rfl <| rs_gs rfl (lkb g1) rfl rfl <| rs_gs rfl (lkb g1) rfl rfl <| rs_gs rfl (lkb g1) rfl rfl <| rs_gs rfl (lkb g1) rfl rfl <| rs_gs rfl (lkb g1) rfl rfl <| rs_gs rfl (lkb g1) rfl rfl <| rs_gs rfl (lkb g1) rfl rfl <| rs_gs rfl (lkb g1) rfl rfl <| rs_gs rfl (lkb g1) rfl rfl <| rs_gs rfl (lkb g1) rfl rfl <| rs_gs rfl (lkb g1) rfl rfl <| rs_v (v_pick_f (lkb g1) rfl) rfl ?_
        refine rs_nil ?_
        exact q_cut [(0, _), (1, _), (4, _), (204, _)] ⟨rfl, rfl, rfl, rfl, trivial⟩ ⟨rfl, _, rfl, fun e => (by cases e), fun _ e2 => of_decide_eq_false g1 e2.1⟩
    rintro E h94 ⟨hh, b, rfl, hb1, hb0⟩
    subst hh
    refine tr_if rfl (fun hif => ?_) (fun hif => ?_)
    · -- yes
      have hyes := hb1 hif
      obtain ⟨k, hkl, hFN, hpe⟩ := seek_yesL (kf := kfM vs snap) C.hB hw how hrs4 hyes.2
      refine rG <| rM rfl rfl <| rs_w (w_call (vs := [_]) ok_keyspan_MergingIter_findPrevFragmentSet rfl ⟨rfl, trivial⟩ (c_findPrevFragmentSet (F := FU F h _) C (fun b hb => .inl (hbad b hb)) (fu_low hl KP) (MXt.fu ⟨_, _, _, _, _, _, _, _, _, H, O⟩) hp4 hH4 hkl hFN)) rfl ?_
      rintro r h13 hP
      refine rA rfl rfl <| rN <| tr_ret <| q_thn_ret <| q_ret (res_tmp rfl rfl) ?_
      rw [hpe]
      exact mpost_trans hl KP (fun b hb => hb) hP
    -- no
    have hall := seek_noL C.ord hp4 hH4 hw hrs4 (hb0 hif)
    obtain ⟨k, hc⟩ := cut_at C.hB (down_lt key)
    have hFN : FPk (wsO vs) B k rs4 := fp_cut C.hB (down_lt key) hc (fun i W hW => by rw [hrs4 i W hW, hall i W hW]; rfl)
    have hFP : FNk (wsO vs) B k rs1 := fn_cut C.hB (down_lt key) hc (fun i W hW => by rw [hrs1 i W hW, hall i W hW]; rfl)
    obtain ⟨hk0, hκ2⟩ := fp_root' C.hB hFN hp4 hH4 hw
    obtain ⟨hkB2, hκ1⟩ := fn_root' C.hB hFP hp hH hv
    obtain ⟨j, rfl⟩ : ∃ j, k = j + 1 := ⟨k - 1, by omega⟩
    rw [Nat.add_sub_cancel] at hκ2
    rw [hκ1] at hst
    have hdone : ∀ (i : Nat) W, (wsO vs)[i]? = some W → rs4 i = cE W (atB B j) := fun i W hW => by
      rw [hrs4 i W hW, hall i W hW]
      exact cut_cE C.hB (down_lt key) (List.mem_of_getElem? hW) hc
    refine tr_skip ?_
    refine q_thn ?_
    refine rG <| rM rfl rfl <| rM rfl rfl <| rC rfl rfl <| rF fa_keyspan_MergingIter_0 rfl rfl <| rs_v (v_load one_p_keyspan_MergingBuffers rfl (by exact H.mb.b2.cell 0 rfl)) rfl ?_
    refine rC rfl rfl <| rF fa_keyspan_MergingBuffers_2 rfl rfl <| rF fa_keyspan_mergingIterHeap_2 rfl rfl <| rs_v (v_load one_sl_keyspan_mergingIterItem rfl (by exact H.b1.cell 4 rfl)) rfl ?_
    refine rs_v (v_indexAddrE (i := 0) u_sl_keyspan_mergingIterItem siz_keyspan_mergingIterItem rfl rfl rfl (Nat.succ_pos _)) rfl ?_
    refine rF fa_keyspan_mergingIterItem_0 rfl rfl <| rs_v (v_load one_p_keyspan_boundKey rfl (by exact hit6 0 _ rfl)) rfl ?_
    refine rC rfl rfl <| rF fa_keyspan_boundKey_1 rfl rfl <| rs_v (v_load one_sl_uint8 rfl (by exact hkey6)) rfl ?_
    refine rC rfl rfl <| rF fa_keyspan_MergingIter_1 rfl rfl <| rs_w0 (w_store siz_sl_uint8 rfl rfl rfl rfl H.mb.b2 (by rw [H.mb.len]; omega)) ?_
    rintro _ h14 ⟨B9, K14⟩
    have KP := KeepP.newX KP K14 (fun y hy => .inl (hbad y (C.kmi y hy).1))
    have hst := st_keep H O hst K14 C.kmi H.nAm
    have H := H.hdr (hd' := hdC bf (.slice (some a6) n6 c6) (.slice a7 n7 c7) (.iface 188 (visF sb)) s0 s1 s2 s3 (-1)) (by rw [mi_putH (show (2 : Nat) ≤ 10 by omega)] at B9; exact B9) rfl K14
    have O := O.keep K14 C.kmi
    have hit6 := (H.hs hq4).item (i := 0) (x := y) rfl
    have hlv6 := H.mb.lev (H.lv y w hw).1
    have hkey6 : cellH h14 mi (10 + y * 4 + 1 + 1) = some (.slice (some a6) n6 c6) := by rw [← ek6]; exact hlv6 2 _ rfl
    have hkb6 : RBytes A h14 (.slice (some a6) n6 c6) (bkW w.W (rs4 y)) := by rw [← ek6]; exact bk_key (H.sv w (List.mem_of_getElem? hw)).1 _
    obtain ⟨ak, ck, rfl⟩ := O.k.slice
    refine rN ?_
    refine tr_seq ?_
    refine rG <| rM rfl rfl <| rs_w (w_call (vs := [_, _]) ok_keyspan_MergingIter_synthesizeKeys rfl ⟨rfl, rfl, trivial⟩ (c_synthM H O.k O.s C.nb C.nm C.kl2 (C.kr2))) rfl ?_
    rintro _ h15 ⟨rfl, ka, kc, nd, l8, H8, HK8, hl8, htk, hnd8, hown, BS8, K15⟩
    have O0 := O
    have hX8 : ∀ y, y ∈ mi :: bf :: (.slice ak lk2.length ck : Value).ownBlock.toList → ¬ A y ∧ y ∉ bv2.ownBlock.toList := fun y hy => syn_out H O y hy
    have hst := st_keep0 H O hst K15 hX8
    have hkb8 := hkb6.stab (K15.stab fun y hy => ⟨H.low y hy, fun hm => (hX8 y hm).1 hy⟩)
    have hcat := cat_M hdone
    rw [hcat.1] at htk hnd8
    have hrb : ∀ y, y ∈ (sortKT (catX vs (atB B j))).filter (fun y => visK snap y.k) → RBytes A h15 (.slice y.a1 y.n1 y.c1) y.k.suf ∧ RBytes A h15 (.slice y.a2 y.n2 y.c2) y.k.val := fun y hy => catK_rb (D := 1) H8 (by decide) (by rw [hcat.1]; exact (sortKT_perm _).mem_iff.1 (List.mem_filter.1 hy).1)
    have O := O.syn C (fun y hy => .inr (by have := KP.1; omega)) HK8 hl8 hown BS8 K15
    have KP := KeepP.newX KP K15 (syn_kp hbad O0)
    have H := H8
    have hspan : PSpan (FU F h h15) h15 mi 4 ⟨atB B j, atB B (j + 1), kfM vs snap (atB B j)⟩ := by
      have hF9 : ∀ b, A b → FU F h h15 b := fun b hb => .inl (hbad b (.inl hb))
      have hst9 : ∀ b, A b ∨ b ∈ bv2.ownBlock.toList → FU F h h15 b := fun b hb => hb.elim (hF9 b) (fun e => (O.ob b e).imp id (fun e2 => ⟨e2, own_lt O.b.1 b e⟩))
      refine ⟨_, _, _, 0, H.mb.b2.sub 4 4 rfl, ?_, hst.mono hst9, ?_⟩
      · have := hkb8.mono hF9; rw [hκ2] at this; exact this
      · exact pkeys_of HK8 htk hnd8 hl8 hF9 (fun y hy => (O.ok y hy).imp id (fun e2 => ⟨e2, HK8.lt y hy⟩)) hrb
    refine rM rfl rfl <| rs_v (v_extract rfl rfl) rfl ?_
    refine rs_v (v_extract rfl rfl) rfl ?_
    refine rA rfl rfl <| rA rfl rfl <| rN ?_
    refine tr_cut (fun E h' => h15 = h' ∧ ∃ b : Bool, E = [(0, .pointer (some ⟨mi, 0, none⟩)), (1, kv0), (4, .pointer none), (9, .pointer (some ⟨mi, 4, none⟩)), (233, .bool b)] ∧ b = covB (wsO vs) (atB B j)) ?_ ?_
    ·
      rcases Bool.eq_false_or_eq_true (anyK 1 vs rs4 vs.length) with g1 | g1
      · skip
        refine tr_reg ?_
        refine rM rfl rfl <| rM rfl rfl <| rs_gv rfl (lkb g1) (v_move rfl) rfl <| rs_gv rfl (lkb g1) (v_pne u_p_keyspan_Span rfl rfl) rfl ?_
        refine rs_v (v_pick_t (lkb g1) rfl) rfl ?_
        refine rs_nil ?_
        exact q_cut [(0, _), (1, _), (4, _), (9, _), (233, _)] ⟨rfl, rfl, rfl, rfl, rfl, trivial⟩ ⟨rfl, _, rfl, by rw [← hcat.2, g1]; rfl⟩
      · skip
        refine tr_reg ?_
        refine rM rfl rfl <| rM rfl rfl <| rs_gs rfl (lkb g1) rfl rfl <| rs_gs rfl (lkb g1) rfl rfl <| rs_v (v_pick_f (lkb g1) rfl) rfl ?_
        refine rs_nil ?_
        exact q_cut [(0, _), (1, _), (4, _), (9, _), (233, _)] ⟨rfl, rfl, rfl, rfl, rfl, trivial⟩ ⟨rfl, _, rfl, by rw [← hcat.2, g1]⟩
    rintro E h95 ⟨hh, b, rfl, hcv⟩
    subst hh
    refine tr_if rfl (fun hif => ?_) (fun hif => ?_)
    · -- yes
      skip
      refine rG <| rM rfl rfl <| rA rfl rfl <| rN <| tr_ret <| q_thn_ret <| q_ret (res_tmp rfl rfl) ?_
      have hcov : covB (wsO vs) (atB B j) = true := by rw [← hcv]; exact hif
      exact mpost_pt hbad hl KP ⟨_, _, _, _, _, _, _, _, _, H, O⟩ hp4 hH4 ⟨hkB2, ⟨_, _, _, rfl⟩, RBytes.nn hst (C.hB.lt (Nat.lt_succ_self j) hkB2), .inr ⟨rfl, rfl, hdone⟩⟩ (by rw [pLT_cut hc, show min (j + 1 + 1) B.length = j + 2 from by omega]; exact (bwdF_yes hkB2 hcov).2) hspan
    -- no
    have hcov : covB (wsO vs) (atB B j) = false := by rw [← hcv]; exact hif
    refine tr_skip ?_
    refine q_thn ?_
    refine rG <| rM rfl rfl <| rs_w (w_call (vs := [_]) ok_keyspan_MergingIter_findPrevFragmentSet rfl ⟨rfl, trivial⟩ (c_findPrevFragmentSet (F := FU F h _) C (fun b hb => .inl (hbad b hb)) (fu_low hl KP) (MXt.fu ⟨_, _, _, _, _, _, _, _, _, H, O⟩) hp4 hH4 (by omega) hFN)) rfl ?_
    rintro r h17 hP
    refine rA rfl rfl <| rN <| tr_ret <| q_ret (res_tmp rfl rfl) ?_
    rw [pLT_cut hc, show min (j + 1 + 1) B.length = j + 2 from by omega]
    rw [bwdF_no hkB2 hcov]
    exact mpost_trans hl KP (fun b hb => hb) hP
  -- yes
  simp only [dT, dF] at hif
  obtain ⟨v, hv⟩ := ex_get (L := vs) (k := k) (by omega)
  obtain ⟨hlx, hI, hrx⟩ := H.lv k v hv
  obtain ⟨hS, hne, hnb, hAc, hlt⟩ := H.sv v (List.mem_of_getElem? hv)
  have hlv := H.mb.lev hlx
  have hvl := H.vl
  have hit0 : cellH hL2 mi (10 + k * 4 + 0) = some v.it := by rw [← at_it v _]; exact hlv 0 _ rfl
  have hOv := C.ord v (List.mem_of_getElem? hv)
  have hgl := geI_le v.W key
  have hll := ltI_le v.W key
  have hky := (hkey0.stab (fun b hb => KP.2 b hb.2 hb.1)).mono (fun b hb => show b ≠ v.c from fun e => hb.1 (by rw [e]; exact hbad _ (C.kc hv _ (by simp)).1))
  refine tr_skip ?_
  refine q_thn ?_
  refine tr_seq ?_
  refine tr_block <| rG <| rM rfl rfl <| rA rfl rfl <| rN <| rG <| rM rfl rfl <| rC rfl rfl <| rF fa_keyspan_MergingIter_0 rfl rfl <| rs_v (v_load one_p_keyspan_MergingBuffers rfl (by exact H.mb.b2.cell 0 rfl)) rfl ?_
  refine rC rfl rfl <| rF fa_keyspan_MergingBuffers_1 rfl rfl <| rs_v (v_load one_sl_keyspan_mergingIterLevel rfl (by exact H.b1.cell 1 rfl)) rfl ?_
  refine rM rfl rfl <| rs_v (v_indexAddrE (i := k) u_sl_keyspan_mergingIterLevel siz_keyspan_mergingIterLevel rfl rfl rfl (by omega)) rfl ?_
  refine rA rfl rfl <| rN <| rG <| rM rfl rfl <| rC rfl rfl <| rF fa_keyspan_mergingIterLevel_0 rfl rfl <| rs_v (v_load one_keyspan_FragmentIterator rfl (by exact hit0)) rfl ?_
  refine rM rfl rfl <| rs_w (w_mcall (vs := [_]) (lv_SeekGE hS H.low hAc hI hky) rfl ⟨rfl, trivial⟩) rfl ?_
  rintro r h18 ⟨hr, hI1, hI1b, K18⟩
  have hS1 := hS.stab (H.stab K18 (by simpa using hAc))
  obtain ⟨p, hrp, hpc⟩ := seek_form2 hS1 (c := geI v.W key < v.W.length) (geI v.W key) (fun h0 => h0)
  rw [hrp] at hr; subst hr
  have M := H.mb.keep K18 (by simpa using fun e => hne e.symm)
  have B1 := K18.blk (by simpa using fun e => hnb e.symm) H.b1
  have Kc := K18
  have KP := KeepP.newX KP K18 (fun y hy => .inl (hbad y (C.kc hv y hy).1))
  have O := O.keep K18 (C.kc hv)
  have hky2 := hkey0.stab (fun b hb => KP.2 b hb.2 hb.1)
  refine rA rfl rfl <| rN <| rG <| rM rfl rfl <| rs_v (v_peq u_p_keyspan_Span rfl rfl) rfl ?_
  refine rN ?_
  refine tr_if rfl (fun hif => ?_) (fun hif => ?_)
  · -- yes
    obtain ⟨rfl, hc0⟩ : p = none ∧ ¬ geI v.W key < v.W.length := by
      rcases hpc with e | ⟨b, o, x, rfl, _⟩
      · exact e
      · cases hif
    have hts := tS_none hc0
    have hI9 : LevI v (tS v.W key + 1) h18 := by rw [hts, show 2 * v.W.length + 1 = 2 * geI v.W key + 1 from by omega]; exact hI1
    refine tr_reg ?_
    refine rM rfl rfl <| rs_v (v_build1 rfl (bld_keyspan_boundKey_0 _)) rfl ?_
    refine rC rfl rfl <| rF fa_keyspan_mergingIterLevel_1 rfl rfl <| rs_w0 (w_store siz_keyspan_boundKey rfl rfl rfl rfl M.b2 (by rw [M.len]; omega)) ?_
    rintro _ h19 ⟨B9, K19⟩
    have M2 := M.setL (it := v.it) hlx (at_it _ _) B9
    have hI2 := hI9.keep K19 (by simpa using hne)
    have KP := KeepP.newX KP K19 (fun y hy => .inl (hbad y (C.kmi y hy).1))
    have O := O.keep K19 C.kmi
    have H := H.step hv (r := tS v.W key + 1) (by rw [hts, Lev.at0 (by unfold Lev.ok; omega)]; exact M2) hI2 (by have := tS_le v.W key; omega) ((Kc.sub (by simp)).trans (K19.sub (by simp)))
    refine rs_nil ?_
    refine q_blk_n ?_
    refine q_thn ?_
    refine tr_reg ?_
    refine rs_v (v_add rfl rfl (by omega) (by omega)) rfl ?_
    refine rM rfl rfl ?_
    refine rs_nil ?_
    refine q_lp (vs.length - (k + 1)) [(0, _), (1, _), (4, _), (19, _), (20, _)] (by omega) ⟨rfl, rfl, rfl, rfl, rfl, trivial⟩ ⟨k + 1, _, by omega, rfl, rfl, H.congr (fun j _ => rK_step (f := (fun W => tS W key + 1)) hv j), O, KP⟩
  -- no
  obtain ⟨b, o, x, rfl, hc0, hx, hsp, hAb, hcs, hr1, hr2⟩ : ∃ b o x, p = some ⟨b, o, none⟩ ∧ geI v.W key < v.W.length ∧ v.W[geI v.W key]? = some x ∧ v.sp (geI v.W key) = .pointer (some ⟨b, o, none⟩) ∧ A b ∧ CellsAt h18 b o [v.sv (geI v.W key), v.ev (geI v.W key), v.kv (geI v.W key), .int .i8 0] ∧ RBytes A h18 (v.sv (geI v.W key)) x.s ∧ RBytes A h18 (v.ev (geI v.W key)) x.e := by
    rcases hpc with ⟨rfl, _⟩ | e
    · cases hif
    · exact e
  obtain ⟨a9, n9, c9, e9⟩ := (hS.nn _ x hx).1
  obtain ⟨a8, n8, c8, e8⟩ := (hS.nn _ x hx).2
  have hxl := (List.getElem?_eq_some_iff.1 hx).1
  rw [e9, e8] at hcs
  rw [e9] at hr1
  rw [e8] at hr2
  refine rG <| rM rfl rfl <| rM rfl rfl <| rC rfl rfl <| rF fa_keyspan_Span_0 rfl rfl <| rs_v (v_load one_sl_uint8 rfl (by exact hcs 0 _ rfl)) rfl ?_
  refine rM rfl rfl <| rs_w (w_call (vs := [_, _, _]) ok_keyspan_MergingIter_cmp rfl ⟨rfl, rfl, rfl, trivial⟩ (c_mcmp2 M B1 (RBytes.by hr1) (RBytes.by hky2))) rfl ?_
  rintro _ h20 ⟨rfl, hsame⟩; have hsame := hsame.symm; subst hsame
  refine rs_v (v_ge rfl rfl) rfl ?_
  refine rN ?_
  refine tr_if rfl (fun hif => ?_) (fun hif => ?_)
  · -- yes
    have hle : slt x.s key = false := slt_no.2 (of_decide_eq_true hif)
    have hts := tS_ge hx
    rw [if_neg (by rw [hle]; decide)] at hts
    have hI9 : LevI v (tS v.W key + 1) h18 := by rw [hts]; exact hI1
    refine tr_reg ?_
    refine rM rfl rfl <| rM rfl rfl <| rC rfl rfl <| rF fa_keyspan_Span_0 rfl rfl <| rs_v (v_load one_sl_uint8 rfl (by exact hcs 0 _ rfl)) rfl ?_
    refine rM rfl rfl <| rs_v (v_build3 rfl rfl rfl (bld_keyspan_boundKey_0_1_2 _ _ _ _ _)) rfl ?_
    refine rC rfl rfl <| rF fa_keyspan_mergingIterLevel_1 rfl rfl <| rs_w0 (w_store siz_keyspan_boundKey rfl rfl rfl rfl M.b2 (by rw [M.len]; omega)) ?_
    rintro _ h21 ⟨B9, K21⟩
    have M2 := M.setL (it := v.it) hlx (at_it _ _) B9
    have hI2 := hI9.keep K21 (by simpa using hne)
    have KP := KeepP.newX KP K21 (fun y hy => .inl (hbad y (C.kmi y hy).1))
    have O := O.keep K21 C.kmi
    have H := H.step hv (r := tS v.W key + 1) (by rw [hts, Lev.at1 hxl, hsp, e9]; exact M2) hI2 (by have := tS_le v.W key; omega) ((Kc.sub (by simp)).trans (K21.sub (by simp)))
    refine rs_nil ?_
    refine q_blk_n ?_
    refine q_thn ?_
    refine tr_reg ?_
    refine rs_v (v_add rfl rfl (by omega) (by omega)) rfl ?_
    refine rM rfl rfl ?_
    refine rs_nil ?_
    refine q_lp (vs.length - (k + 1)) [(0, _), (1, _), (4, _), (19, _), (20, _)] (by omega) ⟨rfl, rfl, rfl, rfl, rfl, trivial⟩ ⟨k + 1, _, by omega, rfl, rfl, H.congr (fun j _ => rK_step (f := (fun W => tS W key + 1)) hv j), O, KP⟩
  -- no
  have hle : slt x.s key = true := slt_iff.2 (by have := of_decide_eq_false hif; omega)
  have hts := tS_ge hx
  rw [if_pos hle] at hts
  have hI9 : LevI v (tS v.W key + 1) h18 := by rw [hts]; exact hI1b hc0
  refine tr_reg ?_
  refine rM rfl rfl <| rM rfl rfl <| rC rfl rfl <| rF fa_keyspan_Span_1 rfl rfl <| rs_v (v_load one_sl_uint8 rfl (by exact hcs 1 _ rfl)) rfl ?_
  refine rM rfl rfl <| rs_v (v_build3 rfl rfl rfl (bld_keyspan_boundKey_0_1_2 _ _ _ _ _)) rfl ?_
  refine rC rfl rfl <| rF fa_keyspan_mergingIterLevel_1 rfl rfl <| rs_w0 (w_store siz_keyspan_boundKey rfl rfl rfl rfl M.b2 (by rw [M.len]; omega)) ?_
  rintro _ h22 ⟨B9, K22⟩
  have M2 := M.setL (it := v.it) hlx (at_it _ _) B9
  have hI2 := hI9.keep K22 (by simpa using hne)
  have KP := KeepP.newX KP K22 (fun y hy => .inl (hbad y (C.kmi y hy).1))
  have O := O.keep K22 C.kmi
  have H := H.step hv (r := tS v.W key + 1) (by rw [hts, show 2 * geI v.W key + 1 + 1 = 2 * geI v.W key + 2 from rfl, Lev.at2 hxl, hsp, e8]; exact M2) hI2 (by have := tS_le v.W key; omega) ((Kc.sub (by simp)).trans (K22.sub (by simp)))
  refine rs_nil ?_
  refine q_blk_n ?_
  refine q_thn ?_
  refine tr_reg ?_
  refine rs_v (v_add rfl rfl (by omega) (by omega)) rfl ?_
  refine rM rfl rfl ?_
  refine rs_nil ?_
  refine q_lp (vs.length - (k + 1)) [(0, _), (1, _), (4, _), (19, _), (20, _)] (by omega) ⟨rfl, rfl, rfl, rfl, rfl, trivial⟩ ⟨k + 1, _, by omega, rfl, rfl, H.congr (fun j _ => rK_step (f := (fun W => tS W key + 1)) hv j), O, KP⟩
set_option maxHeartbeats 1000000
def mrgW (vs : List Lev) (snap : Nat) (B : List ByteArray) : List SpanD := (sgM vs snap B).filterMap (covF (wsO vs))
def MIt (A : Nat → Prop) (bf mi sb : Nat) (vs : List Lev) (snap : Nat) (B : List ByteArray) : ItI := fun p F h => ∃ q, MQ A bf mi sb vs snap B q F h ∧ relP (covF (wsO vs)) (sgM vs snap B) p q
theorem covF_same {ws : List (List SpanD)} {s s' : SpanD} (h : covF ws s = some s') : s' = s := by
  unfold covF at h
  split at h
  · cases h; rfl
  · cases h
theorem cur_rel {ws : List (List SpanD)} {W : List SpanD} {p q : Pos} (h : relP (covF ws) W p q) (hp : p ≠ .nowhere) : cur (W.filterMap (covF ws)) p = cur W q := by
  cases p with
  | nowhere => exact absurd rfl hp
  | behind => cases q <;> first | rfl | exact h.elim
  | ahead => cases q <;> first | rfl | exact h.elim
  | pt j =>
    cases q with
    | pt i =>
      obtain ⟨s, s', h1, h2, rfl⟩ := h
      have := covF_same h2
      subst this
      show (W.filterMap (covF ws))[_]? = W[i]?
      rw [fm_at h1 h2, h1]
    | _ => exact h.elim
section
variable {A : Nat → Prop} {bf mi sb : Nat} {vs : List Lev} {snap : Nat} {B : List ByteArray} {F : Nat → Prop} {h h' : Heap} {p : Pos} {r : Value}
theorem itpost_of (P : MPost A bf mi sb vs snap B F h p r h') (hp : p ≠ .nowhere) : ItPost (mrgW vs snap B) (MIt A bf mi sb vs snap B) F h p r h' := by
  obtain ⟨q, Q, hr, KP, R⟩ := P
  refine ⟨FU F h h', ⟨q, Q, hr⟩, fun b hb => hb.imp id And.left, KP, ?_⟩
  unfold Ret at R ⊢
  unfold mrgW
  rw [cur_rel hr hp]; exact R
theorem itpost_nw (P : MPost A bf mi sb vs snap B F h p r h') (hp : p ≠ .nowhere) (hc : cur (mrgW vs snap B) p = none) : ItPost (mrgW vs snap B) (MIt A bf mi sb vs snap B) F h .nowhere r h' := by
  obtain ⟨q, Q, hr, KP, R⟩ := P
  refine ⟨FU F h h', ⟨q, Q, trivial⟩, fun b hb => hb.imp id And.left, KP, ?_⟩
  unfold Ret at R ⊢
  unfold mrgW at hc
  rw [cur_rel hr hp] at hc
  rw [hc] at R
  exact R
theorem fwdF_nn {k : Nat} {ff : SpanD → Option SpanD} {W : List SpanD} : fwdP ff W (posF B k) ≠ .nowhere := by
  unfold posF
  split
  · simp only [fwdP]; split <;> simp
  · simp [fwdP]
theorem bwdF_nn {k : Nat} {ff : SpanD → Option SpanD} {W : List SpanD} : bwdP ff W (posB k) ≠ .nowhere := by
  unfold posB
  split
  · simp [bwdP]
  · simp only [bwdP]; split <;> simp
theorem cur_nil {p : Pos} : cur [] p = none := by cases p <;> simp [cur]
theorem fm_nil {W : List SpanD} {ff : SpanD → Option SpanD} (h : W.length = 0) : W.filterMap ff = [] := by
  have : W = [] := List.eq_nil_of_length_eq_zero h
  subst this; rfl
theorem first_of (C : MC A bf mi sb vs B) (P : MPost A bf mi sb vs snap B F h (fwdP (covF (wsO vs)) (sgM vs snap B) (posF B 0)) r h') : ItPost (mrgW vs snap B) (MIt A bf mi sb vs snap B) F h (pFirst (mrgW vs snap B)) r h' := by
  rcases posF_first (kf := kfM vs snap) C.hB with e | e
  · rcases fwd_first (ff := covF (wsO vs)) (W := sgM vs snap B) with e2 | ⟨e2, e3⟩
    · have := itpost_of P fwdF_nn
      rw [← e, e2] at this; exact this
    · show ItPost _ _ _ _ (pFirst ((sgM vs snap B).filterMap (covF (wsO vs)))) _ _
      rw [e2]
      refine itpost_nw P fwdF_nn ?_
      rw [← e]; exact e3
  · have e2 : mrgW vs snap B = [] := fm_nil e
    have e3 : pFirst (mrgW vs snap B) = .nowhere := by rw [e2]; rfl
    rw [e3]
    exact itpost_nw P fwdF_nn (by rw [e2]; exact cur_nil)
theorem last_of (C : MC A bf mi sb vs B) (P : MPost A bf mi sb vs snap B F h (bwdP (covF (wsO vs)) (sgM vs snap B) (posB B.length)) r h') : ItPost (mrgW vs snap B) (MIt A bf mi sb vs snap B) F h (pLast (mrgW vs snap B)) r h' := by
  rcases posB_last (kf := kfM vs snap) (B := B) (ws := wsO vs) C.hB with e | e
  · rcases bwd_last (ff := covF (wsO vs)) (W := sgM vs snap B) with e2 | ⟨e2, e3⟩
    · have := itpost_of P bwdF_nn
      rw [← e, e2] at this; exact this
    · show ItPost _ _ _ _ (pLast ((sgM vs snap B).filterMap (covF (wsO vs)))) _ _
      rw [e2]
      refine itpost_nw P bwdF_nn ?_
      rw [← e]; exact e3
  · have e2 : mrgW vs snap B = [] := fm_nil e
    have e3 : pLast (mrgW vs snap B) = .nowhere := by rw [e2]; rfl
    rw [e3]
    exact itpost_nw P bwdF_nn (by rw [e2]; exact cur_nil)
theorem ge_pos {ws : List (List SpanD)} {W : List SpanD} {key : ByteArray} (hO : Tess.Ord W) (hS : Shrink (covF ws) W) : pGE (W.filterMap (covF ws)) key = fwdP (covF ws) W (pGE W key) := by
  have hs := seek_ge hO hS key
  cases hc : cur (W.filterMap (covF ws)) (fwdP (covF ws) W (pGE W key)) with
  | none => exact hs.1 hc
  | some s' =>
    rw [hs.2 s' hc]
    have hle : sle s'.e key = false := by
      unfold pGE at hc
      by_cases e : geI W key < W.length
      · rw [if_pos e] at hc
        simp only [fwdP] at hc
        by_cases e2 : (W.drop (geI W key)).filterMap (covF ws) = []
        · rw [if_pos e2] at hc; cases hc
        · rw [if_neg e2] at hc
          have h1 : (W.filterMap (covF ws))[((W.take (geI W key)).filterMap (covF ws)).length]? = some s' := hc
          rw [fm_split (geI W key), List.getElem?_append_right (Nat.le_refl _), Nat.sub_self] at h1
          obtain ⟨x, hx, hf⟩ := List.mem_filterMap.1 (List.mem_of_getElem? h1)
          have hxs := covF_same hf
          subst hxs
          obtain ⟨i, hi, ei⟩ := List.mem_iff_getElem.1 hx
          have hx2 : W[geI W key + i]? = some s' := by rw [← List.getElem?_drop, List.getElem?_eq_getElem hi, ei]
          obtain ⟨z, hz⟩ := ex_get (L := W) (k := geI W key) e
          exact not_sle.2 (slt_of_slt_sle (not_sle.1 (geI_at hz)) (hO.ends (by omega) hz hx2))
      · rw [if_neg e] at hc; cases hc
    rw [if_neg (by rw [hle]; decide)]
theorem lt_pos {ws : List (List SpanD)} {W : List SpanD} {key : ByteArray} (hO : Tess.Ord W) (hS : Shrink (covF ws) W) : pLT (W.filterMap (covF ws)) key = bwdP (covF ws) W (pLT W key) := by
  have hs := seek_lt hO hS key
  cases hc : cur (W.filterMap (covF ws)) (bwdP (covF ws) W (pLT W key)) with
  | none => exact hs.1 hc
  | some s' =>
    rw [hs.2 s' hc]
    have hle : slt s'.s key = true := by
      unfold pLT at hc
      by_cases e : ltI W key = 0
      · rw [if_pos e] at hc; cases hc
      · rw [if_neg e, bwd_pt, show ltI W key - 1 + 1 = ltI W key from by omega] at hc
        by_cases e2 : ((W.take (ltI W key)).filterMap (covF ws)).length = 0
        · rw [if_pos e2] at hc; cases hc
        · rw [if_neg e2] at hc
          have h1 : (W.filterMap (covF ws))[((W.take (ltI W key)).filterMap (covF ws)).length - 1]? = some s' := hc
          rw [fm_split (ltI W key), List.getElem?_append_left (by omega)] at h1
          obtain ⟨x, hx, hf⟩ := List.mem_filterMap.1 (List.mem_of_getElem? h1)
          have hxs := covF_same hf
          subst hxs
          obtain ⟨i, hi, ei⟩ := List.mem_iff_getElem.1 hx
          have hil : i < ltI W key := by simp at hi; omega
          have hx2 : W[i]? = some s' := by
            have : (W.take (ltI W key))[i]? = some s' := by rw [List.getElem?_eq_getElem hi, ei]
            rw [List.getElem?_take, if_pos hil] at this; exact this
          have hle := ltI_le W key
          obtain ⟨z, hz⟩ := ex_get (L := W) (k := ltI W key - 1) (by omega)
          exact slt_of_sle_slt (hO.starts (by omega) hx2 hz) (ltI_at e hz)
    rw [if_pos hle]
theorem MG.stabF {rs : Nat → Nat} {kv bv : Value} {rev : Bool} {hd tl : List Value} {L : List LvD} {q : List Nat} (H : MG A bf mi vs rs kv bv rev hd L q tl h) (hst : ∀ b, (A b ∨ b = bf ∨ b = mi ∨ ∃ v, v ∈ vs ∧ v.c = b) → h'[b]? = h[b]?) (hz : h.size ≤ h'.size) : MG A bf mi vs rs kv bv rev hd L q tl h' :=
  ⟨(hst bf (.inr (.inl rfl))).trans H.b1, ⟨(hst mi (.inr (.inr (.inl rfl)))).trans H.mb.b2, H.mb.hdl, H.mb.ll, H.mb.ql⟩, fun i v hv => by
    obtain ⟨h1, ⟨x, B, hX⟩, h3⟩ := H.lv i v hv
    exact ⟨h1, ⟨x, (hst v.c (.inr (.inr (.inr ⟨v, List.mem_of_getElem? hv, rfl⟩)))).trans B, hX⟩, h3⟩, fun v hv => by
    obtain ⟨h1, h2, h3, h4, h5⟩ := H.sv v hv
    exact ⟨h1.stab (fun b hb => hst b (.inl hb)), h2, h3, h4, Nat.lt_of_lt_of_le h5 hz⟩, H.dis, H.ne, H.low.mono hz, H.nA, H.vl⟩
theorem MQ.stab {q : Pos} (Q : MQ A bf mi sb vs snap B q F h) (hst : Stab F h h') (hz : h.size ≤ h'.size) : MQ A bf mi sb vs snap B q F h' := by
  obtain ⟨hb, hl, rs, rev, dir, qq, st, en, bv, ⟨s0, s1, s2, s3, kv, L, tl, lk, lb, H, o⟩, h2, h3, h4⟩ := Q
  obtain ⟨xs, O, hr, hbb⟩ := o.k
  refine ⟨hb, hl.mono hz, rs, rev, dir, qq, st, en, bv, ⟨s0, s1, s2, s3, kv, L, tl, lk, lb, H.stabF (fun b hx => hst b (hb b ?_)) hz, ⟨xs, Own.stabF O hst (fun b e => o.ok b (by rw [e]; simp)), hr, hbb⟩, ⟨Own.stabF o.b.1 hst (fun b e => o.ob b (by rw [e]; simp)), o.b.2⟩, (hst sb (hb sb (.inr (.inr (.inr (.inl rfl)))))).trans o.s, o.d, o.ok, o.ob, o.ll⟩, h2, h3, h4⟩
  rcases hx with h | h | h | h
  · exact .inl h
  · exact .inr (.inl h)
  · exact .inr (.inr (.inl h))
  · exact .inr (.inr (.inr (.inr h)))
end
theorem m_MiFirst (v : Value) : Meth Tryz.prog 166 v "First" 87 v := fun _ => by kernel_rfl
theorem m_MiLast (v : Value) : Meth Tryz.prog 166 v "Last" 177 v := fun _ => by kernel_rfl
theorem m_MiNext (v : Value) : Meth Tryz.prog 166 v "Next" 89 v := fun _ => by kernel_rfl
theorem m_MiPrev (v : Value) : Meth Tryz.prog 166 v "Prev" 178 v := fun _ => by kernel_rfl
theorem m_MiSeekGE (v : Value) : Meth Tryz.prog 166 v "SeekGE" 179 v := fun _ => by kernel_rfl
theorem m_MiSeekLT (v : Value) : Meth Tryz.prog 166 v "SeekLT" 180 v := fun _ => by kernel_rfl
theorem m_MiError (v : Value) : Meth Tryz.prog 166 v "Error" 176 v := fun _ => by kernel_rfl
section
variable {χ : Chi} {A : Nat → Prop} {bf mi sb : Nat} {vs : List Lev} {snap : Nat} {B : List ByteArray} {F : Nat → Prop} {h : Heap} {q : Pos}
theorem mnext (C : MC A bf mi sb vs B) (Q : MQ A bf mi sb vs snap B q F h) (hc : canNext q = true) : Cl Tryz.prog χ 89 #[.pointer (some ⟨mi, 0, none⟩)] h (MPost A bf mi sb vs snap B F h (fwdP (covF (wsO vs)) (sgM vs snap B) (pNext (sgM vs snap B) q))) ∧ fwdP (covF (wsO vs)) (sgM vs snap B) (pNext (sgM vs snap B) q) ≠ .nowhere := by
  obtain ⟨hb, hl, rs, rev, dir, qq, st, en, bv, X, h2, h3, h4⟩ := Q
  cases q with
  | pt j =>
    rw [posF_next]
    refine ⟨?_, fwdF_nn⟩
    obtain ⟨hj, hn1, hn2, ⟨rfl, rfl, hr⟩ | ⟨rfl, rfl, hr⟩⟩ := h4
    · exact c_MNext1 (rev := false) C hb hl X h2 h3 (by omega) (fn_next C.hB (by omega) hr) hn1 hn2
    · exact c_MNext2 C hb hl X (fun i v hv => by rw [hr i _ (wsO_at hv)]; exact cE_le _ _) (by omega) (fn_next C.hB (by omega) (fun i W hW => by show rs i + 1 = _; rw [hr i W hW]))
  | ahead =>
    rw [posF_ahead]
    refine ⟨?_, fwdF_nn⟩
    obtain ⟨rfl, rfl, hr⟩ := h4
    exact c_MNext2 C hb hl X (fun i v hv => by rw [hr i _ (wsO_at hv)]; omega) (Nat.zero_le _) (fn_cut C.hB (p := fun _ => false) (fun _ _ _ e => e) (cut_none B) (fun i W hW => by show rs i + 1 = _; rw [hr i W hW, cut_none_cnt C.hB (p := fun _ => false) (fun _ _ _ e => e) (List.mem_of_getElem? hW) (cut_none B)]))
  | behind => cases hc
  | nowhere => cases hc
theorem mprev (C : MC A bf mi sb vs B) (Q : MQ A bf mi sb vs snap B q F h) (hc : canPrev q = true) : Cl Tryz.prog χ 178 #[.pointer (some ⟨mi, 0, none⟩)] h (MPost A bf mi sb vs snap B F h (bwdP (covF (wsO vs)) (sgM vs snap B) (pPrev (sgM vs snap B) q))) ∧ bwdP (covF (wsO vs)) (sgM vs snap B) (pPrev (sgM vs snap B) q) ≠ .nowhere := by
  obtain ⟨hb, hl, rs, rev, dir, qq, st, en, bv, X, h2, h3, h4⟩ := Q
  cases q with
  | pt j =>
    rw [posB_prev]
    refine ⟨?_, bwdF_nn⟩
    obtain ⟨hj, hn1, hn2, ⟨rfl, rfl, hr⟩ | ⟨rfl, rfl, hr⟩⟩ := h4
    · exact c_MPrev2 C hb hl X (fun i v hv => by rw [hr i _ (wsO_at hv)]; omega) (by omega) (fp_cut C.hB (down_le _) (cut_le C.hB (by omega)) (fun i W hW => by show rs i - 1 = _; rw [hr i W hW]; rfl))
    · exact c_MPrev1 (rev := true) C hb hl X h2 h3 (by omega) (fp_cut C.hB (down_le _) (cut_le C.hB (by omega)) hr) hn1 hn2
  | behind =>
    rw [posB_behind]
    refine ⟨?_, bwdF_nn⟩
    obtain ⟨rfl, rfl, hr⟩ := h4
    exact c_MPrev2 C hb hl X (fun i v hv => by rw [hr i _ (wsO_at hv)]; omega) (Nat.le_refl _) (fp_cut C.hB (p := fun _ => true) (fun _ _ _ e => e) (cut_all B) (fun i W hW => by show rs i - 1 = _; rw [hr i W hW, cut_all_cnt C.hB (p := fun _ => true) (fun _ _ _ e => e) (List.mem_of_getElem? hW) (cut_all B)]; rfl))
  | ahead => cases hc
  | nowhere => cases hc
theorem mi_ok (χ : Chi) {snap : Nat} (C : MC A bf mi sb vs B) : IterOK Tryz.prog χ (mrgW vs snap B) 166 (.pointer (some ⟨mi, 0, none⟩)) (MIt A bf mi sb vs snap B) where
  low := fun ⟨q, Q, _⟩ => Q.2.1
  stab := fun ⟨q, Q, hr⟩ hs hz => ⟨q, Q.stab hs hz, hr⟩
  first := fun ⟨q, Q, _⟩ => by
    obtain ⟨hb, hl, rs, rev, dir, qq, st, en, bv, X, _⟩ := Q
    exact ⟨_, _, ok_keyspan_MergingIter_First, m_MiFirst _, (c_MFirst C hb hl X).mono fun r h' P => first_of C P⟩
  last := fun ⟨q, Q, _⟩ => by
    obtain ⟨hb, hl, rs, rev, dir, qq, st, en, bv, X, _⟩ := Q
    exact ⟨_, _, ok_keyspan_MergingIter_Last, m_MiLast _, (c_MLast C hb hl X).mono fun r h' P => last_of C P⟩
  next := fun ⟨q, Q, hr⟩ hc => by
    obtain ⟨h1, h2⟩ := fwd_next hr hc
    obtain ⟨h3, h4⟩ := mnext (χ := χ) C Q h1
    exact ⟨_, _, ok_keyspan_MergingIter_Next, m_MiNext _, h3.mono fun r h' P => by
      have := itpost_of P h4
      rw [h2] at this; exact this⟩
  prev := fun ⟨q, Q, hr⟩ hc => by
    obtain ⟨h1, h2⟩ := bwd_prev hr hc
    obtain ⟨h3, h4⟩ := mprev (χ := χ) C Q h1
    exact ⟨_, _, ok_keyspan_MergingIter_Prev, m_MiPrev _, h3.mono fun r h' P => by
      have := itpost_of P h4
      rw [h2] at this; exact this⟩
  ge := fun {p F h kv key} ⟨q, Q, _⟩ hk => by
    obtain ⟨hb, hl, rs, rev, dir, qq, st, en, bv, X, _⟩ := Q
    refine ⟨_, _, ok_keyspan_MergingIter_SeekGE, m_MiSeekGE _, (c_MSeekGE C hb hl X hk).mono fun r h' P => ?_⟩
    have e : pGE (mrgW vs snap B) key = fwdP (covF (wsO vs)) (sgM vs snap B) (pGE (sgM vs snap B) key) := ge_pos (segs_ord C.hB) (cov_shrink C.hB)
    rw [e]
    refine itpost_of P ?_
    unfold pGE
    split
    · simp only [fwdP]; split <;> simp
    · simp [fwdP]
  lt := fun {p F h kv key} ⟨q, Q, _⟩ hk => by
    obtain ⟨hb, hl, rs, rev, dir, qq, st, en, bv, X, _⟩ := Q
    refine ⟨_, _, ok_keyspan_MergingIter_SeekLT, m_MiSeekLT _, (c_MSeekLT C hb hl X hk).mono fun r h' P => ?_⟩
    have e : pLT (mrgW vs snap B) key = bwdP (covF (wsO vs)) (sgM vs snap B) (pLT (sgM vs snap B) key) := lt_pos (segs_ord C.hB) (cov_shrink C.hB)
    rw [e]
    refine itpost_of P ?_
    unfold pLT
    split
    · simp [bwdP]
    · simp only [bwdP]; split <;> simp
  err := fun ⟨q, Q, _⟩ => by
    obtain ⟨hb, hl, rs, rev, dir, qq, st, en, bv, ⟨s0, s1, s2, s3, kv, L, tl, lk, lb, H, o⟩, h2, h3, h4⟩ := Q
    refine ⟨_, _, ok_keyspan_MergingIter_Error, m_MiError _, ?_⟩
    have hq := q_lt h2
    cases qq with
    | nil => exact c_mErr0 (q := []) H hq
    | cons x q2 => exact c_mErr1 (q := q2) H hq
end
set_option maxHeartbeats 1000000
def RBN (A : Nat → Prop) (h : Heap) (v : Value) (s : ByteArray) : Prop := RBytes A h v s ∧ NN v
def PSpanN (A : Nat → Prop) (h : Heap) (b o : Nat) (s : SpanD) : Prop := ∃ sv ev kv, CellsAt h b o [sv, ev, kv, .int .i8 0] ∧ RBN A h sv s.s ∧ RBN A h ev s.e ∧ PKeys A h kv s.ks
def PSpansN (A : Nat → Prop) (h : Heap) (v : Value) (l : List SpanD) : Prop := SlR h A 4 (PSpanN A) v l
def cPSpanN (A : Nat → Prop) (h : Heap) (c : List Value) (s : SpanD) : Prop := ∃ sv ev kv, c = [sv, ev, kv, .int .i8 0] ∧ RBN A h sv s.s ∧ RBN A h ev s.e ∧ PKeys A h kv s.ks
theorem cPSpanN_st : RStab cPSpanN := ⟨fun _ _ _ _ _ s ⟨a, b, c, e, h1, h2, h3⟩ => ⟨a, b, c, e, ⟨h1.1.stab s, h1.2⟩, ⟨h2.1.stab s, h2.2⟩, h3.stab s⟩, fun _ _ _ _ _ s ⟨a, b, c, e, h1, h2, h3⟩ => ⟨a, b, c, e, ⟨h1.1.mono s, h1.2⟩, ⟨h2.1.mono s, h2.2⟩, h3.mono s⟩⟩
theorem cPSpanN_r (F : Nat → Prop) (h : Heap) (b o : Nat) (c : List Value) (a : SpanD) (hc : CellsAt h b o c) (hr : cPSpanN F h c a) : PSpanN F h b o a := by obtain ⟨x, y, z, rfl, h1, h2, h3⟩ := hr; exact ⟨x, y, z, hc, h1, h2, h3⟩
theorem PSpanN.p {A : Nat → Prop} {h : Heap} {b o : Nat} {s : SpanD} (H : PSpanN A h b o s) : PSpan A h b o s := by
  obtain ⟨sv, ev, kv, hc, h1, h2, h3⟩ := H
  exact ⟨sv, ev, kv, 0, hc, h1.1, h2.1, h3⟩
theorem PSpanN.stab {A : Nat → Prop} {h h' : Heap} {b o : Nat} {s : SpanD} (hb : A b) (H : PSpanN A h b o s) (k : Stab A h h') : PSpanN A h' b o s := by
  obtain ⟨sv, ev, kv, hc, h1, h2, h3⟩ := H
  exact ⟨sv, ev, kv, k.cells hb hc, ⟨h1.1.stab k, h1.2⟩, ⟨h2.1.stab k, h2.2⟩, h3.stab k⟩
theorem PSpanN.mono {A A' : Nat → Prop} {h : Heap} {b o : Nat} {s : SpanD} (H : PSpanN A h b o s) (k : ∀ b, A b → A' b) : PSpanN A' h b o s := by
  obtain ⟨sv, ev, kv, hc, h1, h2, h3⟩ := H
  exact ⟨sv, ev, kv, hc, ⟨h1.1.mono k, h1.2⟩, ⟨h2.1.mono k, h2.2⟩, h3.mono k⟩
theorem PSpansN.stab {A : Nat → Prop} {h h' : Heap} {v : Value} {l : List SpanD} (H : PSpansN A h v l) (k : Stab A h h') : PSpansN A h' v l := SlR.stab H fun _ _ _ hb hc => hc.stab hb k
theorem PSpansN.mono {A A' : Nat → Prop} {h : Heap} {v : Value} {l : List SpanD} (H : PSpansN A h v l) (k : ∀ b, A b → A' b) : PSpansN A' h v l := SlR.mono H k fun _ _ _ _ hc => hc.mono k
theorem PSpansN.p {A : Nat → Prop} {h : Heap} {v : Value} {l : List SpanD} (H : PSpansN A h v l) : PSpans A h v l := SlR.mono H (fun _ hb => hb) fun _ _ _ _ hc => hc.p
theorem c_spanN (χ : Chi) (h : Heap) (A : Nat → Prop) (hA : Low A h) (s : SpanD) (kv : Value) (hks : RKeys A h kv s.ks) (hm : SpanD.small s) :
    Cl Tryz.prog χ 67 #[.agg #[.string s.s, .string s.e, kv]] h
      (fun r h' => (∃ sv ev kv', r = .agg #[sv, ev, kv', .int .i8 0] ∧ RBN (Up N0 h h') h' sv s.s ∧ RBN (Up N0 h h') h' ev s.e ∧ PKeys (Up N0 h h') h' kv' s.ks) ∧ Keep [] h h') := by
  obtain ⟨ka, kc, rfl⟩ := hks.form2
  refine cl_intro Tryz.func67 rfl rfl rfl ?_
  have K : Keep [] h h := Keep.refl _ _
  refine rG <| rs_w (w_newbox rfl) rfl ?_
  rintro _ h1 ⟨rfl, B1, K1, Z1⟩
  have S1 := K.1; have K := K.new0 K1
  refine rs_w (w_new zero_keyspan_Span) rfl ?_
  rintro _ h2 ⟨rfl, B2, K2, Z2⟩
  have B1 := K2.blk (by simp) B1
  have S2 := K.1; have K := K.new0 K2
  refine rN ?_
  refine tr_seq ?_
  have S0 : h.size ≤ h2.size := K.1
  have hA2 := hA.mono S0
  refine tr_draw [(true, 10), (false, 1)] _ (by kernel_rfl) (by kernel_rfl) (by kernel_rfl) ?_
  refine rx_any (Keep []) (keep_pre _) ?_
  refine rm_v (keep_pre _) (fun h' hk => v_fieldAddr fa_impl_Span_0 rfl) ?_
  refine rm_v (keep_pre _) (fun h' hk => v_load one_string rfl (Blk.cell (hk.blk (by simp) B1) _ rfl)) ?_
  refine rm_w (fun v h' => RBN (Up N0 h2 h') h' v s.s) (fun v _ _ k1 k2 hr => ⟨upb (n0low _) k1.1 hr.1 k2, hr.2⟩) (fun h' hk => OpW.mono (w_bytes u_string u_sl_uint8 u_uint8 rfl hm.1) (fun v h'' hv => by
    obtain ⟨c, e, K', r⟩ := hv
    exact ⟨K', r.mono (fun b hb => .inr ⟨by have := hk.1; omega, hb.2⟩), ⟨_, _, _, e⟩⟩)) ?_
  refine rm_v (keep_pre _) (fun h' hk => v_fieldAddr fa_impl_Span_1 rfl) ?_
  refine rm_v (keep_pre _) (fun h' hk => v_load one_string rfl (Blk.cell (hk.blk (by simp) B1) _ rfl)) ?_
  refine rm_w (fun v h' => RBN (Up N0 h2 h') h' v s.e) (fun v _ _ k1 k2 hr => ⟨upb (n0low _) k1.1 hr.1 k2, hr.2⟩) (fun h' hk => OpW.mono (w_bytes u_string u_sl_uint8 u_uint8 rfl hm.2.1) (fun v h'' hv => by
    obtain ⟨c, e, K', r⟩ := hv
    exact ⟨K', r.mono (fun b hb => .inr ⟨by have := hk.1; omega, hb.2⟩), ⟨_, _, _, e⟩⟩)) ?_
  refine rm_v (keep_pre _) (fun h' hk => v_fieldAddr fa_impl_Span_2 rfl) ?_
  refine rm_v (keep_pre _) (fun h' hk => v_load one_sl_impl_SpanKey rfl (Blk.cell (hk.blk (by simp) B1) _ rfl)) ?_
  refine rm_w (fun v h' => PKeys (Up N0 h2 h') h' v s.ks) (fun v _ _ k1 k2 hr => upp (n0low _) k1.1 hr k2) (fun h' hk => OpW.mono (w_call (vs := [_]) ok_impl_spanKeys rfl ⟨rfl, trivial⟩ (c_spanKeys χ h' A (hA.mono (K.new0 hk).1) _ s.ks (hks.stab ((K.new0 hk).st hA)) hm.2.2.1 hm.2.2.2)) (fun v h'' hv => ⟨hv.2, hv.1.mono (Up.trans2 hk.1 (Nat.le_refl _))⟩)) ?_
  refine rm_o3 5 8 11 (fun v h' => ∃ sv ev kv', v = .agg #[sv, ev, kv', .int .i8 0] ∧ RBN (Up N0 h2 h') h' sv s.s ∧ RBN (Up N0 h2 h') h' ev s.e ∧ PKeys (Up N0 h2 h') h' kv' s.ks) rfl rfl rfl rfl rfl rfl (by kernel_rfl) (by kernel_rfl) (by kernel_rfl)
    (fun v _ _ k1 k2 hr => by obtain ⟨a, b, c, e, r1, r2, r3⟩ := hr; exact ⟨a, b, c, e, ⟨upb (n0low _) k1.1 r1.1 k2, r1.2⟩, ⟨upb (n0low _) k1.1 r2.1 k2, r2.2⟩, upp (n0low _) k1.1 r3 k2⟩)
    (fun u u2 u3 h' hk hu hu2 hu3 => by
      obtain ⟨a1, n1, c1, rfl⟩ := hu.1.form2
      obtain ⟨a2, n2, c2, rfl⟩ := hu2.1.form2
      obtain ⟨a3, n3, c3, rfl⟩ := hu3.form2
      exact (v_build3 rfl rfl rfl (bld_keyspan_Span_0_1_2 _ _ _ _ _ _ _ _ _)).w.mono (fun _ _ e => by obtain ⟨e1, e2⟩ := e; subst e1; subst e2; exact ⟨Keep.refl _ _, _, _, _, rfl, hu, hu2, hu3⟩)) ?_
  refine rm_end ?_; intro ha Ka; simp only [endM, hypF, ofE, argE, List.nil_append]
  intro v12 hv12 v11 _ v8 _ v5 _
  obtain ⟨sv, ev, kv', rfl, r1, r2, r3⟩ := hv12
  obtain ⟨a1, n1, c1, rfl⟩ := r1.1.form2
  obtain ⟨a2, n2, c2, rfl⟩ := r2.1.form2
  obtain ⟨a3, n3, c3, rfl⟩ := r3.form2
  have B2 := Ka.blk (by simp) B2
  have K := K.new0 Ka; have Za := Ka.1
  refine rx_seq ?_
  refine rs_w0 (w_put siz_keyspan_Span rfl rfl rfl rfl B2 rfl) ?_
  rintro _ h3 ⟨B3, K3⟩
  have K := K.new1 K3 (.inr (by omega))
  refine rs_nil ?_
  refine q_con ?_
  refine rx_nil ?_
  refine q_thn ?_
  refine tr_ret <| q_ret (res_cell (vs := [_, _, _, _]) rfl rfl many_keyspan_Span (by exact B3.sub 0 4 rfl)) ?_
  have hs := stab_skip (n0low h) S0 Za K3 (by omega) (by omega)
  exact ⟨⟨_, _, _, rfl, ⟨(r1.1.stab hs).mono (Up.trans2 S0 K3.1), r1.2⟩, ⟨(r2.1.stab hs).mono (Up.trans2 S0 K3.1), r2.2⟩, (r3.stab hs).mono (Up.trans2 S0 K3.1)⟩, K⟩
theorem c_spansN (χ : Chi) (h : Heap) (A : Nat → Prop) (hA : Low A h) (v : Value) (W : List SpanD) (hW : RSpans A h v W) (hn : W.length ≤ 100000) (hm : ∀ s, s ∈ W → SpanD.small s) :
    Cl Tryz.prog χ 65 #[v] h (fun r h' => PSpansN (Up N0 h h') h' r W ∧ Keep [] h h') := by
  obtain ⟨hlen, a, c, rfl, hx⟩ := hW.form
  refine cl_intro Tryz.func65 rfl rfl rfl ?_
  have K : Keep [] h h := Keep.refl _ _
  refine rG <| rA rfl rfl <| rN <| rG <| rA rfl rfl <| rN ?_
  refine tr_seq ?_
  refine rG <| rM rfl rfl <| rs_v (v_len u_sl_impl_Span rfl) rfl ?_
  refine rM rfl rfl <| rN <| tr_block ?_
  refine tr_loop (fun m E h' => ∃ k v n, k ≤ W.length ∧ m = W.length - k ∧ E = [(3, v), (6, .slice a W.length c), (7, .int .i64 (W.length : Int)), (8, .int .i64 (k : Int))] ∧ Keep [] h h' ∧ n = (W.take k).length ∧ OutR N0 h h' h.size 89 4 cPSpanN v n (W.take k)) W.length [(3, _), (6, _), (7, _), (8, _)] ⟨rfl, rfl, rfl, rfl, trivial⟩ ⟨0, _, 0, Nat.zero_le _, rfl, rfl, K, rfl, OutR.nil _ _ _ _ _ _ _⟩ ?_
  rintro m E hL1 ⟨k, v, n, hk, rfl, rfl, K, hn, hout⟩
  have hout0 := hout
  obtain ⟨xs, F, O, hrow, hF⟩ := hout
  have hob := own_ne O; have KL := Keep.refl [] hL1
  refine rG <| rs_v (v_lt rfl rfl) rfl ?_
  refine rN ?_
  refine tr_seq ?_
  refine tr_ifn rfl (fun hif => ?_) (fun hif => ?_)
  · -- no
    simp only [dT, dF] at hif
    have hkk : k = W.length := by omega
    subst hkk
    refine tr_exit <| q_thn_exit ?_
    refine q_lp_exit ?_
    refine q_blk_hit ?_
    refine q_thn ?_
    refine rG <| rM rfl rfl <| rA rfl rfl <| rN <| tr_ret <| q_ret (res_tmp rfl rfl) ?_
    rw [List.take_length] at hout0 hn
    exact ⟨hout0.fin cPSpanN_st hn (Nat.le_refl _) cPSpanN_r, K⟩
  -- yes
  simp only [dT, dF] at hif
  rcases hx with rfl | ⟨b, o, rfl, hAb, hR⟩
  · simp at hif; omega
  obtain ⟨x, hsk⟩ := ex_get (L := W) (k := k) (by omega)
  have hkl : k < W.length := (List.getElem?_eq_some_iff.1 hsk).1
  have KL0 := K.1
  obtain ⟨kv, hcc, hkx⟩ := hR k x hsk
  obtain ⟨ka, kc, rfl⟩ := hkx.form2
  have hcells := K.cells (by simp) hcc
  have hnk : n = k := by rw [hn, List.length_take]; omega
  refine tr_skip ?_
  refine q_thn ?_
  refine tr_seq ?_
  refine tr_block <| rG <| rs_v (v_indexAddrN u_sl_impl_Span siz_impl_Span rfl rfl (by omega)) rfl ?_
  refine rs_v (v_loadAgg (vs := [_, _, _]) many_impl_Span rfl (by exact hcells)) rfl ?_
  refine rs_w (w_new zero_impl_Span) rfl ?_
  rintro _ h2 ⟨rfl, B2, K2, Z2⟩
  have O := O.keep2 K2 (fun x hm => by have := hob x hm; simp; try omega)
  have S2 := K.1; have K := K.new0 K2; have KL := KL.new0 K2
  refine rs_w0 (w_put siz_impl_Span rfl rfl rfl rfl B2 rfl) ?_
  rintro _ h3 ⟨B3, K3⟩
  have O := O.keep2 K3 (fun x hm => by have := hob x hm; simp; try omega)
  have B2 := B3; have K := K.new1 K3 (by first | (right; omega) | (left; simp; done)); have Z3 := K3.1; have KL := KL.new1 K3 (.inr (by omega))
  refine rN ?_
  refine tr_reg ?_
  refine rM rfl rfl <| rs_v (v_loadAgg (vs := [_, _, _]) many_impl_Span rfl (by exact B2.sub _ 3 rfl)) rfl ?_
  refine rs_w (w_call (vs := [_]) ok_impl_Span_span rfl ⟨rfl, trivial⟩ (c_spanN χ _ A (hA.mono (by omega)) x _ (hkx.stab (K.st hA)) (hm x (List.mem_of_getElem? hsk)))) rfl ?_
  rintro _ h4 ⟨⟨sv, ev, kv4, rfl, r1, r2, r3⟩, K4⟩
  obtain ⟨a1, n1, c1, rfl⟩ := r1.1.form2
  obtain ⟨a2, n2, c2, rfl⟩ := r2.1.form2
  obtain ⟨a3, n3, c3, rfl⟩ := r3.form2
  have B2 := K4.blk (by simp) B2
  have O := O.keep2 K4 (fun x hm => by have := hob x hm; simp; try omega)
  have K := K.new0 K4; have Z4 := K4.1; have KL := KL.new0 K4
  refine rs_w (w_new1 u_sl_keyspan_Span siz_keyspan_Span zero_keyspan_Span rfl rfl rfl rfl rfl) rfl ?_
  rintro _ h5 ⟨rfl, B5, K5, Z5⟩
  have B2 := K5.blk (by simp) B2
  have O := O.keep2 K5 (fun x hm => by have := hob x hm; simp; try omega)
  have S5 := K.1; have K := K.new0 K5; have KL := KL.new0 K5
  refine rs_w (w_app1 u_sl_keyspan_Span info_keyspan_Span rfl rfl rfl O rfl rfl B5 rfl (by omega) (by omega) (by omega)) rfl ?_
  rintro v6 h6 ⟨O6, K6, N6, F6⟩
  have K := K.newX K6 (fun x hm => .inr (by have := hob x hm; omega)); have Z6 := K6.1
  have B2 := K6.blk (fun hm => by first | (have := hob _ hm; omega) | exact absurd rfl (hnb _ hm)) B2
  have B5 := K6.blk (fun hm => by first | (have := hob _ hm; omega) | exact absurd rfl (hnb _ hm)) B5
  refine rA rfl rfl ?_
  refine rs_nil ?_
  refine q_blk_n ?_
  refine q_thn ?_
  refine tr_reg ?_
  refine rs_v (v_add rfl rfl (by omega) (by omega)) rfl ?_
  refine rM rfl rfl ?_
  refine rs_nil ?_
  refine q_lp (W.length - (k + 1)) [(3, _), (6, _), (7, _), (8, _)] (by omega) ⟨rfl, rfl, rfl, rfl, trivial⟩ ⟨k + 1, v6, n + 1, by omega, rfl, rfl, K, ?_, ?_⟩
  · rw [take_snoc' hsk]; rw [List.length_append, ← hn]; rfl
  · rw [take_snoc' hsk]
    exact OutR.snoc cPSpanN_st (n0low h) (by omega) hob hrow hF KL0 KL O6 K6 F6 rfl (⟨_, _, _, rfl, ⟨(r1.1.stab (K5.st ((n0low _).up K4.1))).mono (Up.trans2 (by omega) K5.1), r1.2⟩, ⟨(r2.1.stab (K5.st ((n0low _).up K4.1))).mono (Up.trans2 (by omega) K5.1), r2.2⟩, (r3.stab (K5.st ((n0low _).up K4.1))).mono (Up.trans2 (by omega) K5.1)⟩)
set_option maxHeartbeats 1000000
theorem cells_app {h : Heap} {b o : Nat} {xs ys : List Value} (h1 : CellsAt h b o xs) (h2 : CellsAt h b (o + xs.length) ys) : CellsAt h b o (xs ++ ys) := fun j v hj => by
  by_cases e : j < xs.length
  · rw [List.getElem?_append_left e] at hj; exact h1 j v hj
  · rw [List.getElem?_append_right (by omega)] at hj
    have := h2 _ v hj
    rw [show o + xs.length + (j - xs.length) = o + j from by omega] at this
    exact this
theorem cells_flat {h : Heap} {b : Nat} : ∀ (l : List KT) (o : Nat), (∀ (i : Nat) y, l[i]? = some y → CellsAt h b (o + i * 3) y.cells) → CellsAt h b o ((l.map KT.cells).flatten)
  | [], o, _ => CellsAt.nil _ _ _
  | y :: l, o, hx => by
    rw [List.map_cons, List.flatten_cons]
    refine cells_app (by have := hx 0 y rfl; simpa using this) ?_
    refine cells_flat l _ fun i z hz => ?_
    have := hx (i + 1) z (by simpa using hz)
    rw [show o + (i + 1) * 3 = o + y.cells.length + i * 3 from by show o + (i + 1) * 3 = o + 3 + i * 3; omega] at this
    exact this
theorem keys_kt {A : Nat → Prop} {h : Heap} {kv : Value} {ks : List KeyD} (hK : PKeys A h kv ks) : ∃ l, KTR A h kv l ∧ l.map KT.k = ks := by
  obtain ⟨hl, a, c, e, hx⟩ := hK.form
  have hf : ∀ i : Nat, ∃ y : KT, ∀ b o k, a = some ⟨b, o, none⟩ → ks[i]? = some k → y.k = k ∧ CellsAt h b (o + i * 3) y.cells ∧ RBytes A h (.slice y.a1 y.n1 y.c1) y.k.suf ∧ RBytes A h (.slice y.a2 y.n2 y.c2) y.k.val := fun i => by
    rcases hx with e2 | ⟨b, o, ea, hA, hR⟩
    · exact ⟨default, fun b o k _ hk => (by rw [e2] at hk; cases hk)⟩
    · cases hk : ks[i]? with
      | none => exact ⟨default, fun b o k _ hk2 => by cases hk2⟩
      | some k =>
        obtain ⟨sv, vv, hc, h1, h2⟩ := hR i k hk
        obtain ⟨a1, c1, rfl⟩ := SlR.form2 h1
        obtain ⟨a2, c2, rfl⟩ := SlR.form2 h2
        exact ⟨⟨k, a1, _, c1, a2, _, c2⟩, fun b2 o2 k2 e1 e2 => (by rw [ea] at e1; cases e1; cases e2; exact ⟨rfl, hc, h1, h2⟩)⟩
  obtain ⟨f, hf⟩ := Classical.axiomOfChoice hf
  rcases hx with e2 | ⟨b, o, ea, hA, hR⟩
  · subst e2
    exact ⟨[], ⟨a, c, e, .inl rfl, fun y hy => by cases hy⟩, rfl⟩
  · have hmap : ((List.range ks.length).map f).map KT.k = ks := by
      apply List.ext_getElem?
      intro i
      rw [List.getElem?_map, List.getElem?_map]
      by_cases hi : i < ks.length
      · rw [List.getElem?_range hi, List.getElem?_eq_getElem hi]
        simp only [Option.map_some]
        rw [(hf i b o ks[i] ea (List.getElem?_eq_getElem hi)).1]
      · rw [List.getElem?_eq_none (l := ks) (by omega), List.getElem?_eq_none (l := List.range ks.length) (by rw [List.length_range]; omega)]; rfl
    refine ⟨(List.range ks.length).map f, ⟨a, c, by simpa using e, .inr ⟨b, o, ea, hA, cells_flat _ _ fun i y hy => ?_⟩, fun y hy => ?_⟩, hmap⟩
    · rw [List.getElem?_map] at hy
      by_cases hi : i < ks.length
      · rw [List.getElem?_range hi] at hy; cases hy
        exact (hf i b o ks[i] ea (List.getElem?_eq_getElem hi)).2.1
      · rw [List.getElem?_eq_none (l := List.range ks.length) (by rw [List.length_range]; omega)] at hy; cases hy
    · obtain ⟨i, hi, rfl⟩ := List.mem_map.1 hy
      have hi := List.mem_range.1 hi
      exact (hf i b o ks[i] ea (List.getElem?_eq_getElem hi)).2.2
def WOK (W : List SpanD) : Prop := W.length ≤ 1000 ∧ Tess.Ord W ∧ ∀ s, s ∈ W → s.ks.length ≤ 10000 ∧ ∀ k, k ∈ s.ks → 0 ≤ k.tr ∧ k.tr < 18446744073709551616
theorem mk_lev {A : Nat → Prop} {h : Heap} {a : Option Addr} {cc : Nat} {W : List SpanD} (hP : PSpansN A h (.slice a W.length cc) W) (hW : WOK W) (c : Nat) :
    ∃ v : Lev, v.W = W ∧ v.a = a ∧ v.cc = cc ∧ v.c = c ∧ LevS A v h ∧ (∀ s, (v.kt s).length ≤ 10000) ∧ (∀ (s : Nat) y, y ∈ v.kt s → 0 ≤ y.k.tr ∧ y.k.tr < 18446744073709551616) := by
  have hP0 := hP
  obtain ⟨hl, a', c', e, hx⟩ := hP
  cases e
  have hf : ∀ i : Nat, ∃ y : Value × Value × Value × List KT, (∀ x, W[i]? = some x → (∃ b o, a = some ⟨b, o, none⟩ ∧ A b ∧ CellsAt h b (o + i * 4) [y.1, y.2.1, y.2.2.1, .int .i8 0] ∧ RBytes A h y.1 x.s ∧ RBytes A h y.2.1 x.e ∧ PKeys A h y.2.2.1 x.ks) ∧ (KTR A h y.2.2.1 y.2.2.2 ∧ y.2.2.2.map KT.k = x.ks) ∧ NN y.1 ∧ NN y.2.1) ∧ (W[i]? = none → y.2.2.2 = []) := fun i => by
    cases hi : W[i]? with
    | none => exact ⟨⟨.nilIface, .nilIface, .nilIface, []⟩, fun x hx => (by cases hx), fun _ => rfl⟩
    | some x =>
      obtain ⟨b, o, ea, hA, sv, ev, kv, hc, h1, h2, h3⟩ := hx i x hi
      obtain ⟨l, hl1, hl2⟩ := keys_kt h3
      exact ⟨⟨sv, ev, kv, l⟩, fun y hy => (by cases hy; exact ⟨⟨b, o, ea, hA, hc, h1.1, h2.1, h3⟩, ⟨hl1, hl2⟩, h1.2, h2.2⟩), fun e => (by cases e)⟩
  obtain ⟨f, hf⟩ := Classical.axiomOfChoice hf
  have hkt : ∀ (s : Nat) y, y ∈ (f s).2.2.2 → ∃ x, W[s]? = some x ∧ y.k ∈ x.ks := fun s y hy => by
    cases hs : W[s]? with
    | none => rw [(hf s).2 hs] at hy; cases hy
    | some x =>
      refine ⟨x, rfl, ?_⟩
      rw [← ((hf s).1 x hs).2.1.2]
      exact List.mem_map_of_mem hy
  refine ⟨⟨W, a, cc, c, fun i => (f i).1, fun i => (f i).2.1, fun i => (f i).2.2.1, fun i => (f i).2.2.2⟩, rfl, rfl, rfl, rfl, ⟨hW.1, hW.2.1, hP0.p, fun s x hs => ((hf s).1 x hs).1, fun s x hs => ((hf s).1 x hs).2.1, fun s x hs => ((hf s).1 x hs).2.2⟩, fun s => ?_, fun s y hy => ?_⟩
  · show (f s).2.2.2.length ≤ 10000
    cases hs : W[s]? with
    | none => rw [(hf s).2 hs]; simp
    | some x =>
      have h1 := ((hf s).1 x hs).2.1.2
      have h2 := (hW.2.2 x (List.mem_of_getElem? hs)).1
      rw [← h1, List.length_map] at h2; exact h2
  · obtain ⟨x, hx, hm⟩ := hkt s y hy
    exact (hW.2.2 x (List.mem_of_getElem? hx)).2 _ hm
theorem KTR.mono {A A' : Nat → Prop} {h : Heap} {kv : Value} {l : List KT} (H : KTR A h kv l) (k : ∀ b, A b → A' b) : KTR A' h kv l := by
  obtain ⟨a, c, e, hc, hb⟩ := H
  refine ⟨a, c, e, ?_, fun y hy => ⟨(hb y hy).1.mono k, (hb y hy).2.mono k⟩⟩
  rcases hc with e2 | ⟨b, o, e2, hA, hc⟩
  · exact .inl e2
  · exact .inr ⟨b, o, e2, k b hA, hc⟩
theorem LevS.mono {A A' : Nat → Prop} {v : Lev} {h : Heap} (H : LevS A v h) (k : ∀ b, A b → A' b) : LevS A' v h :=
  ⟨H.hn, H.ord, H.sps.mono k, fun s x hs => by
    obtain ⟨b, o, e, hA, hc, h1, h2, h3⟩ := H.cells s x hs
    exact ⟨b, o, e, k b hA, hc, h1.mono k, h2.mono k, h3.mono k⟩, fun s x hs => ⟨KTR.mono (H.keys s x hs).1 k, (H.keys s x hs).2⟩, H.nn⟩
structure LvR where
  v : Lev
  lo : Nat
def LvX (F : Nat → Prop) (h : Heap) (x : LvR) : Prop := LevS (fun b => x.lo ≤ b ∧ b < x.v.c) x.v h ∧ Blk h x.v.c (itL (.slice x.v.a x.v.W.length x.v.cc) (-1)) 208 ∧ (∀ s, (x.v.kt s).length ≤ 10000) ∧ (∀ (s : Nat) y, y ∈ x.v.kt s → 0 ≤ y.k.tr ∧ y.k.tr < 18446744073709551616) ∧ x.lo ≤ x.v.c ∧ ∀ b, x.lo ≤ b → b ≤ x.v.c → F b
theorem LvX.stab {F : Nat → Prop} {h h' : Heap} {x : LvR} (H : LvX F h x) (k : Stab F h h') : LvX F h' x := by
  obtain ⟨h1, h2, h3, h4, h5, h6⟩ := H
  exact ⟨h1.stab (fun b hb => k b (h6 b hb.1 (by omega))), (k _ (h6 _ h5 (Nat.le_refl _))).trans h2, h3, h4, h5, h6⟩
theorem LvX.mono {F F' : Nat → Prop} {h : Heap} {x : LvR} (H : LvX F h x) (k : ∀ b, F b → F' b) : LvX F' h x := by
  obtain ⟨h1, h2, h3, h4, h5, h6⟩ := H
  exact ⟨h1, h2, h3, h4, h5, fun b hb hc => k b (h6 b hb hc)⟩
def cLv (F : Nat → Prop) (h : Heap) (c : List Value) (x : LvR) : Prop := c = [x.v.it] ∧ LvX F h x
def RLv (F : Nat → Prop) (h : Heap) (b o : Nat) (x : LvR) : Prop := CellsAt h b o [x.v.it] ∧ LvX F h x
theorem cLv_st : RStab cLv := ⟨fun _ _ _ _ _ s ⟨e, h⟩ => ⟨e, h.stab s⟩, fun _ _ _ _ _ s ⟨e, h⟩ => ⟨e, h.mono s⟩⟩
theorem cLv_r (F : Nat → Prop) (h : Heap) (b o : Nat) (c : List Value) (a : LvR) (hc : CellsAt h b o c) (hr : cLv F h c a) : RLv F h b o a := by obtain ⟨rfl, h⟩ := hr; exact ⟨hc, h⟩
def RLevel (A : Nat → Prop) (h : Heap) (b o : Nat) (W : List SpanD) : Prop := ∃ v, CellsAt h b o [v] ∧ RSpans A h v W
def RLevels (A : Nat → Prop) (h : Heap) (v : Value) (ws : List (List SpanD)) : Prop := SlR h A 1 (RLevel A) v ws
def cLevel (A : Nat → Prop) (h : Heap) (c : List Value) (W : List SpanD) : Prop := ∃ v, c = [v] ∧ RSpans A h v W
theorem RLevel.stab {A : Nat → Prop} {h h' : Heap} {b o : Nat} {W : List SpanD} (hb : A b) (H : RLevel A h b o W) (k : Stab A h h') : RLevel A h' b o W := by
  obtain ⟨v, h1, h2⟩ := H
  exact ⟨v, k.cells hb h1, h2.stab k⟩
theorem RLevels.stab {A : Nat → Prop} {h h' : Heap} {v : Value} {ws : List (List SpanD)} (H : RLevels A h v ws) (k : Stab A h h') : RLevels A h' v ws := SlR.stab H fun _ _ _ hb hc => hc.stab hb k
theorem RLevels.mono {A A' : Nat → Prop} {h : Heap} {v : Value} {ws : List (List SpanD)} (H : RLevels A h v ws) (k : ∀ b, A b → A' b) : RLevels A' h v ws := SlR.mono H k fun _ _ _ _ ⟨v, h1, h2⟩ => ⟨v, h1, h2.mono k⟩
theorem cLevel_st : RStab cLevel := ⟨fun _ _ _ _ _ s ⟨v, e, h⟩ => ⟨v, e, h.stab s⟩, fun _ _ _ _ _ s ⟨v, e, h⟩ => ⟨v, e, h.mono s⟩⟩
theorem cLevel_r (F : Nat → Prop) (h : Heap) (b o : Nat) (c : List Value) (a : List SpanD) (hc : CellsAt h b o c) (hr : cLevel F h c a) : RLevel F h b o a := by obtain ⟨v, rfl, h⟩ := hr; exact ⟨v, hc, h⟩
theorem c_fragments (χ : Chi) (h : Heap) (A : Nat → Prop) (hA : Low A h) (v : Value) (ws : List (List SpanD)) (hW : RLevels A h v ws) (hn : ws.length ≤ 10) (hok : ∀ W, W ∈ ws → WOK W) (hm : ∀ W, W ∈ ws → ∀ s, s ∈ W → SpanD.small s) :
    Cl Tryz.prog χ 44 #[v] h (fun r h' => ∃ ls : List LvR, SlR h' (Up N0 h h') 1 (RLv (Up N0 h h')) r ls ∧ ls.map (fun x => x.v.W) = ws ∧ ls.Pairwise (fun x y => x.v.c < y.lo) ∧ (∀ x, x ∈ ls → h.size ≤ x.lo ∧ x.v.c < h'.size) ∧ Keep [] h h') := by
  obtain ⟨hlen, a, c, rfl, hx⟩ := hW.form
  refine cl_intro Tryz.func44 rfl rfl rfl ?_
  have K : Keep [] h h := Keep.refl _ _
  refine rG <| rA rfl rfl <| rN <| rG <| rA rfl rfl <| rN ?_
  refine tr_seq ?_
  refine rG <| rM rfl rfl <| rs_v (v_len u_sl_sl_impl_Span rfl) rfl ?_
  refine rM rfl rfl <| rN <| tr_block ?_
  refine tr_loop (fun m E h' => ∃ k v n ls, k ≤ ws.length ∧ m = ws.length - k ∧ E = [(3, v), (6, .slice a ws.length c), (7, .int .i64 (ws.length : Int)), (8, .int .i64 (k : Int))] ∧ Keep [] h h' ∧ n = k ∧ ls.length = k ∧ OutR N0 h h' h.size 93 1 cLv v n ls ∧ ls.map (fun x => x.v.W) = ws.take k ∧ ls.Pairwise (fun x y => x.v.c < y.lo) ∧ (∀ x, x ∈ ls → h.size ≤ x.lo ∧ x.v.c < h'.size)) ws.length [(3, _), (6, _), (7, _), (8, _)] ⟨rfl, rfl, rfl, rfl, trivial⟩ ⟨0, _, 0, [], Nat.zero_le _, rfl, rfl, K, rfl, rfl, OutR.nil _ _ _ _ _ _ _, rfl, List.Pairwise.nil, fun x hx => (by cases hx)⟩ ?_
  rintro m E hL1 ⟨k, v, n, ls, hk, rfl, rfl, K, hnk, hlk, hout, hmap, hpw, hall⟩
  subst hnk
  have hout0 := hout
  obtain ⟨xs, F, O, hrow, hF⟩ := hout
  have hob := own_ne O; have KL := Keep.refl [] hL1
  refine rG <| rs_v (v_lt rfl rfl) rfl ?_
  refine rN ?_
  refine tr_seq ?_
  refine tr_ifn rfl (fun hif => ?_) (fun hif => ?_)
  · -- no
    simp only [dT, dF] at hif
    have hkk : n = ws.length := by omega
    refine tr_exit <| q_thn_exit ?_
    refine q_lp_exit ?_
    refine q_blk_hit ?_
    refine q_thn ?_
    refine rG <| rM rfl rfl <| rA rfl rfl <| rN <| tr_ret <| q_ret (res_tmp rfl rfl) ?_
    refine ⟨ls, hout0.fin cLv_st (by omega) (Nat.le_refl _) cLv_r, ?_, hpw, hall, K⟩
    rw [hmap, hkk, List.take_length]
  -- yes
  simp only [dT, dF] at hif
  rcases hx with rfl | ⟨b, o, rfl, hAb, hR⟩
  · simp at hif; omega
  obtain ⟨W, hsk⟩ := ex_get (L := ws) (k := n) (by omega)
  have hkl : n < ws.length := (List.getElem?_eq_some_iff.1 hsk).1
  have KL0 := K.1
  have hWm := List.mem_of_getElem? hsk
  obtain ⟨kv, hcc, hkx⟩ := hR n W hsk
  obtain ⟨ka, kc, rfl⟩ := SlR.form2 hkx
  have hcells := K.cells (by simp) hcc
  have hWS := hkx.stab (K.st hA)
  have hWn : W.length ≤ 100000 := by have := (hok W hWm).1; omega
  have hWm := hm W hWm
  have hokW := hok W (List.mem_of_getElem? hsk)
  refine tr_skip ?_
  refine q_thn ?_
  refine tr_seq ?_
  refine tr_block <| rG <| rs_v (v_indexAddrN u_sl_sl_impl_Span siz_sl_impl_Span rfl rfl (by omega)) rfl ?_
  refine rs_v (v_load one_sl_impl_Span rfl (by exact hcells 0 _ rfl)) rfl ?_
  refine rA rfl rfl <| rN ?_
  refine tr_draw [(true, 10), (false, 2)] _ (by kernel_rfl) (by kernel_rfl) (by kernel_rfl) ?_
  refine rx_any (Keep []) (keep_pre _) ?_
  refine rm_v (keep_pre _) (fun h' hk => v_move rfl) ?_
  refine rm_w (fun v h' => ∃ g rest, v = .pointer (some ⟨g, 0, none⟩) ∧ Blk h' g (cmpF :: rest) 136) (fun v _ _ k1 k2 hr => by obtain ⟨g, rest, e, B⟩ := hr; exact ⟨g, rest, e, k2.blk (by simp) B⟩) (fun h' hk => OpW.mono (w_call (vs := []) ok_base_DefaultComparer rfl trivial (c_DefaultComparer χ h')) (fun v h'' hv => by obtain ⟨e, ⟨rest, B⟩, K'⟩ := hv; exact ⟨K', _, rest, e, B⟩)) ?_
  refine rm_o 13 (fun v h' => ∃ g rest, v = .pointer (some ⟨g, 0, none⟩) ∧ Blk h' g (cmpF :: rest) 136) rfl (by kernel_rfl) (fun v _ _ k1 k2 hr => by obtain ⟨g, rest, e, B⟩ := hr; exact ⟨g, rest, e, k2.blk (by simp) B⟩) (fun u h' hk hu => by
    obtain ⟨g, rest, rfl, B⟩ := hu
    exact (v_nilCheck_ptr rfl).w.mono (fun _ _ e => by obtain ⟨e1, e2⟩ := e; subst e1; subst e2; exact ⟨Keep.refl _ _, g, rest, rfl, B⟩)) ?_
  refine rm_o 14 (fun v h' => ∃ g rest, v = .pointer (some ⟨g, 0, none⟩) ∧ Blk h' g (cmpF :: rest) 136) rfl (by kernel_rfl) (fun v _ _ k1 k2 hr => by obtain ⟨g, rest, e, B⟩ := hr; exact ⟨g, rest, e, k2.blk (by simp) B⟩) (fun u h' hk hu => by
    obtain ⟨g, rest, rfl, B⟩ := hu
    exact (v_fieldAddr fa_base_Comparer_0 rfl).w.mono (fun _ _ e => by obtain ⟨e1, e2⟩ := e; subst e1; subst e2; exact ⟨Keep.refl _ _, g, rest, rfl, B⟩)) ?_
  refine rm_o 15 (fun v h' => v = cmpF) rfl (by kernel_rfl) (fun v _ _ k1 k2 hr => hr) (fun u h' hk hu => by
    obtain ⟨g, rest, rfl, B⟩ := hu
    exact (v_load one_base_Compare rfl (Blk.cell B 0 rfl)).w.mono (fun _ _ e => by obtain ⟨e1, e2⟩ := e; subst e1; subst e2; exact ⟨Keep.refl _ _, rfl⟩)) ?_
  refine rm_v (keep_pre _) (fun h' hk => v_move rfl) ?_
  refine rm_w (fun v h' => PSpansN (Up N0 hL1 h') h' v W) (fun v _ _ k1 k2 hr => (hr.stab (k2.st ((n0low _).up k1.1))).mono (Up.grow k2.1)) (fun h' hk => OpW.mono (w_call (vs := [_]) ok_impl_spans rfl ⟨rfl, trivial⟩ (c_spansN χ h' A (hA.mono (K.new0 hk).1) _ W (hWS.stab (hk.st (hA.mono KL0))) hWn hWm)) (fun v h'' hv => ⟨hv.2, hv.1.mono (Up.trans2 hk.1 (Nat.le_refl _))⟩)) ?_
  refine rm_o2 16 18 (fun v h' => ∃ b a c, v = .pointer (some ⟨b, 0, none⟩) ∧ hL1.size ≤ b ∧ Blk h' b (itL (.slice a W.length c) (-1)) 208 ∧ PSpansN (fun x => hL1.size ≤ x ∧ x < b) h' (.slice a W.length c) W) rfl rfl rfl (by kernel_rfl) (by kernel_rfl) (fun v _ _ k1 k2 hr => by obtain ⟨b, a, c, e, hb, B, hp⟩ := hr; exact ⟨b, a, c, e, hb, k2.blk (by simp) B, hp.stab (k2.stab fun x hx => ⟨by have := B.lt; have := hx.2; omega, by simp⟩)⟩) (fun u u2 h' hk hu hu2 => by
    subst hu
    obtain ⟨a, c, rfl⟩ := SlR.form2 hu2
    exact OpW.mono (w_call (vs := [_, _]) ok_keyspan_NewIter rfl ⟨rfl, rfl, trivial⟩ (c_NewIter χ h' a W.length c)) (fun v h'' hv => by
      obtain ⟨e, B, Kn⟩ := hv
      exact ⟨Kn, _, a, c, e, hk.1, B, (PSpansN.stab hu2 (Kn.st ((n0low _).up hk.1))).mono (fun x hx => hx.elim (fun e => e.elim) id)⟩)) ?_
  refine rm_o 19 (fun v h' => ∃ b a c, v = .iface 171 (.pointer (some ⟨b, 0, none⟩)) ∧ hL1.size ≤ b ∧ Blk h' b (itL (.slice a W.length c) (-1)) 208 ∧ PSpansN (fun x => hL1.size ≤ x ∧ x < b) h' (.slice a W.length c) W) rfl (by kernel_rfl) (fun v _ _ k1 k2 hr => by obtain ⟨b, a, c, e, hb, B, hp⟩ := hr; exact ⟨b, a, c, e, hb, k2.blk (by simp) B, hp.stab (k2.stab fun x hx => ⟨by have := B.lt; have := hx.2; omega, by simp⟩)⟩) (fun u h' hk hu => by
    obtain ⟨b, a, c, rfl, hb, B, hp⟩ := hu
    exact (v_makeIface u_p_keyspan_Iter rfl).w.mono (fun _ _ e => by obtain ⟨e1, e2⟩ := e; subst e1; subst e2; exact ⟨Keep.refl _ _, b, a, c, rfl, hb, B, hp⟩)) ?_
  refine rm_o 20 (fun v h' => ∃ g b, v = .slice (some ⟨g, 0, none⟩) 1 1 ∧ b < g ∧ Blk h' g [.iface 171 (.pointer (some ⟨b, 0, none⟩))] 93 ∧ ∃ a c, hL1.size ≤ b ∧ Blk h' b (itL (.slice a W.length c) (-1)) 208 ∧ PSpansN (fun x => hL1.size ≤ x ∧ x < b) h' (.slice a W.length c) W) rfl (by kernel_rfl) (fun v _ _ k1 k2 hr => by
    obtain ⟨g, b, e, hbg, B0, a, c, hb, B, hp⟩ := hr
    exact ⟨g, b, e, hbg, k2.blk (by simp) B0, a, c, hb, k2.blk (by simp) B, hp.stab (k2.stab fun x hx => ⟨by have := B.lt; have := hx.2; omega, by simp⟩)⟩) (fun u h' hk hu => by
    obtain ⟨b, a, c, rfl, hb, B, hp⟩ := hu
    exact OpW.mono (w_new1 u_sl_keyspan_FragmentIterator siz_keyspan_FragmentIterator zero_keyspan_FragmentIterator rfl rfl rfl rfl rfl) (fun v h'' hv => by
      obtain ⟨e, B0, Kn, _⟩ := hv
      exact ⟨Kn, _, b, e, B.lt, B0, a, c, hb, Kn.blk (by simp) B, hp.stab (Kn.stab fun x hx => ⟨by have := B.lt; have := hx.2; omega, by simp⟩)⟩)) ?_
  refine rm_end ?_; intro ha Ka; simp only [endM, hypF, ofE, argE, List.nil_append]
  intro v21 h21 v20 _ v19 _ v18 _ v16 _ v15 _ v14 _ v13 _
  obtain ⟨g, bi, rfl, hbg, B0, wa, wc, hbi, Bi, hPW⟩ := h21
  have hbl := Bi.lt
  have hbg2 := B0.lt
  have O := O.keep2 Ka (fun x hm => by have := hob x hm; simp)
  have KL := KL.new0 Ka
  have K := K.new0 Ka
  refine rx_seq ?_
  refine rs_w (w_app1 u_sl_keyspan_FragmentIterator info_keyspan_FragmentIterator rfl rfl rfl O rfl rfl B0 rfl (by omega) (by omega) (by omega)) rfl ?_
  rintro v6 h2 ⟨O6, K6, N6, F6⟩
  have K := K.newX K6 (fun x hm => .inr (by have := hob x hm; omega)); have Z6 := K6.1
  refine rA rfl rfl ?_
  refine rs_nil ?_
  refine q_con ?_
  refine rx_nil ?_
  refine q_blk_n ?_
  refine q_thn ?_
  refine tr_reg ?_
  refine rs_v (v_add rfl rfl (by omega) (by omega)) rfl ?_
  refine rM rfl rfl ?_
  refine rs_nil ?_
  obtain ⟨lv, hv1, hv2, hv3, hv4, hv5, hv6, hv7⟩ := mk_lev hPW hokW bi
  have hcl : cLv (Up N0 hL1 ha) ha [.iface 171 (.pointer (some ⟨bi, 0, none⟩))] ⟨lv, hL1.size⟩ := by
    refine ⟨by unfold Lev.it; rw [hv4], ?_, ?_, hv6, hv7, ?_, fun b hb hc => .inr ⟨hb, ?_⟩⟩
    · show LevS (fun b => hL1.size ≤ b ∧ b < lv.c) lv ha
      rw [hv4]; exact hv5
    · show Blk ha lv.c (itL (.slice lv.a lv.W.length lv.cc) (-1)) _
      rw [hv4, hv1, hv2, hv3]; exact Bi
    · show hL1.size ≤ lv.c
      rw [hv4]; exact hbi
    · have hc2 : b ≤ lv.c := hc
      rw [hv4] at hc2; omega
  refine q_lp (ws.length - (n + 1)) [(3, _), (6, _), (7, _), (8, _)] (by omega) ⟨rfl, rfl, rfl, rfl, trivial⟩ ⟨n + 1, v6, n + 1, ls ++ [⟨lv, hL1.size⟩], by omega, rfl, rfl, K, rfl, by rw [List.length_append, hlk]; rfl, ?_, ?_, ?_, ?_⟩
  · exact OutR.snoc cLv_st (n0low h) (Nat.le_refl _) hob hrow hF KL0 KL O6 K6 F6 rfl hcl
  · rw [List.map_append, hmap, take_snoc' hsk]
    show _ ++ [lv.W] = _
    rw [hv1]
  · rw [List.pairwise_append]
    refine ⟨hpw, List.pairwise_singleton _ _, fun x hx y hy => ?_⟩
    rw [List.mem_singleton.1 hy]
    exact (hall x hx).2
  · intro x hx
    rcases List.mem_append.1 hx with hx | hx
    · have h1 := hall x hx
      have := KL.1
      exact ⟨h1.1, by omega⟩
    · rw [List.mem_singleton.1 hx]
      refine ⟨KL0, ?_⟩
      show lv.c < _
      rw [hv4]; omega
end Go.Proofs.YtmckkklhonfmcaaGreat
namespace Go.Tess
open Go.RowKit
theorem v_slice_ah {P : Program} {χ : Chi} {ρ : Operand → Option Value} {h : Heap} {dst : Option Tmp} {ty : TypeId} {pos : String} {after : Array Edge} {guard : Option (Nat × Bool)} {x y : Operand} {t e : TypeId} {sz b o i len : Nat} {k : IntKind} {j : Int} (ht : P.underlying t = some (.array len e)) (hs : Siz P e sz)
    (hx : ρ x = some (.pointer (some ⟨b, o, none⟩))) (hy : ρ y = some (.int k j)) (hj : j = (i : Int)) (hi : i ≤ len) : OpV P χ ⟨dst, .slice t x none (some y) none, ty, pos, after, guard⟩ ρ h (.slice (some ⟨b, o, none⟩) i len) := by
  intro r d hr
  have e1 := hr x (by simp [Op.operands]) _ hx
  have e2 := hr y (by simp [Op.operands]) _ hy
  subst hj
  have hl : P.arrayLen t = len := by simp [Program.arrayLen, ht]
  have he : P.elem t = e := by simp [Program.elem, ht]
  have h1 := run_sliceAt_array_h (w := mkw χ h d) t ⟨b, o, none⟩ (by rw [hl, he]; exact ht) k (i : Int) (by omega) (by rw [hl]; omega)
  rw [hl, he, hs, Result.andThen_ok] at h1
  have h2 : slicedAt ⟨b, o, none⟩ 0 (Int.toNat (i : Int)) len sz = .slice (some ⟨b, o, none⟩) i len := by
    simp only [slicedAt, Nat.zero_mul, Nat.sub_zero, Int.toNat_natCast]
    congr 1
    split
    · rfl
    · rw [addr_add0]
  rw [h2] at h1
  simp [execOp, e1, e2, h1]
end Go.Tess
namespace Go.Proofs.YtmckkklhonfmcaaGreat
open Go.Tess Go.RowKit
set_option maxRecDepth 100000
set_option maxHeartbeats 1000000
theorem u_arrL : Tryz.prog.underlying 100 = some (.array 10 99) := by kernel_rfl
theorem u_arrI : Tryz.prog.underlying 104 = some (.array 10 103) := by kernel_rfl
def zLv : LvD := ⟨.nilIface, 0, .slice none 0 0, .pointer none⟩
def zTl : List Value := (List.replicate 10 [Value.pointer none, Value.int .i64 0]).flatten
def Lz (vs : List Lev) (k : Nat) : List LvD := (List.range 10).map (fun i => if i < k then (match vs[i]? with | some v => v.at 0 | none => zLv) else zLv)
theorem Lz_len (vs : List Lev) (k : Nat) : (Lz vs k).length = 10 := by simp [Lz]
theorem Lz_at {vs : List Lev} {k i : Nat} {v : Lev} (hk : i < k) (hi : i < 10) (hv : vs[i]? = some v) : (Lz vs k)[i]? = some (v.at 0) := by
  unfold Lz
  rw [List.getElem?_map, List.getElem?_range hi, Option.map_some, if_pos hk, hv]
theorem Lz_zero (vs : List Lev) : Lz vs 0 = List.replicate 10 zLv := by
  apply List.ext_getElem
  · simp [Lz]
  · intro i h1 h2
    rw [List.getElem_replicate]
    simp only [Lz, List.getElem_map]
    exact if_neg (Nat.not_lt_zero _)
theorem Lz_set {vs : List Lev} {k : Nat} {v : Lev} (hv : vs[k]? = some v) (hk : k < 10) : (Lz vs k).set k (v.at 0) = Lz vs (k + 1) := by
  apply List.ext_getElem
  · simp [Lz]
  · intro i h1 h2
    rw [List.getElem_set]
    by_cases e : k = i
    · subst e; simp [Lz, hv]
    · rw [if_neg e]
      simp only [Lz, List.getElem_map, List.getElem_range]
      by_cases e2 : i < k
      · rw [if_pos e2, if_pos (by omega)]
      · rw [if_neg e2, if_neg (by omega)]
theorem at_zero (v : Lev) : v.at 0 = ⟨v.it, 0, .slice none 0 0, .pointer none⟩ := Lev.at0 (by unfold Lev.ok; omega)
theorem mi_setL4 {mi : Nat} {hd tl : List Value} {L : List LvD} {q : List Nat} {i : Nat} (l : LvD) (h10 : hd.length = 10) (hi : i < L.length) : putRow (miC mi hd L q tl) (10 + i * 4) l.cells = miC mi hd (L.set i l) q tl := by
  unfold miC
  rw [show hd ++ lvC L ++ itC mi q ++ tl = hd ++ lvC L ++ (itC mi q ++ tl) from by simp, ← h10, putRow_app _ _ _ _ _ (by rw [lvC_len]; simp [LvD.cells]; omega)]
  rw [show putRow (lvC L) (i * 4) l.cells = lvC (L.set i l) from flat_set (f := LvD.cells) (sz := 4) (fun _ => rfl) L hi l]
  simp
theorem c_MInit {χ : Chi} {bf mi sb : Nat} {vs : List Lev} {ai : Option Addr} {ci : Nat} {h : Heap} (B1 : Blk h mi [.pointer none, .slice none 0 0, .slice none 0 0, .nilIface, .slice none 0 0, .slice none 0 0, .slice none 0 0, .int .i8 0, .nilIface, .int .i8 0, .nilIface, .int .i8 0, .slice none 0 0, .pointer none, .nilIface, .int .i8 0, .slice none 0 0, .pointer none, .nilIface, .int .i8 0, .slice none 0 0, .pointer none, .nilIface, .int .i8 0, .slice none 0 0, .pointer none, .nilIface, .int .i8 0, .slice none 0 0, .pointer none, .nilIface, .int .i8 0, .slice none 0 0, .pointer none, .nilIface, .int .i8 0, .slice none 0 0, .pointer none, .nilIface, .int .i8 0, .slice none 0 0, .pointer none, .nilIface, .int .i8 0, .slice none 0 0, .pointer none, .nilIface, .int .i8 0, .slice none 0 0, .pointer none, .pointer none, .int .i64 0, .pointer none, .int .i64 0, .pointer none, .int .i64 0, .pointer none, .int .i64 0, .pointer none, .int .i64 0, .pointer none, .int .i64 0, .pointer none, .int .i64 0, .pointer none, .int .i64 0, .pointer none, .int .i64 0, .pointer none, .int .i64 0] 107) (B2 : Blk h bf [.slice none 0 0, .slice none 0 0, .nilFunc, .bool false, .slice none 0 0, .slice none 0 0] 116) (hne : bf ≠ mi) (hvl : vs.length ≤ 10)
    (hit : ∀ (i : Nat) v, vs[i]? = some v → ∃ b o, ai = some ⟨b, o, none⟩ ∧ cellH h b (o + i * 1) = some v.it ∧ b ≠ mi ∧ b ≠ bf) :
    Cl Tryz.prog χ 59 #[.pointer (some ⟨mi, 0, none⟩), cmpF, (.iface 188 (visF sb)), .pointer (some ⟨bf, 0, none⟩), .slice ai vs.length ci] h (fun r h' => r = .tuple #[] ∧ Blk h' bf [.slice none 0 0, .slice (some ⟨mi, 10, none⟩) vs.length 10, cmpF, .bool false, .slice (some ⟨mi, 50, none⟩) 0 10, .slice none 0 0] 116 ∧ MB mi (hdC bf (.slice none 0 0) (.slice none 0 0) (.iface 188 (visF sb)) (.slice none 0 0) (.slice none 0 0) (.slice none 0 0) (.int .i8 0) 0) (Lz vs vs.length) [] zTl h' ∧ Keep [mi, bf] h h') := by
  unfold cmpF visF
  refine cl_intro Tryz.func59 rfl rfl rfl ?_
  have K : Keep [mi, bf] h h := Keep.refl _ _
  refine rG <| rM rfl rfl <| rM rfl rfl <| rM rfl rfl <| rs_v (v_build2 rfl rfl (bld_keyspan_MergingIter_0_3 _ _ _)) rfl ?_
  refine rC rfl rfl <| rs_w0 (w_put siz_keyspan_MergingIter rfl rfl rfl rfl B1 rfl) ?_
  rintro _ h1 ⟨B9, K1⟩
  have K := K.trans (K1.sub (by simp))
  have M : MB mi (hdC bf (.slice none 0 0) (.slice none 0 0) (.iface 188 (visF sb)) (.slice none 0 0) (.slice none 0 0) (.slice none 0 0) (.int .i8 0) 0) (List.replicate 10 zLv) [] zTl h1 := ⟨B9, rfl, rfl, rfl⟩
  have B2 := K1.blk (by simpa using hne) B2
  refine rN <| rG <| rM rfl rfl <| rC rfl rfl <| rF fa_keyspan_MergingIter_0 rfl rfl <| rs_v (v_load one_p_keyspan_MergingBuffers rfl (by exact M.b2.cell 0 rfl)) rfl ?_
  refine rM rfl rfl <| rC rfl rfl <| rF fa_keyspan_MergingBuffers_2 rfl rfl <| rF fa_keyspan_mergingIterHeap_0 rfl rfl <| rs_w0 (w_put siz_base_Compare rfl rfl rfl rfl B2 rfl) ?_
  rintro _ h2 ⟨B2, K2⟩
  have K := K.trans (K2.sub (by simp))
  have M := M.keep K2 (by simpa using fun e => hne e.symm)
  refine rN ?_
  refine tr_seq ?_
  refine tr_quiet (by kernel_rfl) (by kernel_rfl) ?_
  refine rq_v (v_move rfl) <| rq_v (v_nilCheck_ptr rfl) <| rq_v (v_fieldAddr fa_keyspan_MergingIter_0 rfl) <| rq_v (v_load one_p_keyspan_MergingBuffers rfl (by exact M.b2.cell 0 rfl)) ?_
  refine rq_v (v_nilCheck_ptr rfl) <| rq_v (v_fieldAddr fa_keyspan_MergingBuffers_1 rfl) <| rq_v (v_load one_sl_keyspan_mergingIterLevel rfl (by exact B2.cell 1 rfl)) ?_
  refine rq_v (v_move rfl) <| rq_v (v_nilCheck_ptr rfl) <| rq_v (v_fieldAddr fa_keyspan_MergingIter_0 rfl) <| rq_v (v_load one_p_keyspan_MergingBuffers rfl (by exact M.b2.cell 0 rfl)) ?_
  refine rq_v (v_nilCheck_ptr rfl) <| rq_v (v_fieldAddr fa_keyspan_MergingBuffers_2 rfl) <| rq_v (v_fieldAddr fa_keyspan_mergingIterHeap_2 rfl) <| rq_v (v_load one_sl_keyspan_mergingIterItem rfl (by exact B2.cell 4 rfl)) ?_
  refine rq_v (v_assign rfl) <| rq_v (v_assign rfl) ?_
  refine rm_end ?_; simp only [endM, hypF, ofE, argE]
  refine q_thn ?_
  refine tr_seq ?_
  refine rG <| rM rfl rfl <| rs_v (v_len u_sl_keyspan_FragmentIterator rfl) rfl ?_
  refine rs_v (v_le rfl rfl) rfl ?_
  refine rN <| tr_if_t (lkb (decide_eq_true (by omega))) ?_
  refine tr_seq ?_
  refine tr_draw [(true, 11), (false, 3)] _ (by kernel_rfl) (by kernel_rfl) (by kernel_rfl) ?_
  refine rx_any Same same_pre ?_
  refine rq_v (v_move rfl) <| rq_v (v_nilCheck_ptr rfl) <| rq_v (v_fieldAddr fa_keyspan_MergingIter_0 rfl) <| rq_v (v_load one_p_keyspan_MergingBuffers rfl (by exact M.b2.cell 0 rfl)) ?_
  refine rq_v (v_move rfl) <| rq_v (v_nilCheck_ptr rfl) <| rq_v (v_fieldAddr fa_keyspan_MergingIter_7 rfl) <| rq_v (v_fieldAddr fa_struct_levels_10_keyspan_mergingIterLeve_165_0 rfl) <| rq_v (v_move rfl) <| rq_v (v_len u_sl_keyspan_FragmentIterator rfl) ?_
  refine rq_v (v_slice_ah (i := vs.length) u_arrL siz_keyspan_mergingIterLevel rfl rfl rfl hvl) ?_
  refine rm_end ?_; intro ha3 Ka3; simp only [endM, hypF, ofE, argE, List.nil_append]
  have Ka3 : h2 = ha3 := Eq.symm Ka3
  subst Ka3
  refine rx_seq ?_
  refine rC rfl rfl <| rF fa_keyspan_MergingBuffers_1 rfl rfl <| rs_w0 (w_put siz_sl_keyspan_mergingIterLevel rfl rfl rfl rfl B2 rfl) ?_
  rintro _ h4 ⟨B2, K4⟩
  have K := K.trans (K4.sub (by simp))
  have M := M.keep K4 (by simpa using fun e => hne e.symm)
  refine rs_nil ?_
  refine q_con ?_
  refine rx_nil ?_
  refine q_thn ?_
  refine tr_draw [(true, 9), (false, 4)] _ (by kernel_rfl) (by kernel_rfl) (by kernel_rfl) ?_
  refine rx_any Same same_pre ?_
  refine rq_v (v_move rfl) <| rq_v (v_nilCheck_ptr rfl) <| rq_v (v_fieldAddr fa_keyspan_MergingIter_0 rfl) <| rq_v (v_load one_p_keyspan_MergingBuffers rfl (by exact M.b2.cell 0 rfl)) ?_
  refine rq_v (v_move rfl) <| rq_v (v_nilCheck_ptr rfl) <| rq_v (v_fieldAddr fa_keyspan_MergingIter_7 rfl) <| rq_v (v_fieldAddr fa_struct_levels_10_keyspan_mergingIterLeve_165_1 rfl) <| rq_v (v_slice_ah (i := 0) u_arrI siz_keyspan_mergingIterItem rfl rfl rfl (Nat.zero_le _)) ?_
  refine rm_end ?_; intro ha5 Ka5; simp only [endM, hypF, ofE, argE, List.nil_append]
  have Ka5 : h4 = ha5 := Eq.symm Ka5
  subst Ka5
  refine rx_seq ?_
  refine rC rfl rfl <| rF fa_keyspan_MergingBuffers_2 rfl rfl <| rF fa_keyspan_mergingIterHeap_2 rfl rfl <| rs_w0 (w_put siz_sl_keyspan_mergingIterItem rfl rfl rfl rfl B2 rfl) ?_
  rintro _ h6 ⟨B2, K6⟩
  have K := K.trans (K6.sub (by simp))
  have M := M.keep K6 (by simpa using fun e => hne e.symm)
  refine rs_nil ?_
  refine q_con ?_
  refine rx_nil ?_
  refine q_thn ?_
  refine rG <| rM rfl rfl <| rC rfl rfl <| rF fa_keyspan_MergingIter_0 rfl rfl <| rs_v (v_load one_p_keyspan_MergingBuffers rfl (by exact M.b2.cell 0 rfl)) rfl ?_
  refine rC rfl rfl <| rF fa_keyspan_MergingBuffers_1 rfl rfl <| rs_v (v_load one_sl_keyspan_mergingIterLevel rfl (by exact B2.cell 1 rfl)) rfl ?_
  refine rs_v (v_len u_sl_keyspan_mergingIterLevel rfl) rfl ?_
  refine rM rfl rfl <| rN <| tr_block ?_
  refine tr_loop (fun m E h' => ∃ k, k ≤ vs.length ∧ m = vs.length - k ∧ E = [(0, .pointer (some ⟨mi, 0, none⟩)), (4, .slice ai vs.length ci), (119, .int .i64 (vs.length : Int)), (120, .int .i64 (k : Int))] ∧ Blk h' bf [.slice none 0 0, .slice (some ⟨mi, 10, none⟩) vs.length 10, .func (.func 79) #[] #[], .bool false, .slice (some ⟨mi, 50, none⟩) 0 10, .slice none 0 0] 116 ∧ MB mi (hdC bf (.slice none 0 0) (.slice none 0 0) (.iface 188 (visF sb)) (.slice none 0 0) (.slice none 0 0) (.slice none 0 0) (.int .i8 0) 0) (Lz vs k) [] zTl h' ∧ Keep [mi, bf] h h') vs.length [(0, _), (4, _), (119, _), (120, _)] ⟨rfl, rfl, rfl, rfl, trivial⟩ ⟨0, Nat.zero_le _, rfl, rfl, B2, by rw [Lz_zero]; exact M, K⟩ ?_
  rintro m E hL7 ⟨k, hk, rfl, rfl, B2, M, K⟩
  refine rG <| rs_v (v_lt rfl rfl) rfl ?_
  refine rN ?_
  refine tr_seq ?_
  refine tr_ifn rfl (fun hif => ?_) (fun hif => ?_)
  · -- no
    simp only [dT, dF] at hif
    refine tr_exit <| q_thn_exit ?_
    refine q_lp_exit ?_
    refine q_blk_hit ?_
    refine q_end (res_none rfl) ?_
    rw [show k = vs.length from by omega] at M
    exact ⟨rfl, B2, M, K⟩
  -- yes
  simp only [dT, dF] at hif
  obtain ⟨v, hv⟩ := ex_get (L := vs) (k := k) (by omega)
  obtain ⟨b, o, rfl, hcl, hb1, hb2⟩ := hit k v hv
  have hcell : cellH hL7 b (o + k * 1) = some (.iface 171 (.pointer (some ⟨v.c, 0, none⟩))) := (K.cells (by simp [hb1, hb2]) (CellsAt.one hcl)) 0 _ rfl
  refine tr_skip ?_
  refine q_thn ?_
  refine tr_seq ?_
  refine tr_block <| rG <| rM rfl rfl <| rA rfl rfl <| rN ?_
  refine tr_draw [(true, 13), (false, 2)] _ (by kernel_rfl) (by kernel_rfl) (by kernel_rfl) ?_
  refine rx_any Same same_pre ?_
  refine rq_v (v_move rfl) <| rq_v (v_nilCheck_ptr rfl) <| rq_v (v_fieldAddr fa_keyspan_MergingIter_0 rfl) <| rq_v (v_load one_p_keyspan_MergingBuffers rfl (by exact M.b2.cell 0 rfl)) ?_
  refine rq_v (v_nilCheck_ptr rfl) <| rq_v (v_fieldAddr fa_keyspan_MergingBuffers_1 rfl) <| rq_v (v_load one_sl_keyspan_mergingIterLevel rfl (by exact B2.cell 1 rfl)) ?_
  refine rq_v (v_move rfl) <| rq_v (v_move rfl) <| rq_v (v_move rfl) <| rq_v (v_indexAddrE (i := k) u_sl_keyspan_FragmentIterator siz_keyspan_FragmentIterator rfl rfl rfl (by omega)) ?_
  refine rq_v (v_load one_keyspan_FragmentIterator rfl (by exact hcell)) ?_
  refine rq_v (v_build1 rfl (bld_keyspan_mergingIterLevel_0 _ _)) ?_
  refine rm_end ?_; intro ha8 Ka8; simp only [endM, hypF, ofE, argE, List.nil_append]
  have Ka8 : hL7 = ha8 := Eq.symm Ka8
  subst Ka8
  refine rx_seq ?_
  refine rs_v (v_indexAddrE (i := k) u_sl_keyspan_mergingIterLevel siz_keyspan_mergingIterLevel rfl rfl rfl (by omega)) rfl ?_
  refine rs_w0 (w_store siz_keyspan_mergingIterLevel rfl rfl rfl rfl M.b2 (by rw [M.len]; show _ + 4 ≤ 70; omega)) ?_
  rintro _ h9 ⟨B9, K9⟩
  have K := K.trans (K9.sub (by simp))
  have B2 := K9.blk (by simpa using hne) B2
  have M2 : MB mi (hdC bf (.slice none 0 0) (.slice none 0 0) (.iface 188 (visF sb)) (.slice none 0 0) (.slice none 0 0) (.slice none 0 0) (.int .i8 0) 0) (Lz vs (k + 1)) [] zTl h9 := ⟨by rw [← Lz_set hv (by omega), ← mi_setL4 (v.at 0) rfl (by rw [Lz_len]; omega), at_zero]; exact B9, rfl, Lz_len _ _, rfl⟩
  refine rs_nil ?_
  refine q_con ?_
  refine rx_nil ?_
  refine q_blk_n ?_
  refine q_thn ?_
  refine tr_reg ?_
  refine rs_v (v_add rfl rfl (by omega) (by omega)) rfl ?_
  refine rM rfl rfl ?_
  refine rs_nil ?_
  refine q_lp (vs.length - (k + 1)) [(0, _), (4, _), (119, _), (120, _)] (by omega) ⟨rfl, rfl, rfl, rfl, trivial⟩ ⟨k + 1, by omega, rfl, rfl, B2, M2, K⟩
set_option maxHeartbeats 1000000
theorem flat_le {α : Type} {n : Nat} : ∀ (l : List (List α)), (∀ x, x ∈ l → x.length ≤ n) → l.flatten.length ≤ l.length * n
  | [], _ => by simp
  | x :: l, h => by
    have h1 := h x (by simp)
    have h2 := flat_le l (fun y hy => h y (by simp [hy]))
    rw [List.flatten_cons, List.length_append, List.length_cons, Nat.add_mul]; omega
theorem catX_len {vs : List Lev} {x : ByteArray} (hvl : vs.length ≤ 10) (hk : ∀ v, v ∈ vs → ∀ s, (v.kt s).length ≤ 10000) : (catX vs x).length ≤ 100000 := by
  unfold catX
  refine Nat.le_trans (flat_le (n := 10000) _ fun c hc => ?_) ?_
  · obtain ⟨i, _, rfl⟩ := List.mem_map.1 hc
    cases hv : vs[i]? with
    | none => simp
    | some v => exact hk v (List.mem_of_getElem? hv) _
  · rw [List.length_map]
    exact Nat.le_trans (Nat.mul_le_mul_right _ (Nat.le_trans (List.length_filter_le _ _) (by rw [List.length_range]; exact hvl))) (by decide)
theorem kfM_len {vs : List Lev} {snap : Nat} {x : ByteArray} (hvl : vs.length ≤ 10) (hk : ∀ v, v ∈ vs → ∀ s, (v.kt s).length ≤ 10000) : (kfM vs snap x).length ≤ 100000 := by
  unfold kfM
  rw [List.length_map]
  refine Nat.le_trans (List.length_filter_le _ _) ?_
  rw [(sortKT_perm _).length_eq]
  exact catX_len hvl hk
theorem mrgW_len {vs : List Lev} {snap : Nat} {B : List ByteArray} (hvl : vs.length ≤ 10) (hk : ∀ v, v ∈ vs → ∀ s, (v.kt s).length ≤ 10000) : ∀ s, s ∈ mrgW vs snap B → s.ks.length ≤ 100000 := fun s hs => by
  unfold mrgW at hs
  obtain ⟨x, hx, hf⟩ := List.mem_filterMap.1 hs
  have := covF_same hf
  subst this
  obtain ⟨i, hi, e⟩ := List.mem_iff_getElem.1 hx
  obtain ⟨_, e2⟩ := segs_inv (show (sgM vs snap B)[i]? = some s by rw [List.getElem?_eq_getElem hi, e])
  rw [e2]; exact kfM_len hvl hk
def lvA (ls : List LvR) (b : Nat) : Prop := ∃ x, x ∈ ls ∧ x.lo ≤ b ∧ b < x.v.c
theorem lvr_at {ls : List LvR} {i : Nat} {v : Lev} (h : (ls.map LvR.v)[i]? = some v) : ∃ x, ls[i]? = some x ∧ x.v = v := by
  rw [List.getElem?_map] at h
  cases hx : ls[i]? with
  | none => rw [hx] at h; cases h
  | some x => rw [hx] at h; cases h; exact ⟨x, rfl, rfl⟩
theorem pw_at {ls : List LvR} (hp : ls.Pairwise (fun x y => x.v.c < y.lo)) {i j : Nat} {x y : LvR} (hij : i < j) (hx : ls[i]? = some x) (hy : ls[j]? = some y) : x.v.c < y.lo := by
  rw [List.pairwise_iff_getElem] at hp
  obtain ⟨h1, rfl⟩ := List.getElem?_eq_some_iff.1 hx
  obtain ⟨h2, rfl⟩ := List.getElem?_eq_some_iff.1 hy
  exact hp i j h1 h2 hij
theorem mq_start {bf mi sb lo : Nat} {ls : List LvR} {snap : Nat} {B : List ByteArray} {F G : Nat → Prop} {h : Heap} (hpw : ls.Pairwise (fun x y => x.v.c < y.lo)) (hlv : ∀ x, x ∈ ls → LvX G h x ∧ lo ≤ x.lo) (hlen : ls.length ≤ 10) (h1 : mi < sb) (h2 : sb < bf) (h3 : bf < lo)
    (B1 : Blk h bf [.slice none 0 0, .slice (some ⟨mi, 10, none⟩) (ls.map LvR.v).length 10, cmpF, .bool false, .slice (some ⟨mi, 50, none⟩) 0 10, .slice none 0 0] 116) (M : MB mi (hdC bf (.slice none 0 0) (.slice none 0 0) (.iface 188 (visF sb)) (.slice none 0 0) (.slice none 0 0) (.slice none 0 0) (.int .i8 0) 0) (Lz (ls.map LvR.v) (ls.map LvR.v).length) [] zTl h) (BS : Blk h sb [.int .u64 (snap : Int)] 35)
    (hB : Bnds (ls.map (fun x => x.v.W)) B) (hbl : ∀ x, x ∈ B → x.data.toList.length ≤ 100000000000) (hF : ∀ b, mi ≤ b → b < h.size → F b) (hFl : Low F h) :
    MC (lvA ls) bf mi sb (ls.map LvR.v) B ∧ MQ (lvA ls) bf mi sb (ls.map LvR.v) snap B .nowhere F h := by
  have hws : wsO (ls.map LvR.v) = ls.map (fun x => x.v.W) := by simp [wsO]
  have hmem : ∀ v, v ∈ ls.map LvR.v → ∃ (i : Nat) (x : LvR), ls[i]? = some x ∧ x.v = v := fun v hv => by
    obtain ⟨x, hx, rfl⟩ := List.mem_map.1 hv
    obtain ⟨i, hi, e⟩ := List.mem_iff_getElem.1 hx
    exact ⟨i, x, by rw [List.getElem?_eq_getElem hi, e], rfl⟩
  have hc : ∀ (i : Nat) x, ls[i]? = some x → LvX G h x ∧ lo ≤ x.v.c := fun i x hx => by
    obtain ⟨h4, h5⟩ := hlv x (List.mem_of_getElem? hx)
    exact ⟨h4, Nat.le_trans h5 h4.2.2.2.2.1⟩
  have hnA : ∀ (i : Nat) x, ls[i]? = some x → ¬ lvA ls x.v.c := fun i x hx ⟨y, hy, h4, h5⟩ => by
    obtain ⟨j, hj, e⟩ := List.mem_iff_getElem.1 hy
    have hy2 : ls[j]? = some y := by rw [List.getElem?_eq_getElem hj, e]
    rcases Nat.lt_trichotomy i j with h6 | h6 | h6
    · have := pw_at hpw h6 hx hy2; omega
    · subst h6; rw [hx] at hy2; cases hy2; omega
    · have := pw_at hpw h6 hy2 hx
      have := (hc i x hx).1.2.2.2.2.1; omega
  have hAlow : Low (lvA ls) h := fun b ⟨y, hy, h4, h5⟩ => by
    have := (hlv y hy).1.2.1.lt; omega
  have hAlo : ∀ b, lvA ls b → lo ≤ b := fun b ⟨y, hy, h4, h5⟩ => by have := (hlv y hy).2; omega
  have hvl : (ls.map LvR.v).length ≤ 10 := by rw [List.length_map]; exact hlen
  have hsb := BS.lt
  have hbf := B1.lt
  have hcl : ∀ (i : Nat) x, ls[i]? = some x → x.v.c < h.size := fun i x hx => (hc i x hx).1.2.1.lt
  refine ⟨⟨by rw [hws]; exact hB, by omega, by omega, fun e => by have := hAlo sb e; omega, fun v hv => ?_, fun v hv => ?_, fun v hv => ?_, hbl⟩, fun b hb => ?_, hFl, fun _ => 0, false, 0, [], .slice none 0 0, .slice none 0 0, .slice none 0 0, ⟨_, _, _, _, _, _, _, [], [], ⟨B1, M, fun i v hv => ?_, fun v hv => ?_, fun i j v w hij hv hw => ?_, by omega, hAlow, ⟨fun e => by have := hAlo bf e; omega, fun e => by have := hAlo mi e; omega⟩, hvl⟩, ⟨[], Own.nil _ _ _ _, RowsR.nil _ _, by simp [Value.ownBlock]⟩, ⟨Own.nil _ _ _ _, by simp [Value.ownBlock]⟩, BS, by simp [Value.ownBlock], by simp [Value.ownBlock], by simp [Value.ownBlock], by simp⟩, ?_, ?_, trivial⟩
  · obtain ⟨i, x, hx, rfl⟩ := hmem v hv
    have := (hc i x hx).2; omega
  · obtain ⟨i, x, hx, rfl⟩ := hmem v hv
    exact (hc i x hx).1.2.2.1
  · obtain ⟨i, x, hx, rfl⟩ := hmem v hv
    exact (hc i x hx).1.2.2.2.1
  · rcases hb with hb | rfl | rfl | rfl | ⟨v, hv, rfl⟩
    · exact hF b (by have := hAlo b hb; omega) (hAlow b hb)
    · exact hF _ (by omega) hbf
    · exact hF _ (Nat.le_refl _) (by omega)
    · exact hF _ (by omega) hsb
    · obtain ⟨i, x, hx, rfl⟩ := hmem v hv
      exact hF _ (by have := (hc i x hx).2; omega) (hcl i x hx)
  · obtain ⟨x, hx, rfl⟩ := lvr_at hv
    have hi : i < (ls.map LvR.v).length := (List.getElem?_eq_some_iff.1 hv).1
    exact ⟨Lz_at hi (by omega) hv, ⟨-1, (hc i x hx).1.2.1, by unfold lvX; split; exact .inl rfl; rw [if_pos rfl]⟩, by omega⟩
  · obtain ⟨i, x, hx, rfl⟩ := hmem v hv
    have h5 := (hc i x hx).2
    exact ⟨(hc i x hx).1.1.mono (fun b hb => ⟨x, List.mem_of_getElem? hx, hb.1, hb.2⟩), by omega, by omega, hnA i x hx, hcl i x hx⟩
  · obtain ⟨x, hx, rfl⟩ := lvr_at hv
    obtain ⟨y, hy, rfl⟩ := lvr_at hw
    rcases Nat.lt_trichotomy i j with h6 | h6 | h6
    · have := pw_at hpw h6 hx hy
      have := (hc j y hy).1.2.2.2.2.1; omega
    · exact absurd h6 hij
    · have := pw_at hpw h6 hy hx
      have := (hc i x hx).1.2.2.2.2.1; omega
  · have : validQ (ls.map LvR.v) (fun _ => 0) (ls.map LvR.v).length = [] := by
      unfold validQ
      rw [List.filter_eq_nil_iff]
      intro i hi
      unfold okb
      cases hv : (ls.map LvR.v)[i]? with
      | none => simp
      | some v => simp [Lev.ok]
    rw [this]
  · intro k _ h2; simp at h2
theorem c_implSpanMerged (χ : Chi) (h : Heap) (A : Nat → Prop) (hA : Low A h) (v sv : Value) (ws : List (List SpanD)) (snap : Nat) (steps : List StepD) (B : List ByteArray) (hW : RLevels A h v ws) (hn : ws.length ≤ 10) (hok : ∀ W, W ∈ ws → WOK W) (hm : ∀ W, W ∈ ws → ∀ s, s ∈ W → SpanD.small s)
    (hB : Bnds ws B) (hbl : ∀ x, x ∈ B → x.data.toList.length ≤ 100000000000) (hS : RSteps A h sv steps) (hsn : steps.length ≤ 1000) (hz : ∀ s, s ∈ steps → s.key.size ≤ 9223372036854775807) :
    Cl Tryz.prog χ 22 #[v, .int .u64 (snap : Int), sv] h (fun r h' => (∃ vs : List Lev, vs.map Lev.W = ws ∧ (∀ v, v ∈ vs → ∀ (s : Nat) x, v.W[s]? = some x → (v.kt s).map KT.k = x.ks) ∧ RAnss (Up N0 h h') h' r (walkP (mrgW vs snap B) .nowhere steps)) ∧ Keep [] h h') := by
  refine cl_intro Tryz.func22 rfl rfl rfl ?_
  have K : Keep [] h h := Keep.refl _ _
  refine rG <| rA rfl rfl <| rN <| rG <| rs_w (w_call (vs := []) ok_base_DefaultComparer rfl trivial (c_DefaultComparer χ _)) rfl ?_
  rintro _ h1 ⟨rfl, ⟨rest, Bq⟩, K1⟩
  have K := K.new0 K1; have Z1 := K1.1
  refine rC rfl rfl <| rF fa_base_Comparer_0 rfl rfl <| rs_v (v_load one_base_Compare rfl (by exact Bq.cell _ rfl)) rfl ?_
  refine rA rfl rfl <| rN <| rG <| rs_w (w_new zero_keyspan_MergingIter) rfl ?_
  rintro _ h2 ⟨rfl, B2, K2, Z2⟩
  have S2 := K.1; have K := K.new0 K2
  refine rN <| rG <| rM rfl rfl <| rM rfl rfl <| rs_w (w_call (vs := [_]) ok_keyspan_VisibleTransform rfl ⟨rfl, trivial⟩ (c_VisibleTransform)) rfl ?_
  rintro _ h3 ⟨rfl, BS, K3⟩
  have hsb9 := BS.lt
  have B2 := K3.blk (by simp) B2
  have K := K.new0 K3; have Z3 := K3.1
  refine rs_w (w_new zero_keyspan_MergingBuffers) rfl ?_
  rintro _ h4 ⟨rfl, B4, K4, Z4⟩
  have B2 := K4.blk (by simp) B2
  have BS := (K4).blk (by simp) BS
  have S4 := K.1; have K := K.new0 K4
  refine rM rfl rfl <| rs_w (w_call (vs := [_]) ok_impl_fragments rfl ⟨rfl, trivial⟩ (c_fragments χ _ A (hA.mono (by omega)) v ws (hW.stab (K.st hA)) hn hok hm)) rfl ?_
  rintro r5 h5 ⟨ls, hls, hmap, hpw, hall, K5⟩
  obtain ⟨hll, ai, ci, rfl, hx⟩ := hls
  have hlsn : ls.length = ws.length := by rw [← hmap, List.length_map]
  have hlm : (ls.map LvR.v).length = ls.length := by simp
  rw [← hlm]
  have hb2 := B2.lt
  have hb4 := B4.lt
  have hit : ∀ (i : Nat) v, (ls.map LvR.v)[i]? = some v → ∃ b o, ai = some ⟨b, o, none⟩ ∧ cellH h5 b (o + i * 1) = some v.it ∧ b ≠ h1.size ∧ b ≠ h3.size := fun i v hv => by
    obtain ⟨x, hxi, rfl⟩ := lvr_at hv
    obtain ⟨b, o, ea, hU, hc, _⟩ := hx i x hxi
    refine ⟨b, o, ea, hc 0 _ rfl, ?_, ?_⟩
    · rcases hU with hU | hU
      · exact hU.elim
      · omega
    · rcases hU with hU | hU
      · exact hU.elim
      · omega
  have B2 := K5.blk (by simp) B2
  have B4 := K5.blk (by simp) B4
  have BS := (K5).blk (by simp) BS
  have K := K.new0 K5; have Z5 := K5.1
  refine rs_w (w_call (vs := [_, _, _, _, _]) ok_keyspan_MergingIter_Init rfl ⟨rfl, rfl, rfl, rfl, rfl, trivial⟩ (c_MInit (vs := ls.map LvR.v) B2 B4 (by omega) (by rw [List.length_map, hlsn]; exact hn) hit)) rfl ?_
  rintro _ h6 ⟨rfl, B4, M6, K6⟩
  have hsb3 : h2.size < h5.size := by omega
  have BS := K6.blk (by simp; omega) BS
  have hlv6 : ∀ x, x ∈ ls → LvX (Up N0 h4 h5) h6 x ∧ h4.size ≤ x.lo := fun x hxm => by
    obtain ⟨i, hi, e⟩ := List.mem_iff_getElem.1 hxm
    obtain ⟨b, o, ea, hU, hc, hX⟩ := hx i x (by rw [List.getElem?_eq_getElem hi, e])
    exact ⟨hX.stab (K6.stab fun b hb => by
      rcases hb with hb | hb
      · exact hb.elim
      · exact ⟨hb.2, by simp; omega⟩), (hall x hxm).1⟩
  have K := K.newX K6 (fun x hm => .inr (by simp at hm; omega))
  have Z6 := K6.1
  have hws : ls.map (fun x => x.v.W) = ws := hmap
  have hMvl : (ls.map LvR.v).length ≤ 10 := by omega
  obtain ⟨hMC, hMQ⟩ := mq_start (F := fun b => h1.size ≤ b ∧ b < h6.size) (lo := h4.size) hpw hlv6 (by omega) (by omega) (by omega) (by omega) B4 M6 BS (by rw [hws]; exact hB) hbl (fun b h1 h2 => ⟨h1, h2⟩) (fun b hb => hb.2)
  have hkeys : ∀ v, v ∈ ls.map LvR.v → ∀ (s : Nat) x, v.W[s]? = some x → (v.kt s).map KT.k = x.ks := fun v hv s x hs => by
    obtain ⟨y, hy, rfl⟩ := List.mem_map.1 hv
    exact ((hlv6 y hy).1.1.keys s x hs).2
  refine rN <| rG <| rs_v (v_makeIface u_p_keyspan_MergingIter rfl) rfl ?_
  refine rM rfl rfl ?_
  refine rs_w (w_call (vs := [_, _]) ok_impl_walkSpans rfl ⟨rfl, rfl, trivial⟩ (c_walkSpans χ h6 A (hA.mono K.1) (mrgW (ls.map LvR.v) snap B) _ _ _ (mi_ok χ hMC) (fun b => h1.size ≤ b ∧ b < h6.size) ⟨_, hMQ, trivial⟩
    (fun b hb hf => by have := hA b hb; have := hf.1; omega) sv steps (hS.stab (K.st hA)) hsn hz (mrgW_len hMvl hMC.kl))) rfl ?_
  rintro r9 h7 ⟨hans, KP⟩
  refine rA rfl rfl <| rN <| tr_ret <| q_ret (res_tmp rfl rfl) ?_
  have h60 := K.1
  exact ⟨⟨ls.map LvR.v, by rw [List.map_map]; exact hws, hkeys, hans.mono (n0up h60 (Nat.le_refl _))⟩, keep_of_p K KP (fun b hb => by have := hb.1; omega)⟩
set_option maxHeartbeats 1000000
def idxB (l : List ByteArray) (key : ByteArray) : Nat → Nat
  | 0 => 0
  | n + 1 => if slt (atB l n) key then n + 1 else idxB l key n
def addB (l : List ByteArray) (key : ByteArray) : List ByteArray :=
  if idxB l key l.length < l.length ∧ atB l (idxB l key l.length) = key then l else l.take (idxB l key l.length) ++ key :: l.drop (idxB l key l.length)
theorem idxB_le (l : List ByteArray) (key : ByteArray) : ∀ n, idxB l key n ≤ n
  | 0 => Nat.le_refl _
  | n + 1 => by unfold idxB; split; exact Nat.le_refl _; have := idxB_le l key n; omega
theorem own_some {h : Heap} {base : Nat} {e : TypeId} {sz n c : Nat} {a : Option Addr} {xs : List Value} (O : Own h base e sz (.slice a n c) n xs) (hn : 0 < n) : ∃ g, a = some ⟨g, 0, none⟩ := by
  rcases O.form with ⟨_, e2, _⟩ | ⟨g, cap, e1, _⟩
  · omega
  · cases e1; exact ⟨g, rfl⟩
set_option maxHeartbeats 1000000
def bndF (W : List SpanD) : List ByteArray := W.foldl (fun l s => addB (addB l s.s) s.e) []
theorem addB_len (l : List ByteArray) (key : ByteArray) : (addB l key).length ≤ l.length + 1 := by
  unfold addB
  split
  · omega
  · have := idxB_le l key l.length
    rw [List.length_append, List.length_cons, List.length_take, List.length_drop]; omega
end Go.Proofs.YtmckkklhonfmcaaGreat
namespace Go.Tess
open Go.RowKit
end Go.Tess
namespace Go.Proofs.YtmckkklhonfmcaaGreat
open Go.Tess Go.RowKit
set_option maxRecDepth 100000
set_option maxHeartbeats 1000000
def visSp (n : Nat) (s : SpanD) : SpanD := ⟨s.s, s.e, s.ks.filter (visK n)⟩
set_option maxHeartbeats 2000000
def covK (W : List SpanD) (a b : ByteArray) : List KeyD := ((W.filter (fun x => sle x.s a && sle b x.e)).map SpanD.ks).flatten
def fragP (B : List ByteArray) (W : List SpanD) (j : Nat) : Option SpanD := if covK W (atB B j) (atB B (j + 1)) = [] then none else some ⟨atB B j, atB B (j + 1), canonF (covK W (atB B j) (atB B (j + 1)))⟩
def fragF (W : List SpanD) : List SpanD := (List.range ((bndF W).length - 1)).filterMap (fragP (bndF W) W)
theorem bndF_len : ∀ W : List SpanD, (bndF W).length ≤ 2 * W.length := by
  intro W
  have : ∀ (W : List SpanD) (l : List ByteArray), (W.foldl (fun l s => addB (addB l s.s) s.e) l).length ≤ l.length + 2 * W.length := by
    intro W
    induction W with
    | nil => intro l; simp
    | cons s W ih =>
      intro l
      rw [List.foldl_cons, List.length_cons]
      have h1 := ih (addB (addB l s.s) s.e)
      have h2 := addB_len (addB l s.s) s.e
      have h3 := addB_len l s.s
      omega
  have := this W []
  simpa [bndF] using this
theorem covK_len {W : List SpanD} {a b : ByteArray} {n : Nat} (h : ∀ s, s ∈ W → s.ks.length ≤ n) : (covK W a b).length ≤ W.length * n := by
  unfold covK
  refine Nat.le_trans (flat_le (n := n) _ fun c hc => ?_) ?_
  · obtain ⟨x, hx, rfl⟩ := List.mem_map.1 hc
    exact h x (List.mem_filter.1 hx).1
  · rw [List.length_map]
    exact Nat.mul_le_mul_right _ (List.length_filter_le _ _)
set_option maxHeartbeats 1000000
def fit3 (l : List (List SpanD)) : Bool := decide (l.length ≤ MX) && l.all fit4
def levB (ws : List (List SpanD)) (n : Int) : Bool := ws.all (fun W => mostB W n && wellB W) && decide ((ws.length : Int) ≤ 6)
def mergF (ws : List (List SpanD)) (n : Nat) : List SpanD := (fragF ws.flatten).map (visSp n)
theorem RLevels.kk {h h' : Heap} {v : Value} {W : List (List SpanD)} (hr : RLevels (All h) h v W) (K : Keep [] h h') : RLevels (All h') h' v W := (RLevels.stab hr (all_st K)).mono (all_up K)
theorem all_false {α : Type} {L : List α} {k : Nat} {x : α} {f : α → Bool} (h : L[k]? = some x) (hf : f x = false) : L.all f = false := by
  rw [List.all_eq_false]
  exact ⟨x, List.mem_of_getElem? h, by rw [hf]; decide⟩
theorem take_all' {α : Type} {L : List α} {k : Nat} {x : α} {f : α → Bool} (h : L[k]? = some x) : (L.take (k + 1)).all f = ((L.take k).all f && f x) := by rw [take_snoc' h, List.all_append]; simp
theorem c_zzFits3 (χ : Chi) (h : Heap) (A : Nat → Prop) (hA : Low A h) (v : Value) (ws : List (List SpanD)) (hW : RLevels A h v ws) :
    Cl Tryz.prog χ 11 #[v] h (fun r h' => r = .bool (fit3 ws) ∧ Keep [] h h') := by
  obtain ⟨hlen, a, c, rfl, hx⟩ := hW.form
  refine cl_intro Tryz.func11 rfl rfl rfl ?_
  have K : Keep [] h h := Keep.refl _ _
  refine rG <| rA rfl rfl <| rN ?_
  refine tr_seq ?_
  refine rG <| rM rfl rfl <| rs_v (v_len u_sl_sl_spec_Span rfl) rfl ?_
  refine rs_v (v_gt rfl rfl) rfl ?_
  refine rN ?_
  refine tr_if rfl (fun hif => ?_) (fun hif => ?_)
  · -- yes
    simp only [dT, dF] at hif
    refine rG <| rA rfl rfl <| rN <| tr_ret <| q_thn_ret <| q_ret (res_tmp rfl rfl) ?_
    refine ⟨?_, K⟩
    simp only [fit3, ofNat_gt hif, Bool.false_and]
  -- no
  simp only [dT, dF] at hif
  have hmx := ofNat_le hif
  clear hif
  refine tr_skip ?_
  refine q_thn ?_
  refine tr_seq ?_
  refine rG <| rM rfl rfl <| rs_v (v_len u_sl_sl_spec_Span rfl) rfl ?_
  refine rM rfl rfl <| rN <| tr_block ?_
  refine tr_loop (fun m E h' => ∃ k, k ≤ ws.length ∧ m = ws.length - k ∧ E = [(8, .slice a ws.length c), (9, .int .i64 (ws.length : Int)), (10, .int .i64 (k : Int))] ∧ Keep [] h h' ∧ (ws.take k).all fit4 = true) ws.length [(8, _), (9, _), (10, _)] ⟨rfl, rfl, rfl, trivial⟩ ⟨0, Nat.zero_le _, rfl, rfl, K, rfl⟩ ?_
  rintro m E hL1 ⟨k, hk, rfl, rfl, K, hall⟩
  refine rG <| rs_v (v_lt rfl rfl) rfl ?_
  refine rN ?_
  refine tr_seq ?_
  refine tr_ifn rfl (fun hif => ?_) (fun hif => ?_)
  · -- no
    simp only [dT, dF] at hif
    have hkk : k = ws.length := by omega
    subst hkk
    refine tr_exit <| q_thn_exit ?_
    refine q_lp_exit ?_
    refine q_blk_hit ?_
    refine q_thn ?_
    refine rG <| rA rfl rfl <| rN <| tr_ret <| q_ret (res_tmp rfl rfl) ?_
    refine ⟨?_, K⟩
    rw [List.take_length] at hall
    simp only [fit3, hall, hmx, Bool.true_and]
  -- yes
  simp only [dT, dF] at hif
  rcases hx with rfl | ⟨b, o, rfl, hAb, hR⟩
  · simp at hif; omega
  obtain ⟨W, hsk⟩ := ex_get (L := ws) (k := k) (by omega)
  obtain ⟨kv, hcc, hkx⟩ := hR k W hsk
  obtain ⟨ka, kc, rfl⟩ := SlR.form2 hkx
  have hcells := K.cells (by simp) hcc
  have hWS := hkx.stab (K.st hA)
  refine tr_skip ?_
  refine q_thn ?_
  refine tr_seq ?_
  refine tr_block <| rG <| rs_v (v_indexAddrN u_sl_sl_spec_Span siz_sl_spec_Span rfl rfl (by omega)) rfl ?_
  refine rs_v (v_load one_sl_spec_Span rfl (by exact hcells 0 _ rfl)) rfl ?_
  refine rA rfl rfl <| rN <| rG <| rM rfl rfl <| rs_w (w_call (vs := [_]) ok_laws_zzFits4 rfl ⟨rfl, trivial⟩ (c_zzFits4 χ _ A (hA.mono K.1) _ W hWS)) rfl ?_
  rintro _ h2 ⟨rfl, K2⟩
  have K := K.new0 K2; have Z2 := K2.1
  refine rs_v (v_not rfl) rfl ?_
  refine rN ?_
  refine tr_if rfl (fun hif => ?_) (fun hif => ?_)
  · -- yes
    have hf : fit4 W = false := by simpa using hif
    refine rG <| rA rfl rfl <| rN <| tr_ret <| q_blk_ret <| q_thn_ret ?_
    refine q_lp_ret ?_
    refine q_blk_ret <| q_thn_ret <| q_ret (res_tmp rfl rfl) ?_
    refine ⟨?_, K⟩
    simp only [fit3, all_false hsk hf, Bool.and_false]
  -- no
  have hf : fit4 W = true := by simpa using hif
  refine tr_skip <| q_blk_n ?_
  refine q_thn ?_
  refine tr_reg ?_
  refine rs_v (v_add rfl rfl (by omega) (by omega)) rfl ?_
  refine rM rfl rfl ?_
  refine rs_nil ?_
  refine q_lp (ws.length - (k + 1)) [(8, _), (9, _), (10, _)] (by omega) ⟨rfl, rfl, rfl, trivial⟩ ⟨k + 1, by omega, rfl, rfl, K, ?_⟩
  rw [take_all' hsk, hall, hf]
  rfl
theorem c_spanLevels (χ : Chi) (h : Heap) (A : Nat → Prop) (hA : Low A h) (v : Value) (ws : List (List SpanD)) (n : Int) (hW : RLevels A h v ws) :
    Cl Tryz.prog χ 12 #[v, .int .i64 n] h (fun r h' => r = .bool (levB ws n) ∧ Keep [] h h') := by
  obtain ⟨hlen, a, c, rfl, hx⟩ := hW.form
  refine cl_intro Tryz.func12 rfl rfl rfl ?_
  have K : Keep [] h h := Keep.refl _ _
  refine rG <| rA rfl rfl <| rN ?_
  refine tr_seq ?_
  refine rG <| rM rfl rfl <| rs_v (v_len u_sl_sl_spec_Span rfl) rfl ?_
  refine rM rfl rfl <| rN <| tr_block ?_
  refine tr_loop (fun m E h' => ∃ k, k ≤ ws.length ∧ m = ws.length - k ∧ E = [(0, .slice a ws.length c), (1, .int .i64 n), (7, .slice a ws.length c), (8, .int .i64 (ws.length : Int)), (9, .int .i64 (k : Int))] ∧ Keep [] h h' ∧ (ws.take k).all (fun W => mostB W n && wellB W) = true) ws.length [(0, _), (1, _), (7, _), (8, _), (9, _)] ⟨rfl, rfl, rfl, rfl, rfl, trivial⟩ ⟨0, Nat.zero_le _, rfl, rfl, K, rfl⟩ ?_
  rintro m E hL1 ⟨k, hk, rfl, rfl, K, hall⟩
  refine rG <| rs_v (v_lt rfl rfl) rfl ?_
  refine rN ?_
  refine tr_seq ?_
  refine tr_ifn rfl (fun hif => ?_) (fun hif => ?_)
  · -- no
    simp only [dT, dF] at hif
    have hkk : k = ws.length := by omega
    subst hkk
    refine tr_exit <| q_thn_exit ?_
    refine q_lp_exit ?_
    refine q_blk_hit ?_
    refine q_thn ?_
    refine rG <| rM rfl rfl <| rs_v (v_len u_sl_sl_spec_Span rfl) rfl ?_
    refine rs_v (v_le rfl rfl) rfl ?_
    refine rA rfl rfl <| rN <| tr_ret <| q_ret (res_tmp rfl rfl) ?_
    refine ⟨?_, K⟩
    rw [List.take_length] at hall
    simp only [levB, hall, Bool.true_and]
  -- yes
  simp only [dT, dF] at hif
  rcases hx with rfl | ⟨b, o, rfl, hAb, hR⟩
  · simp at hif; omega
  obtain ⟨W, hsk⟩ := ex_get (L := ws) (k := k) (by omega)
  obtain ⟨kv, hcc, hkx⟩ := hR k W hsk
  obtain ⟨ka, kc, rfl⟩ := SlR.form2 hkx
  have hcells := K.cells (by simp) hcc
  have hWS := hkx.stab (K.st hA)
  refine tr_skip ?_
  refine q_thn ?_
  refine tr_seq ?_
  refine tr_block <| rG <| rs_v (v_indexAddrN u_sl_sl_spec_Span siz_sl_spec_Span rfl rfl (by omega)) rfl ?_
  refine rs_v (v_load one_sl_spec_Span rfl (by exact hcells 0 _ rfl)) rfl ?_
  refine rA rfl rfl <| rN <| rG <| rM rfl rfl <| rM rfl rfl <| rs_w (w_call (vs := [_, _]) ok_laws_spanWell rfl ⟨rfl, rfl, trivial⟩ (c_spanWell χ _ A (hA.mono K.1) _ W n hWS)) rfl ?_
  rintro _ h2 ⟨rfl, K2⟩
  have K := K.new0 K2; have Z2 := K2.1
  refine rs_v (v_not rfl) rfl ?_
  refine rN ?_
  refine tr_if rfl (fun hif => ?_) (fun hif => ?_)
  · -- yes
    rw [Bool.not_eq_true'] at hif
    have hf := hif
    refine rG <| rA rfl rfl <| rN <| tr_ret <| q_blk_ret <| q_thn_ret ?_
    refine q_lp_ret ?_
    refine q_blk_ret <| q_thn_ret <| q_ret (res_tmp rfl rfl) ?_
    refine ⟨?_, K⟩
    simp only [levB, all_false (f := fun W => mostB W n && wellB W) hsk hf, Bool.false_and]
  -- no
  rw [Bool.not_eq_false'] at hif
  have hf := hif
  refine tr_skip <| q_blk_n ?_
  refine q_thn ?_
  refine tr_reg ?_
  refine rs_v (v_add rfl rfl (by omega) (by omega)) rfl ?_
  refine rM rfl rfl ?_
  refine rs_nil ?_
  refine q_lp (ws.length - (k + 1)) [(0, _), (1, _), (7, _), (8, _), (9, _)] (by omega) ⟨rfl, rfl, rfl, rfl, rfl, trivial⟩ ⟨k + 1, by omega, rfl, rfl, K, ?_⟩
  rw [take_all' hsk, hall, hf]
  rfl
theorem c_toLevels (χ : Chi) (h : Heap) (A : Nat → Prop) (hA : Low A h) (v : Value) (ws : List (List SpanD)) (hW : RLevels A h v ws) (hn : ws.length ≤ 100) (hl : ∀ W, W ∈ ws → W.length ≤ 100000) (hm : ∀ W, W ∈ ws → ∀ s, s ∈ W → s.ks.length ≤ 100000) :
    Cl Tryz.prog χ 16 #[v] h (fun r h' => RLevels (Up A h h') h' r ws ∧ Keep [] h h') := by
  obtain ⟨hlen, a, c, rfl, hx⟩ := hW.form
  refine cl_intro Tryz.func16 rfl rfl rfl ?_
  have K : Keep [] h h := Keep.refl _ _
  refine rG <| rA rfl rfl <| rN <| rG <| rA rfl rfl <| rN ?_
  refine tr_seq ?_
  refine rG <| rM rfl rfl <| rs_v (v_len u_sl_sl_spec_Span rfl) rfl ?_
  refine rM rfl rfl <| rN <| tr_block ?_
  refine tr_loop (fun m E h' => ∃ k v n, k ≤ ws.length ∧ m = ws.length - k ∧ E = [(3, v), (6, .slice a ws.length c), (7, .int .i64 (ws.length : Int)), (8, .int .i64 (k : Int))] ∧ Keep [] h h' ∧ n = (ws.take k).length ∧ OutR A h h' h.size 29 1 cLevel v n (ws.take k)) ws.length [(3, _), (6, _), (7, _), (8, _)] ⟨rfl, rfl, rfl, rfl, trivial⟩ ⟨0, _, 0, Nat.zero_le _, rfl, rfl, K, rfl, OutR.nil _ _ _ _ _ _ _⟩ ?_
  rintro m E hL1 ⟨k, v, n, hk, rfl, rfl, K, hn2, hout⟩
  have hout0 := hout
  obtain ⟨xs, F, O, hrow, hF⟩ := hout
  have hob := own_ne O; have KL := Keep.refl [] hL1
  refine rG <| rs_v (v_lt rfl rfl) rfl ?_
  refine rN ?_
  refine tr_seq ?_
  refine tr_ifn rfl (fun hif => ?_) (fun hif => ?_)
  · -- no
    simp only [dT, dF] at hif
    have hkk : k = ws.length := by omega
    subst hkk
    refine tr_exit <| q_thn_exit ?_
    refine q_lp_exit ?_
    refine q_blk_hit ?_
    refine q_thn ?_
    refine rG <| rM rfl rfl <| rA rfl rfl <| rN <| tr_ret <| q_ret (res_tmp rfl rfl) ?_
    rw [List.take_length] at hout0 hn2
    exact ⟨hout0.fin cLevel_st hn2 (Nat.le_refl _) cLevel_r, K⟩
  -- yes
  simp only [dT, dF] at hif
  rcases hx with rfl | ⟨b, o, rfl, hAb, hR⟩
  · simp at hif; omega
  obtain ⟨W, hsk⟩ := ex_get (L := ws) (k := k) (by omega)
  obtain ⟨kv, hcc, hkx⟩ := hR k W hsk
  obtain ⟨ka, kc, rfl⟩ := SlR.form2 hkx
  have hcells := K.cells (by simp) hcc
  have hWS := hkx.stab (K.st hA)
  have KL0 := K.1
  have hnk : n = k := by rw [hn2, List.length_take]; omega
  have hWm := List.mem_of_getElem? hsk
  refine tr_skip ?_
  refine q_thn ?_
  refine tr_seq ?_
  refine tr_block <| rG <| rs_v (v_indexAddrN u_sl_sl_spec_Span siz_sl_spec_Span rfl rfl (by omega)) rfl ?_
  refine rs_v (v_load one_sl_spec_Span rfl (by exact hcells 0 _ rfl)) rfl ?_
  refine rA rfl rfl <| rN ?_
  refine tr_reg ?_
  refine rM rfl rfl <| rM rfl rfl <| rs_w (w_call (vs := [_]) ok_laws_toSpans rfl ⟨rfl, trivial⟩ (c_toSpans χ _ A (hA.mono K.1) _ W hWS (hl W hWm) (hm W hWm))) rfl ?_
  rintro w2 h2 ⟨hw, K2⟩
  obtain ⟨aw, cw, rfl⟩ := SlR.form2 hw
  have O := O.keep2 K2 (fun x hm => by have := hob x hm; simp; try omega)
  have K := K.new0 K2; have Z2 := K2.1; have KL := KL.new0 K2
  refine rs_w (w_new1 u_sl_sl_impl_Span siz_sl_impl_Span zero_sl_impl_Span rfl rfl rfl rfl rfl) rfl ?_
  rintro _ h3 ⟨rfl, B3, K3, Z3⟩
  have O := O.keep2 K3 (fun x hm => by have := hob x hm; simp; try omega)
  have S3 := K.1; have K := K.new0 K3; have KL := KL.new0 K3
  refine rs_w (w_app1 u_sl_sl_impl_Span info_sl_impl_Span rfl rfl rfl O rfl rfl B3 rfl (by omega) (by omega) (by omega)) rfl ?_
  rintro v4 h4 ⟨O4, K4, N4, F4⟩
  have K := K.newX K4 (fun x hm => .inr (by have := hob x hm; omega)); have Z4 := K4.1
  have B3 := K4.blk (fun hm => by first | (have := hob _ hm; omega) | exact absurd rfl (hnb _ hm)) B3
  refine rA rfl rfl ?_
  refine rs_nil ?_
  refine q_blk_n ?_
  refine q_thn ?_
  refine tr_reg ?_
  refine rs_v (v_add rfl rfl (by omega) (by omega)) rfl ?_
  refine rM rfl rfl ?_
  refine rs_nil ?_
  refine q_lp (ws.length - (k + 1)) [(3, _), (6, _), (7, _), (8, _)] (by omega) ⟨rfl, rfl, rfl, rfl, trivial⟩ ⟨k + 1, v4, n + 1, by omega, rfl, rfl, K, ?_, ?_⟩
  · rw [take_snoc' hsk]; rw [List.length_append, ← hn2]; rfl
  · rw [take_snoc' hsk]
    exact OutR.snoc cLevel_st hA (by omega) hob hrow hF KL0 KL O4 K4 F4 rfl (⟨_, rfl, (RSpans.stab hw (K3.st ((hA.mono (by omega)).up K2.1))).mono (Up.trans2 (by omega) K3.1)⟩)
set_option maxHeartbeats 1000000
theorem kle_iff (a b : KeyD) : keyLess b a = false ↔ (b.tr < a.tr ∨ (a.tr = b.tr ∧ (slt a.suf b.suf = true ∨ (a.suf = b.suf ∧ sle a.val b.val = true)))) := by
  unfold keyLess
  by_cases e : b.tr = a.tr
  · rw [if_pos e]
    by_cases e2 : b.suf = a.suf
    · rw [if_pos (seq'_eq.2 e2), not_slt]
      constructor
      · intro h; exact .inr ⟨e.symm, .inr ⟨e2.symm, h⟩⟩
      · rintro (h | ⟨_, h | ⟨_, h⟩⟩)
        · omega
        · rw [e2, slt_irr] at h; cases h
        · exact h
    · rw [if_neg (fun h => e2 (seq'_eq.1 h)), not_slt]
      constructor
      · intro h; exact .inr ⟨e.symm, .inl (slt_of_sle_ne h (fun h2 => e2 h2.symm))⟩
      · rintro (h | ⟨_, h | ⟨h, _⟩⟩)
        · omega
        · exact slt_sle h
        · exact absurd h.symm e2
  · rw [if_neg e, decide_eq_false_iff_not]
    constructor
    · intro h; exact .inl (by omega)
    · rintro (h | ⟨h, _⟩)
      · omega
      · exact absurd h.symm e
theorem kle_anti {a b : KeyD} (h1 : keyLess b a = false) (h2 : keyLess a b = false) : a = b := by
  rcases (kle_iff a b).1 h1 with h | ⟨e, h⟩ <;> rcases (kle_iff b a).1 h2 with g | ⟨e2, g⟩
  · omega
  · omega
  · omega
  · rcases h with h | ⟨h, h'⟩ <;> rcases g with g | ⟨g, g'⟩
    · have := slt_tr h g; rw [slt_irr] at this; cases this
    · rw [g, slt_irr] at h; cases h
    · rw [h, slt_irr] at g; cases g
    · have h9 := sle_anti h' g'
      obtain ⟨t, s, v⟩ := a
      obtain ⟨t2, s2, v2⟩ := b
      simp only at e h h9
      subst e; subst h; subst h9; rfl
theorem kle_trans {a b c : KeyD} (h1 : keyLess b a = false) (h2 : keyLess c b = false) : keyLess c a = false := by
  rw [kle_iff] at *
  rcases h1 with h | ⟨e, h⟩ <;> rcases h2 with g | ⟨e2, g⟩
  · exact .inl (by omega)
  · exact .inl (by omega)
  · exact .inl (by omega)
  · refine .inr ⟨by omega, ?_⟩
    rcases h with h | ⟨h, h'⟩ <;> rcases g with g | ⟨g, g'⟩
    · exact .inl (slt_tr h g)
    · exact .inl (by rw [← g]; exact h)
    · exact .inl (by rw [h]; exact g)
    · exact .inr ⟨h.trans g, sle_trans h' g'⟩
theorem kless_asymm {a b : KeyD} (h : keyLess a b = true) : keyLess b a = false := by
  cases e : keyLess b a with
  | false => rfl
  | true =>
    exfalso
    have h1 : keyLess a b = false := (kle_iff b a).2 (by
      unfold keyLess at e
      by_cases e1 : b.tr = a.tr
      · rw [if_pos e1] at e
        by_cases e2 : b.suf = a.suf
        · rw [if_pos (seq'_eq.2 e2)] at e; exact .inr ⟨e1, .inr ⟨e2, slt_sle e⟩⟩
        · rw [if_neg (fun h => e2 (seq'_eq.1 h))] at e; exact .inr ⟨e1, .inl e⟩
      · rw [if_neg e1] at e; exact .inl (of_decide_eq_true e))
    rw [h1] at h; cases h
theorem swap_ap (A C : List KeyD) (a x : KeyD) : swapAt (A ++ a :: x :: C) A.length = A ++ x :: a :: C := by
  unfold swapAt
  have h1 : (A ++ a :: x :: C)[A.length + 1]? = some x := by rw [List.getElem?_append_right (by omega), show A.length + 1 - A.length = 1 from by omega]; rfl
  have h2 : (A ++ a :: x :: C)[A.length]? = some a := by rw [List.getElem?_append_right (by omega), Nat.sub_self]; rfl
  rw [h1, h2]
  simp only
  rw [List.set_append, if_neg (by omega), show A.length + 1 - A.length = 1 from by omega, List.set_append, if_neg (by omega), Nat.sub_self]
  rfl
theorem insW_form (x : KeyD) : ∀ (n : Nat) (A : List KeyD), A.length = n → A.Pairwise (fun a b => keyLess b a = false) → ∀ C, ∃ A1 A2, A = A1 ++ A2 ∧ insW (A ++ x :: C) n = A1 ++ x :: A2 ++ C ∧ (∀ a, a ∈ A2 → keyLess x a = true) ∧ ∀ a, a ∈ A1 → keyLess x a = false
  | 0, A, hA, _, C => ⟨[], [], by simpa using hA, by
    have : A = [] := List.eq_nil_of_length_eq_zero hA
    subst this; rfl, by simp, by simp⟩
  | n + 1, A, hA, hp, C => by
    obtain ⟨A', a, rfl⟩ : ∃ A' a, A = A' ++ [a] := by
      rcases List.eq_nil_or_concat A with e | ⟨A', a, e⟩
      · subst e; simp at hA
      · exact ⟨A', a, by simpa using e⟩
    have hA' : A'.length = n := by simpa using hA
    have hl : lessAt (A' ++ [a] ++ x :: C) (n + 1) = keyLess x a := by
      unfold lessAt
      have e0 : A' ++ [a] ++ x :: C = A' ++ a :: x :: C := by simp
      have h1 : (A' ++ a :: x :: C)[n + 1]? = some x := by rw [← hA', List.getElem?_append_right (by omega), show A'.length + 1 - A'.length = 1 from by omega]; rfl
      have h2 : (A' ++ a :: x :: C)[n]? = some a := by rw [← hA', List.getElem?_append_right (by omega), Nat.sub_self]; rfl
      rw [e0]
      simp only [h1, h2]
    rw [List.pairwise_append] at hp
    cases e : keyLess x a with
    | true =>
      rw [insW_go (by rw [hl]; exact e)]
      have e0 : A' ++ [a] ++ x :: C = A' ++ a :: x :: C := by simp
      have hs := swap_ap A' C a x
      rw [hA'] at hs
      rw [e0, hs]
      obtain ⟨A1, A2, h1, h2, h3, h4⟩ := insW_form x n A' hA' hp.1 (a :: C)
      refine ⟨A1, A2 ++ [a], by rw [h1]; simp, by rw [h2]; simp, fun b hb => ?_, h4⟩
      rcases List.mem_append.1 hb with hb | hb
      · exact h3 b hb
      · rw [List.mem_singleton.1 hb]; exact e
    | false =>
      rw [insW_stop (by rw [hl]; exact e)]
      refine ⟨A' ++ [a], [], by simp, by simp, by simp, fun b hb => ?_⟩
      rcases List.mem_append.1 hb with hb | hb
      · exact kle_trans (hp.2.2 b hb a (by simp)) e
      · rw [List.mem_singleton.1 hb]; exact e
theorem canonF_ok (l : List KeyD) : ∀ k, k ≤ l.length → (canonF (l.take k)).Perm (l.take k) ∧ (canonF (l.take k)).Pairwise (fun a b => keyLess b a = false)
  | 0, _ => by simp [canonF]
  | k + 1, hk => by
    obtain ⟨hp, hs⟩ := canonF_ok l k (by omega)
    obtain ⟨x, hx⟩ := ex_get (L := l) (k := k) (by omega)
    rw [take_snoc' hx, canonF_snoc]
    obtain ⟨A1, A2, h1, h2, h3, h4⟩ := insW_form x _ (canonF (l.take k)) rfl hs []
    rw [h2, List.append_nil]
    refine ⟨?_, ?_⟩
    · refine List.Perm.trans List.perm_middle ?_
      rw [← h1]
      exact (hp.cons x).trans (List.perm_append_singleton x _).symm
    · rw [h1, List.pairwise_append] at hs
      rw [List.pairwise_append, List.pairwise_cons]
      refine ⟨hs.1, ⟨fun a ha => kless_asymm (h3 a ha), hs.2.1⟩, fun a ha b hb => ?_⟩
      rcases List.mem_cons.1 hb with rfl | hb
      · exact h4 a ha
      · exact hs.2.2 a ha b hb
theorem canonF_perm (l : List KeyD) : (canonF l).Perm l := by have := (canonF_ok l l.length (Nat.le_refl _)).1; rwa [List.take_length] at this
theorem canonF_srt (l : List KeyD) : (canonF l).Pairwise (fun a b => keyLess b a = false) := by have := (canonF_ok l l.length (Nat.le_refl _)).2; rwa [List.take_length] at this
theorem srt_unique : ∀ (l1 l2 : List KeyD), l1.Perm l2 → l1.Pairwise (fun a b => keyLess b a = false) → l2.Pairwise (fun a b => keyLess b a = false) → l1 = l2
  | [], l2, hp, _, _ => by rw [List.nil_perm.1 hp]
  | a :: l1, [], hp, _, _ => by have := hp.length_eq; simp at this
  | a :: l1, b :: l2, hp, h1, h2 => by
    rw [List.pairwise_cons] at h1 h2
    have hab : a = b := by
      have m1 : a ∈ b :: l2 := hp.mem_iff.1 (by simp)
      have m2 : b ∈ a :: l1 := hp.mem_iff.2 (by simp)
      rcases List.mem_cons.1 m1 with e | m1
      · exact e
      · rcases List.mem_cons.1 m2 with e | m2
        · exact e.symm
        · exact kle_anti (h1.1 b m2) (h2.1 a m1)
    subst hab
    rw [srt_unique l1 l2 (List.Perm.cons_inv hp) h1.2 h2.2]
theorem canonF_congr {l1 l2 : List KeyD} (h : l1.Perm l2) : canonF l1 = canonF l2 :=
  srt_unique _ _ ((canonF_perm l1).trans (h.trans (canonF_perm l2).symm)) (canonF_srt l1) (canonF_srt l2)

inductive Alk : List SpanD → List SpanD → Prop
  | nil : Alk [] []
  | cons {a b : SpanD} {l1 l2 : List SpanD} : a.s = b.s → a.e = b.e → canonF a.ks = canonF b.ks → descB a.ks = true → few a → few b → Alk l1 l2 → Alk (a :: l1) (b :: l2)
section
variable {W1 W2 : List SpanD}
theorem walkP_len {W : List SpanD} : ∀ (l : List StepD) (p : Pos), (walkP W p l).length = l.length
  | [], p => rfl
  | s :: l, p => by simp [walkP, walkP_len l]
theorem alk_fm {α : Type} {f g : α → Option SpanD} : ∀ (L : List α), (∀ j, j ∈ L → (f j = none ∧ g j = none) ∨ ∃ a b, f j = some a ∧ g j = some b ∧ a.s = b.s ∧ a.e = b.e ∧ canonF a.ks = canonF b.ks ∧ descB a.ks = true ∧ few a ∧ few b) → Alk (L.filterMap f) (L.filterMap g)
  | [], _ => Alk.nil
  | x :: L, h => by
    have ih := alk_fm L fun j hj => h j (by simp [hj])
    rcases h x (by simp) with ⟨h1, h2⟩ | ⟨a, b, h1, h2, h3, h4, h5, h6, h7, h8⟩
    · rw [List.filterMap_cons, List.filterMap_cons, h1, h2]; exact ih
    · rw [List.filterMap_cons, List.filterMap_cons, h1, h2]; exact Alk.cons h3 h4 h5 h6 h7 h8 ih
end
end Go.Proofs.YtmckkklhonfmcaaGreat
