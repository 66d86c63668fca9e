/- Texts W58 to W69, as far as the statement reaches them, laid together by a program of ours. Conditions: those that each theorem names. -/
import Derived.Test.YtgebfbnndgjkiaaK3
set_option linter.unusedVariables false
set_option linter.unusedSimpArgs false
set_option linter.unusedSectionVars false
namespace Go.Proofs.Ytgebfbnndgjkiaa
open Go.Tess Go.RowKit
set_option maxRecDepth 100000
set_option maxHeartbeats 2000000
theorem svs_new {X : List Nat} {cb : Nat} {ksv kbv : Value} {h h' : Heap} (K : Keep [] h h') : SvS X cb ksv kbv h h' :=
  ⟨K.1, fun a B ha => ⟨a, K.blk (by simp) B, ha.keep K (by simp), (Tn.refl _ _ _).put K.any⟩⟩
theorem own_cut {x : Option Addr} {n c m d : Nat} : (Value.slice x n c).ownBlock = (Value.slice x m d).ownBlock := by cases x <;> rfl
theorem mem_cut {x : Option Addr} {n c m d y : Nat} (h : y ∈ (Value.slice x n c).ownBlock.toList) : y ∈ (Value.slice x m d).ownBlock.toList := by rw [own_cut (m := m) (d := d)] at h; exact h
theorem key_get {Fin : Nat → Prop} {h : Heap} {x : Option Addr} {n kc : Nat} {s : SpanD} {k : Nat} (hr : PKeys Fin h (.slice x n kc) s.ks) (hk : k < s.ks.length) : ∃ kb ko key sv vv, x = some ⟨kb, ko, none⟩ ∧ s.ks[k]? = some key ∧ CellsAt h kb (ko + k * 3) [.int .u64 key.tr, sv, vv] ∧ Fin kb ∧ RBytes Fin h sv key.suf ∧ RBytes Fin h vv key.val := by
  obtain ⟨_, ka, kc2, e, hx⟩ := SlR.form hr
  cases e
  rcases hx with e | ⟨kb, ko, e, hkb, hR⟩
  · rw [e] at hk; simp at hk
  · have hkey : s.ks[k]? = some s.ks[k] := List.getElem?_eq_getElem hk
    obtain ⟨sv, vv, h1, h2, h3⟩ := hR k _ hkey
    exact ⟨kb, ko, _, sv, vv, e, hkey, h1, hkb, h2, h3⟩

theorem c_saveCurrent (χ : Chi) (h : Heap) (c cb : Nat) (cm eq it : Value) (z : Int) (sv ev kv mt rd : Value) (xa : Option Addr) (na ca : Nat) (ak : Option Addr) (nk ck : Nat) (ab : Option Addr) (nb cb2 : Nat) (xk xb : List Value) (Fin : Nat → Prop) (bi oi : Nat) (s : SpanD)
    (Bc : Blk h c (dL cb cm eq it (.pointer (some ⟨bi, oi, none⟩)) z sv ev kv mt rd) dfT) (Bb : Blk h cb [(Value.slice xa na ca), (Value.slice ak nk ck), .slice ab nb cb2] bufT) (ha : Aren h (Value.slice xa na ca)) (Ok : Own h 0 keyT 3 (Value.slice ak nk ck) nk xk) (Ob : Own h 0 u8T 1 (.slice ab nb cb2) nb xb)
    (hps : PSpan Fin h bi oi s) (hbi : Fin bi) (hlow : Low Fin h) (hd : Dis c cb (Value.slice xa na ca) (Value.slice ak nk ck) (.slice ab nb cb2) Fin) (hsm : SmS s) :
    Cl Try.prog χ 149 #[.pointer (some ⟨c, 0, none⟩)] h (fun r h' => r = .tuple #[] ∧ ∃ sv' ev' a1 k1 xs G,
      SvI c cb (Value.slice xa na ca) (Value.slice ak nk ck) (Value.slice ab 0 cb2) (dL cb cm eq it (.pointer (some ⟨bi, oi, none⟩)) z sv' ev' k1 mt rd) h s sv' ev' s.ks.length a1 k1 xs G h' ∧ Own h' 0 u8T 1 (Value.slice ab 0 cb2) 0 []) := by
  have hne := hd.ne
  have hcl := Bc.lt
  have hbl := Bb.lt
  have hd2 : Dis c cb (Value.slice xa na ca) (Value.slice ak nk ck) (Value.slice ab 0 cb2) Fin := ⟨hd.ne, hd.fc, hd.fb, hd.a1, hd.k1, fun x hx => hd.b1 x (mem_cut hx)⟩
  refine cl_intro Try.func149 rfl rfl rfl ?_
  have K : Keep [c, cb] h h := Keep.refl _ _
  refine tr_seq ?_
  refine tr_reg ?_
  refine rs_v (v_move rfl) rfl ?_
  refine rs_v (v_nilCheck_ptr rfl) rfl ?_
  refine rs_v (v_fieldAddr fa_keyspan_DefragmentingIter_0 rfl) rfl ?_
  refine rs_v (v_load one_p_keyspan_DefragmentingBuffers rfl (by exact Bc.cell _ rfl)) rfl ?_
  refine rs_v (v_nilCheck_ptr rfl) rfl ?_
  refine rs_v (v_fieldAddr fa_keyspan_DefragmentingBuffers_0 rfl) rfl ?_
  refine rs_v (v_load one_bytealloc_A rfl (by exact Bb.cell _ rfl)) rfl ?_
  refine rs_w (w_call (vs := [_]) ok_bytealloc_A_Reset rfl ⟨rfl, trivial⟩ (c_Reset χ _ xa na ca)) rfl ?_
  rintro _ h1 ⟨rfl, hsame⟩; have hsame := hsame.symm; subst hsame
  refine rs_nil ?_
  refine q_thn ?_
  refine tr_seq ?_
  refine tr_draw [(true, 12), (false, 3)] _ (by kernel_rfl) (by kernel_rfl) (by kernel_rfl) ?_
  refine rx_any Same same_pre ?_
  refine rq_v (v_move rfl) ?_
  refine rq_v (v_nilCheck_ptr rfl) ?_
  refine rq_v (v_fieldAddr fa_keyspan_DefragmentingIter_0 rfl) ?_
  refine rq_v (v_load one_p_keyspan_DefragmentingBuffers rfl (by exact Bc.cell _ rfl)) ?_
  refine rq_v (v_move rfl) ?_
  refine rq_v (v_nilCheck_ptr rfl) ?_
  refine rq_v (v_fieldAddr fa_keyspan_DefragmentingIter_0 rfl) ?_
  refine rq_v (v_load one_p_keyspan_DefragmentingBuffers rfl (by exact Bc.cell _ rfl)) ?_
  refine rq_v (v_nilCheck_ptr rfl) ?_
  refine rq_v (v_fieldAddr fa_keyspan_DefragmentingBuffers_1 rfl) ?_
  refine rq_v (v_load one_sl_keyspan_Key rfl (by exact Bb.cell _ rfl)) ?_
  refine rq_v (v_slice_h (i := 0) u_sl_keyspan_Key siz_keyspan_Key rfl rfl rfl (Nat.zero_le _)) ?_
  refine rm_end ?_; intro ha2 Ka2; simp only [endM, hypF, ofE, argE, List.nil_append]
  have Ka2 : h = ha2 := Eq.symm Ka2
  subst Ka2
  refine rx_seq ?_
  refine rs_v (v_nilCheck_ptr rfl) rfl ?_
  refine rs_v (v_fieldAddr fa_keyspan_DefragmentingBuffers_1 rfl) rfl ?_
  refine rs_w0 (w_put siz_sl_keyspan_Key rfl rfl rfl rfl Bb rfl) ?_
  rintro _ h3 ⟨B3, K3⟩
  have Bc := K3.blk (by simp; omega) Bc
  have Bb := B3; have K := K.new1 K3 (by first | (right; omega) | (left; simp; done)); have Z3 := K3.1
  refine rs_nil ?_
  refine q_con ?_
  refine rx_nil ?_
  refine q_thn ?_
  refine tr_seq ?_
  refine tr_draw [(true, 12), (false, 3)] _ (by kernel_rfl) (by kernel_rfl) (by kernel_rfl) ?_
  refine rx_any Same same_pre ?_
  refine rq_v (v_move rfl) ?_
  refine rq_v (v_nilCheck_ptr rfl) ?_
  refine rq_v (v_fieldAddr fa_keyspan_DefragmentingIter_0 rfl) ?_
  refine rq_v (v_load one_p_keyspan_DefragmentingBuffers rfl (by exact Bc.cell _ rfl)) ?_
  refine rq_v (v_move rfl) ?_
  refine rq_v (v_nilCheck_ptr rfl) ?_
  refine rq_v (v_fieldAddr fa_keyspan_DefragmentingIter_0 rfl) ?_
  refine rq_v (v_load one_p_keyspan_DefragmentingBuffers rfl (by exact Bc.cell _ rfl)) ?_
  refine rq_v (v_nilCheck_ptr rfl) ?_
  refine rq_v (v_fieldAddr fa_keyspan_DefragmentingBuffers_2 rfl) ?_
  refine rq_v (v_load one_sl_uint8 rfl (by exact Bb.cell _ rfl)) ?_
  refine rq_v (v_slice_h (i := 0) u_sl_uint8 siz_uint8 rfl rfl rfl (Nat.zero_le _)) ?_
  refine rm_end ?_; intro ha4 Ka4; simp only [endM, hypF, ofE, argE, List.nil_append]
  have Ka4 : h3 = ha4 := Eq.symm Ka4
  subst Ka4
  refine rx_seq ?_
  refine rs_v (v_nilCheck_ptr rfl) rfl ?_
  refine rs_v (v_fieldAddr fa_keyspan_DefragmentingBuffers_2 rfl) rfl ?_
  refine rs_w0 (w_put siz_sl_uint8 rfl rfl rfl rfl Bb rfl) ?_
  rintro _ h5 ⟨B5, K5⟩
  have Bc := K5.blk (by simp; omega) Bc
  have Bb := B5; have K := K.new1 K5 (by first | (right; omega) | (left; simp; done)); have Z5 := K5.1
  refine rs_nil ?_
  refine q_con ?_
  refine rx_nil ?_
  refine q_thn ?_
  refine tr_seq ?_
  refine tr_seq ?_
  refine tr_reg ?_
  refine rs_v (v_move rfl) rfl ?_
  refine rs_v (v_nilCheck_ptr rfl) rfl ?_
  refine rs_v (v_fieldAddr fa_keyspan_DefragmentingIter_4 rfl) rfl ?_
  refine rs_v (v_load one_p_keyspan_Span rfl (by exact Bc.cell _ rfl)) rfl ?_
  refine rs_v (v_peq u_p_keyspan_Span rfl rfl) rfl ?_
  refine rs_nil ?_
  refine q_thn ?_
  refine tr_if_f rfl ?_
  refine tr_skip ?_
  refine q_thn ?_
  refine tr_seq ?_
  have hz5 := K.1
  have hXk : ∀ x, x ∈ (Value.slice ak nk ck).ownBlock.toList → x ∉ [c, cb] := fun x hx hm => by
    have := hd.k1 x hx
    simp only [List.mem_cons, List.not_mem_nil, or_false] at hm
    rcases hm with e | e
    · exact this.1 e
    · exact this.2.1 e
  have Ok5 : Own h5 0 keyT 3 (Value.slice ak 0 ck) 0 [] := Own.cut0 (Ok.keep2 K hXk)
  have ha5 : Aren h5 (Value.slice xa na ca) := ha.keep K (fun x hx hm => by
    have := hd.a1 x hx
    simp only [List.mem_cons, List.not_mem_nil, or_false] at hm
    rcases hm with e | e
    · exact this.1 e
    · exact this.2.1 e)
  have Bb5 : Blk h5 cb [(Value.slice xa na ca), (Value.slice ak 0 ck), (Value.slice ab 0 cb2)] bufT := Bb
  have hFn : ∀ b, Fin b → b < h.size ∧ b ∉ [c, cb] := fun b hb => ⟨hlow b hb, fun hm => by
    simp only [List.mem_cons, List.not_mem_nil, or_false] at hm
    rcases hm with e | e
    · subst e; exact hd.fc hb
    · subst e; exact hd.fb hb⟩
  obtain ⟨ss, se, sk, _, hcs, hr1, hr2, hr3⟩ := hps.stab hbi (K.stab hFn)
  have hb5 : cb < h5.size := by omega
  have ha0 : ∀ x, x ∈ (Value.slice xa na ca).ownBlock.toList → x ≠ cb ∧ x ∉ (Value.slice ak 0 ck).ownBlock.toList := fun x hx => ⟨(hd.a1 x hx).2.1, fun hm => (hd.k1 x (mem_cut hm)).2.2.2 hx⟩
  have hk0 : ∀ x, x ∈ (Value.slice ak 0 ck).ownBlock.toList → x < h5.size := fun x hx => by have := (own_ne Ok x (mem_cut hx)).2; omega
  have at5 : ∀ h', SvS [cb] cb (Value.slice ak 0 ck) (Value.slice ab 0 cb2) h5 h' → ∃ a', Blk h' cb [a', (Value.slice ak 0 ck), (Value.slice ab 0 cb2)] bufT ∧ Aren h' a' ∧ Tn [cb] h5 h' (Value.slice xa na ca) a' ∧ c ∉ a'.ownBlock.toList ∧ cb ∉ a'.ownBlock.toList := fun h' hk => by
    obtain ⟨a', B', ha', T⟩ := hk.2 _ Bb5 ha5
    refine ⟨a', B', ha', T, fun hm => ?_, fun hm => ?_⟩
    · rcases T.own c hm with e | e
      · exact (hd.a1 c e).1 rfl
      · omega
    · rcases T.own cb hm with e | e
      · exact (hd.a1 cb e).2.1 rfl
      · omega
  have hcC : ∀ h', SvS [cb] cb (Value.slice ak 0 ck) (Value.slice ab 0 cb2) h5 h' → Blk h' c (dL cb cm eq it (.pointer (some ⟨bi, oi, none⟩)) z sv ev kv mt rd) dfT := fun h' hk => by
    obtain ⟨a', B', ha', T, _⟩ := at5 h' hk
    exact (T.blk c (by omega) (by simpa using hne) (fun hm => (hd.a1 c hm).1 rfl)).trans Bc
  have hfF : ∀ h', SvS [cb] cb (Value.slice ak 0 ck) (Value.slice ab 0 cb2) h5 h' → Stab Fin h5 h' := fun h' hk b hb => by
    obtain ⟨a', B', ha', T, _⟩ := at5 h' hk
    exact T.blk b (by have := hlow b hb; omega) (fun hm => hd.fb (by rw [List.mem_singleton] at hm; subst hm; exact hb)) (fun hm => (hd.a1 b hm).2.2 hb)
  have hX5 : ∀ x, x ∈ [cb] → x = cb ∨ x ∈ (Value.slice ak 0 ck).ownBlock.toList := fun x hx => .inl (by simpa using hx)
  refine tr_draw [(true, 27), (false, 3)] _ (by kernel_rfl) (by kernel_rfl) (by kernel_rfl) ?_
  refine rx_any (SvS [cb] cb (Value.slice ak 0 ck) (Value.slice ab 0 cb2)) (svs_pre _ _ _ _) ?_
  refine rm_v (svs_pre _ _ _ _) (fun h' hk => v_move rfl) ?_
  refine rm_v (svs_pre _ _ _ _) (fun h' hk => v_move rfl) ?_
  refine rm_v (svs_pre _ _ _ _) (fun h' hk => v_move rfl) ?_
  refine rm_v (svs_pre _ _ _ _) (fun h' hk => v_nilCheck_ptr rfl) ?_
  refine rm_v (svs_pre _ _ _ _) (fun h' hk => v_fieldAddr fa_keyspan_DefragmentingIter_4 rfl) ?_
  refine rm_v (svs_pre _ _ _ _) (fun h' hk => v_load one_p_keyspan_Span rfl ((hcC h' hk).cell _ rfl)) ?_
  refine rm_v (svs_pre _ _ _ _) (fun h' hk => v_nilCheck_ptr rfl) ?_
  refine rm_v (svs_pre _ _ _ _) (fun h' hk => v_fieldAddr fa_keyspan_Span_0 rfl) ?_
  refine rm_v (svs_pre _ _ _ _) (fun h' hk => v_load one_sl_uint8 rfl (((hfF h' hk).cells hbi hcs).at 0 rfl)) ?_
  refine rm_w (SvV h5 (Value.slice xa na ca) cb (Value.slice ak 0 ck) (Value.slice ab 0 cb2) s.s) (fun v _ _ _ k2 hr => hr.step k2 hX5) (fun h' hk => by
    obtain ⟨a', B', ha', T, hca, hcba⟩ := at5 h' hk
    exact OpW.mono (w_call (vs := [_, _]) ok_keyspan_DefragmentingIter_saveBytes rfl ⟨rfl, rfl, trivial⟩ (c_saveBytes χ h' c cb _ a' (Value.slice ak 0 ck) (Value.slice ab 0 cb2) Fin _ s.s (hcC h' hk) B' ha' hca hcba (hr1.stab (hfF h' hk)) hsm.1)) (fun v h'' hp => ⟨save_svs B' hp, save_svv T hb5 ha0 hk0 hp⟩)) ?_
  refine rm_v (svs_pre _ _ _ _) (fun h' hk => v_move rfl) ?_
  refine rm_v (svs_pre _ _ _ _) (fun h' hk => v_move rfl) ?_
  refine rm_v (svs_pre _ _ _ _) (fun h' hk => v_nilCheck_ptr rfl) ?_
  refine rm_v (svs_pre _ _ _ _) (fun h' hk => v_fieldAddr fa_keyspan_DefragmentingIter_4 rfl) ?_
  refine rm_v (svs_pre _ _ _ _) (fun h' hk => v_load one_p_keyspan_Span rfl ((hcC h' hk).cell _ rfl)) ?_
  refine rm_v (svs_pre _ _ _ _) (fun h' hk => v_nilCheck_ptr rfl) ?_
  refine rm_v (svs_pre _ _ _ _) (fun h' hk => v_fieldAddr fa_keyspan_Span_1 rfl) ?_
  refine rm_v (svs_pre _ _ _ _) (fun h' hk => v_load one_sl_uint8 rfl (((hfF h' hk).cells hbi hcs).at 1 rfl)) ?_
  refine rm_w (SvV h5 (Value.slice xa na ca) cb (Value.slice ak 0 ck) (Value.slice ab 0 cb2) s.e) (fun v _ _ _ k2 hr => hr.step k2 hX5) (fun h' hk => by
    obtain ⟨a', B', ha', T, hca, hcba⟩ := at5 h' hk
    exact OpW.mono (w_call (vs := [_, _]) ok_keyspan_DefragmentingIter_saveBytes rfl ⟨rfl, rfl, trivial⟩ (c_saveBytes χ h' c cb _ a' (Value.slice ak 0 ck) (Value.slice ab 0 cb2) Fin _ s.e (hcC h' hk) B' ha' hca hcba (hr2.stab (hfF h' hk)) hsm.2.1)) (fun v h'' hp => ⟨save_svs B' hp, save_svv T hb5 ha0 hk0 hp⟩)) ?_
  refine rm_v (svs_pre _ _ _ _) (fun h' hk => v_move rfl) ?_
  refine rm_v (svs_pre _ _ _ _) (fun h' hk => v_nilCheck_ptr rfl) ?_
  refine rm_v (svs_pre _ _ _ _) (fun h' hk => v_fieldAddr fa_keyspan_DefragmentingIter_4 rfl) ?_
  refine rm_v (svs_pre _ _ _ _) (fun h' hk => v_load one_p_keyspan_Span rfl ((hcC h' hk).cell _ rfl)) ?_
  refine rm_v (svs_pre _ _ _ _) (fun h' hk => v_nilCheck_ptr rfl) ?_
  refine rm_v (svs_pre _ _ _ _) (fun h' hk => v_fieldAddr fa_keyspan_Span_3 rfl) ?_
  refine rm_v (svs_pre _ _ _ _) (fun h' hk => v_load one_keyspan_KeysOrder rfl (((hfF h' hk).cells hbi hcs).at 3 rfl)) ?_
  refine rm_o2 53 62 (fun v h' => ∃ v1 v2, v = .agg #[v1, v2, .slice none 0 0, .int .i8 0] ∧ SvV h5 (Value.slice xa na ca) cb (Value.slice ak 0 ck) (Value.slice ab 0 cb2) s.s v1 h' ∧ SvV h5 (Value.slice xa na ca) cb (Value.slice ak 0 ck) (Value.slice ab 0 cb2) s.e v2 h') rfl rfl rfl (by kernel_rfl) (by kernel_rfl)
    (fun v _ _ _ k2 hr => by obtain ⟨v1, v2, e, q1, q2⟩ := hr; exact ⟨v1, v2, e, q1.step k2 hX5, q2.step k2 hX5⟩)
    (fun u u2 h' hk hu hu2 => by
      obtain ⟨x1, n1, c1, rfl⟩ := hu.form
      obtain ⟨x2, n2, c2, rfl⟩ := hu2.form
      exact (v_build3 rfl rfl rfl (bld_keyspan_Span_0_1_3 _ _ _ _ _ _ _)).w.mono (fun _ _ e => by obtain ⟨e1, e2⟩ := e; subst e1; subst e2; exact ⟨(svs_pre _ _ _ _).refl _, _, _, rfl, hu, hu2⟩)) ?_
  refine rm_end ?_; intro ha9 Ka9; simp only [endM, hypF, ofE, argE, List.nil_append]
  intro v26 hv26 v18 _ v9 _
  obtain ⟨v1, v2, rfl, q1, q2⟩ := hv26
  obtain ⟨x1, n1, c1, rfl⟩ := q1.form
  obtain ⟨x2, n2, c2, rfl⟩ := q2.form
  refine rx_seq ?_
  refine rs_v (v_nilCheck_ptr rfl) rfl ?_
  refine rs_v (v_fieldAddr fa_keyspan_DefragmentingIter_6 rfl) rfl ?_
  refine rs_w0 (w_put siz_keyspan_Span rfl rfl rfl rfl (hcC ha9 Ka9) rfl) ?_
  rintro _ h6 ⟨B6, K6⟩
  obtain ⟨a1, G1, i0⟩ := SvI.start hd hcl hbl (k0 := (Value.slice ak nk ck)) (kv := (Value.slice ak 0 ck)) own_cut K ha5 Bb5 Ok5 Ka9 q1 q2 K6 B6
  have Bc := i0.bc
  have Bb := i0.bb
  have hcs6 := (K6.stab (A := Fin) (fun b hb => ⟨by have := hlow b hb; have := Ka9.1; omega, fun hm => hd.fc (by rw [List.mem_singleton] at hm; subst hm; exact hb)⟩)).cells hbi ((hfF ha9 Ka9).cells hbi hcs)
  obtain ⟨ka, kc, rfl⟩ := SlR.form2 hr3
  refine rs_nil ?_
  refine q_con ?_
  refine rx_nil ?_
  refine q_thn ?_
  refine tr_seq ?_
  refine tr_seq ?_
  refine tr_reg ?_
  refine rs_v (v_move rfl) rfl ?_
  refine rs_v (v_nilCheck_ptr rfl) rfl ?_
  refine rs_v (v_fieldAddr fa_keyspan_DefragmentingIter_4 rfl) rfl ?_
  refine rs_v (v_load one_p_keyspan_Span rfl (by exact Bc.cell _ rfl)) rfl ?_
  refine rs_v (v_nilCheck_ptr rfl) rfl ?_
  refine rs_v (v_fieldAddr fa_keyspan_Span_2 rfl) rfl ?_
  refine rs_v (v_load one_sl_keyspan_Key rfl (by exact hcs6.at 2 rfl)) rfl ?_
  refine rs_v (v_len u_sl_keyspan_Key rfl) rfl ?_
  refine rs_v (v_move rfl) rfl ?_
  refine rs_nil ?_
  refine q_thn ?_
  refine tr_block ?_
  refine tr_loop (fun m E h' => ∃ k a1 k1 xs G, k ≤ s.ks.length ∧ m = s.ks.length - k ∧ E = [(0, .pointer (some ⟨c, 0, none⟩)), (80, .int .i64 (s.ks.length : Int)), (81, .int .i64 (k : Int))] ∧ SvI c cb (Value.slice xa na ca) (Value.slice ak nk ck) (Value.slice ab 0 cb2) (dL cb cm eq it (.pointer (some ⟨bi, oi, none⟩)) z (.slice x1 n1 c1) (.slice x2 n2 c2) (.slice none 0 0) mt rd) h s (.slice x1 n1 c1) (.slice x2 n2 c2) k a1 k1 xs G h') s.ks.length [(0, _), (80, _), (81, _)] ⟨rfl, rfl, rfl, trivial⟩ ⟨0, _, _, _, _, Nat.zero_le _, rfl, rfl, i0⟩ ?_
  rintro m E hL7 ⟨k, a1, k1, xs, G, hk, rfl, rfl, i⟩
  obtain ⟨ak1, ck1, rfl⟩ := Own.form3 i.ow
  have Bc := i.bc
  have Bb := i.bb
  have K := i.kp
  have hzL := i.kp.1
  refine tr_seq ?_
  refine tr_reg ?_
  refine rs_v (v_lt rfl rfl) rfl ?_
  refine rs_nil ?_
  refine q_thn ?_
  refine tr_seq ?_
  refine tr_ifn rfl (fun hif => ?_) (fun hif => ?_)
  · -- no
    simp only [decide_eq_true_eq, decide_eq_false_iff_not] at hif
    have hkk : k = s.ks.length := by omega
    subst hkk
    refine tr_exit ?_
    refine q_thn_exit ?_
    refine q_lp_exit ?_
    refine q_blk_hit ?_
    refine q_thn ?_
    refine tr_reg ?_
    refine rs_v (v_move rfl) rfl ?_
    refine rs_v (v_move rfl) rfl ?_
    refine rs_v (v_nilCheck_ptr rfl) rfl ?_
    refine rs_v (v_fieldAddr fa_keyspan_DefragmentingIter_0 rfl) rfl ?_
    refine rs_v (v_load one_p_keyspan_DefragmentingBuffers rfl (by exact Bc.cell _ rfl)) rfl ?_
    refine rs_v (v_nilCheck_ptr rfl) rfl ?_
    refine rs_v (v_fieldAddr fa_keyspan_DefragmentingBuffers_1 rfl) rfl ?_
    refine rs_v (v_load one_sl_keyspan_Key rfl (by exact Bb.cell _ rfl)) rfl ?_
    refine rs_v (v_nilCheck_ptr rfl) rfl ?_
    refine rs_v (v_fieldAddr fa_keyspan_DefragmentingIter_6 rfl) rfl ?_
    refine rs_v (v_fieldAddr fa_keyspan_Span_2 rfl) rfl ?_
    refine rs_w0 (w_put siz_sl_keyspan_Key rfl rfl rfl rfl Bc rfl) ?_
    rintro _ h8 ⟨B8, K8⟩
    have Bb := K8.blk (by simp; omega) Bb
    have Bc := B8; have K := K.new1 K8 (by first | (right; omega) | (left; simp; done)); have Z8 := K8.1
    refine rs_nil ?_
    refine q_end (res_none rfl) ?_
    have i9 := i.putC (cells' := (dL cb cm eq it (.pointer (some ⟨bi, oi, none⟩)) z (.slice x1 n1 c1) (.slice x2 n2 c2) (.slice ak1 s.ks.length ck1) mt rd)) hd2 hcl hbl K8 Bc
    refine ⟨rfl, _, _, _, _, _, _, i9, (Own.cut0 Ob).keep2 i9.kp (fun x hx hm => ?_)⟩
    have := hd2.b1 x hx
    simp only [List.mem_cons, List.mem_append] at hm
    rcases hm with e | e | e | e
    · exact this.1 e
    · exact this.2.1 e
    · exact this.2.2.2.1 e
    · exact this.2.2.2.2 e
  -- yes
  simp only [decide_eq_true_eq, decide_eq_false_iff_not] at hif
  refine tr_skip ?_
  refine q_thn ?_
  refine tr_seq ?_
  refine tr_block ?_
  refine tr_seq ?_
  refine tr_reg ?_
  refine rs_v (v_move rfl) rfl ?_
  refine rs_v (v_assign rfl) rfl ?_
  refine rs_nil ?_
  refine q_thn ?_
  have hFn : ∀ b, Fin b → b < h.size ∧ b ∉ c :: cb :: ((Value.slice xa na ca).ownBlock.toList ++ (Value.slice ak nk ck).ownBlock.toList) := fun b hb => ⟨hlow b hb, fun hm => by
    simp only [List.mem_cons, List.mem_append] at hm
    rcases hm with e | e | e | e
    · subst e; exact hd.fc hb
    · subst e; exact hd.fb hb
    · exact (hd.a1 b e).2.2 hb
    · exact (hd.k1 b e).2.2.1 hb⟩
  obtain ⟨ss8, se8, sk8, _, hcs, hq1, hq2, hq3⟩ := hps.stab hbi (i.kp.stab hFn)
  obtain ⟨ka8, kc8, rfl⟩ := SlR.form2 hq3
  obtain ⟨kb8, ko8, key, ksv8, kvv8, rfl, hkey, hkc, hkF, hr1k, hr2k⟩ := key_get hq3 (k := k) (by omega)
  have hnk := hsm.2.2.1
  have hsk := hsm.2.2.2 key (List.mem_of_getElem? hkey)
  have hb8 : cb < hL7.size := by omega
  have hane := i.ane hd2 hcl hbl
  have hkne := i.kne hd2 hcl hbl
  have ha8 : ∀ x, x ∈ a1.ownBlock.toList → x ≠ cb ∧ x ∉ (Value.slice ak1 k ck1).ownBlock.toList := fun x hx => ⟨(hane x hx).2, fun hm => (i.ko x hm).2 hx⟩
  have hk8 : ∀ x, x ∈ (Value.slice ak1 k ck1).ownBlock.toList → x < hL7.size := fun x hx => (own_ne i.ow x hx).2
  have at8 : ∀ h', (SvS (cb :: (Value.slice ak1 k ck1).ownBlock.toList) cb (Value.slice ak1 k ck1) (Value.slice ab 0 cb2)) hL7 h' → ∃ a', Blk h' cb [a', (Value.slice ak1 k ck1), (Value.slice ab 0 cb2)] bufT ∧ Aren h' a' ∧ Tn (cb :: (Value.slice ak1 k ck1).ownBlock.toList) hL7 h' a1 a' ∧ c ∉ a'.ownBlock.toList ∧ cb ∉ a'.ownBlock.toList := fun h' hk => by
    obtain ⟨a', B', ha', T⟩ := hk.2 _ i.bb i.ar
    refine ⟨a', B', ha', T, fun hm => ?_, fun hm => ?_⟩
    · rcases T.own c hm with e | e
      · exact (hane c e).1 rfl
      · omega
    · rcases T.own cb hm with e | e
      · exact (hane cb e).2 rfl
      · omega
  have hcC : ∀ h', (SvS (cb :: (Value.slice ak1 k ck1).ownBlock.toList) cb (Value.slice ak1 k ck1) (Value.slice ab 0 cb2)) hL7 h' → Blk h' c (dL cb cm eq it (.pointer (some ⟨bi, oi, none⟩)) z (.slice x1 n1 c1) (.slice x2 n2 c2) (.slice none 0 0) mt rd) dfT := fun h' hk => by
    obtain ⟨a', B', ha', T, _⟩ := at8 h' hk
    refine (T.blk c (by omega) (fun hm => ?_) (fun hm => (hane c hm).1 rfl)).trans Bc
    rcases List.mem_cons.1 hm with e | e
    · exact hne e
    · exact (hkne c e).1 rfl
  have hFk : ∀ b, Fin b → b ∉ (Value.slice ak1 k ck1).ownBlock.toList := fun b hb hm => by
    rcases (i.ko b hm).1 with e | e
    · exact (hd.k1 b e).2.2.1 hb
    · have := hlow b hb; omega
  have hFa : ∀ b, Fin b → b ∉ a1.ownBlock.toList := fun b hb hm => by
    rcases i.ao b hm with e | e
    · exact (hd.a1 b e).2.2 hb
    · have := hlow b hb; omega
  have hfF : ∀ h', (SvS (cb :: (Value.slice ak1 k ck1).ownBlock.toList) cb (Value.slice ak1 k ck1) (Value.slice ab 0 cb2)) hL7 h' → Stab Fin hL7 h' := fun h' hk b hb => by
    obtain ⟨a', B', ha', T, _⟩ := at8 h' hk
    refine T.blk b (by have := hlow b hb; omega) (fun hm => ?_) (hFa b hb)
    rcases List.mem_cons.1 hm with e | e
    · subst e; exact hd.fb hb
    · exact hFk b hb e
  have hX8 : ∀ x, x ∈ cb :: (Value.slice ak1 k ck1).ownBlock.toList → x = cb ∨ x ∈ (Value.slice ak1 k ck1).ownBlock.toList := fun x hx => List.mem_cons.1 hx
  refine tr_draw [(true, 51), (false, 3)] _ (by kernel_rfl) (by kernel_rfl) (by kernel_rfl) ?_
  refine rx_big (SvS [cb] cb (Value.slice ak1 k ck1) (Value.slice ab 0 cb2)) (SvS (cb :: (Value.slice ak1 k ck1).ownBlock.toList) cb (Value.slice ak1 k ck1) (Value.slice ab 0 cb2)) (svs_pre _ _ _ _) (svs_pre _ _ _ _) (fun _ _ k => k.more (by simp)) ?_
  refine rb_v (svs_pre _ _ _ _) (fun h' hk => v_move rfl) ?_
  refine rb_v (svs_pre _ _ _ _) (fun h' hk => v_nilCheck_ptr rfl) ?_
  refine rb_v (svs_pre _ _ _ _) (fun h' hk => v_fieldAddr fa_keyspan_DefragmentingIter_0 rfl) ?_
  refine rb_v (svs_pre _ _ _ _) (fun h' hk => v_load one_p_keyspan_DefragmentingBuffers rfl ((hcC h' hk).cell _ rfl)) ?_
  refine rb_v (svs_pre _ _ _ _) (fun h' hk => v_move rfl) ?_
  refine rb_v (svs_pre _ _ _ _) (fun h' hk => v_nilCheck_ptr rfl) ?_
  refine rb_v (svs_pre _ _ _ _) (fun h' hk => v_fieldAddr fa_keyspan_DefragmentingIter_0 rfl) ?_
  refine rb_v (svs_pre _ _ _ _) (fun h' hk => v_load one_p_keyspan_DefragmentingBuffers rfl ((hcC h' hk).cell _ rfl)) ?_
  refine rb_v (svs_pre _ _ _ _) (fun h' hk => v_nilCheck_ptr rfl) ?_
  refine rb_v (svs_pre _ _ _ _) (fun h' hk => v_fieldAddr fa_keyspan_DefragmentingBuffers_1 rfl) ?_
  refine rb_v (svs_pre _ _ _ _) (fun h' hk => v_load (v := (Value.slice ak1 k ck1)) one_sl_keyspan_Key rfl (by obtain ⟨a', B', _⟩ := at8 h' hk; exact B'.cell _ rfl)) ?_
  refine rb_v (svs_pre _ _ _ _) (fun h' hk => v_move rfl) ?_
  refine rb_v (svs_pre _ _ _ _) (fun h' hk => v_nilCheck_ptr rfl) ?_
  refine rb_v (svs_pre _ _ _ _) (fun h' hk => v_fieldAddr fa_keyspan_DefragmentingIter_4 rfl) ?_
  refine rb_v (svs_pre _ _ _ _) (fun h' hk => v_load one_p_keyspan_Span rfl ((hcC h' hk).cell _ rfl)) ?_
  refine rb_v (svs_pre _ _ _ _) (fun h' hk => v_nilCheck_ptr rfl) ?_
  refine rb_v (svs_pre _ _ _ _) (fun h' hk => v_fieldAddr fa_keyspan_Span_2 rfl) ?_
  refine rb_v (svs_pre _ _ _ _) (fun h' hk => v_load one_sl_keyspan_Key rfl (((hfF h' hk).cells hbi hcs).at 2 rfl)) ?_
  refine rb_v (svs_pre _ _ _ _) (fun h' hk => v_move rfl) ?_
  refine rb_v (svs_pre _ _ _ _) (fun h' hk => v_indexAddrN u_sl_keyspan_Key siz_keyspan_Key rfl rfl (by omega)) ?_
  refine rb_v (svs_pre _ _ _ _) (fun h' hk => v_fieldAddr fa_keyspan_Key_0 rfl) ?_
  refine rb_v (svs_pre _ _ _ _) (fun h' hk => v_load one_uint64 rfl (((hfF h' hk).cells hkF hkc).at 0 rfl)) ?_
  refine rb_v (svs_pre _ _ _ _) (fun h' hk => v_move rfl) ?_
  refine rb_v (svs_pre _ _ _ _) (fun h' hk => v_move rfl) ?_
  refine rb_v (svs_pre _ _ _ _) (fun h' hk => v_nilCheck_ptr rfl) ?_
  refine rb_v (svs_pre _ _ _ _) (fun h' hk => v_fieldAddr fa_keyspan_DefragmentingIter_4 rfl) ?_
  refine rb_v (svs_pre _ _ _ _) (fun h' hk => v_load one_p_keyspan_Span rfl ((hcC h' hk).cell _ rfl)) ?_
  refine rb_v (svs_pre _ _ _ _) (fun h' hk => v_nilCheck_ptr rfl) ?_
  refine rb_v (svs_pre _ _ _ _) (fun h' hk => v_fieldAddr fa_keyspan_Span_2 rfl) ?_
  refine rb_v (svs_pre _ _ _ _) (fun h' hk => v_load one_sl_keyspan_Key rfl (((hfF h' hk).cells hbi hcs).at 2 rfl)) ?_
  refine rb_v (svs_pre _ _ _ _) (fun h' hk => v_move rfl) ?_
  refine rb_v (svs_pre _ _ _ _) (fun h' hk => v_indexAddrN u_sl_keyspan_Key siz_keyspan_Key rfl rfl (by omega)) ?_
  refine rb_v (svs_pre _ _ _ _) (fun h' hk => v_fieldAddr fa_keyspan_Key_1 rfl) ?_
  refine rb_v (svs_pre _ _ _ _) (fun h' hk => v_load one_sl_uint8 rfl (((hfF h' hk).cells hkF hkc).at 1 rfl)) ?_
  refine rb_w (SvV hL7 a1 cb (Value.slice ak1 k ck1) (Value.slice ab 0 cb2) key.suf) (fun v _ _ _ k2 hr => hr.step k2 hX8) (fun h' hk => by
    obtain ⟨a', B', ha', T, hca, hcba⟩ := at8 h' hk
    exact OpW.mono (w_call (vs := [_, _]) ok_keyspan_DefragmentingIter_saveBytes rfl ⟨rfl, rfl, trivial⟩ (c_saveBytes χ h' c cb _ a' (Value.slice ak1 k ck1) (Value.slice ab 0 cb2) Fin _ key.suf (hcC h' hk) B' ha' hca hcba (hr1k.stab (hfF h' hk)) hsk.1)) (fun v h'' hp => ⟨save_svs B' hp, save_svv T hb8 ha8 hk8 hp⟩)) ?_
  refine rb_v (svs_pre _ _ _ _) (fun h' hk => v_move rfl) ?_
  refine rb_v (svs_pre _ _ _ _) (fun h' hk => v_move rfl) ?_
  refine rb_v (svs_pre _ _ _ _) (fun h' hk => v_nilCheck_ptr rfl) ?_
  refine rb_v (svs_pre _ _ _ _) (fun h' hk => v_fieldAddr fa_keyspan_DefragmentingIter_4 rfl) ?_
  refine rb_v (svs_pre _ _ _ _) (fun h' hk => v_load one_p_keyspan_Span rfl ((hcC h' hk).cell _ rfl)) ?_
  refine rb_v (svs_pre _ _ _ _) (fun h' hk => v_nilCheck_ptr rfl) ?_
  refine rb_v (svs_pre _ _ _ _) (fun h' hk => v_fieldAddr fa_keyspan_Span_2 rfl) ?_
  refine rb_v (svs_pre _ _ _ _) (fun h' hk => v_load one_sl_keyspan_Key rfl (((hfF h' hk).cells hbi hcs).at 2 rfl)) ?_
  refine rb_v (svs_pre _ _ _ _) (fun h' hk => v_move rfl) ?_
  refine rb_v (svs_pre _ _ _ _) (fun h' hk => v_indexAddrN u_sl_keyspan_Key siz_keyspan_Key rfl rfl (by omega)) ?_
  refine rb_v (svs_pre _ _ _ _) (fun h' hk => v_fieldAddr fa_keyspan_Key_2 rfl) ?_
  refine rb_v (svs_pre _ _ _ _) (fun h' hk => v_load one_sl_uint8 rfl (((hfF h' hk).cells hkF hkc).at 2 rfl)) ?_
  refine rb_w (SvV hL7 a1 cb (Value.slice ak1 k ck1) (Value.slice ab 0 cb2) key.val) (fun v _ _ _ k2 hr => hr.step k2 hX8) (fun h' hk => by
    obtain ⟨a', B', ha', T, hca, hcba⟩ := at8 h' hk
    exact OpW.mono (w_call (vs := [_, _]) ok_keyspan_DefragmentingIter_saveBytes rfl ⟨rfl, rfl, trivial⟩ (c_saveBytes χ h' c cb _ a' (Value.slice ak1 k ck1) (Value.slice ab 0 cb2) Fin _ key.val (hcC h' hk) B' ha' hca hcba (hr2k.stab (hfF h' hk)) hsk.2)) (fun v h'' hp => ⟨save_svs B' hp, save_svv T hb8 ha8 hk8 hp⟩)) ?_
  refine rb_o2 118 131 (fun v h' => ∃ v1 v2, v = .agg #[.int .u64 key.tr, v1, v2] ∧ SvV hL7 a1 cb (Value.slice ak1 k ck1) (Value.slice ab 0 cb2) key.suf v1 h' ∧ SvV hL7 a1 cb (Value.slice ak1 k ck1) (Value.slice ab 0 cb2) key.val v2 h') rfl rfl rfl (by kernel_rfl) (by kernel_rfl)
    (fun v _ _ _ k2 hr => by obtain ⟨v1, v2, e, q1, q2⟩ := hr; exact ⟨v1, v2, e, q1.step k2 hX8, q2.step k2 hX8⟩)
    (fun u u2 h' hk hu hu2 => by
      obtain ⟨y1, m1, d1, rfl⟩ := hu.form
      obtain ⟨y2, m2, d2, rfl⟩ := hu2.form
      exact (v_build3 rfl rfl rfl (bld_keyspan_Key_0_1_2 _ _ _ _ _ _ _)).w.mono (fun _ _ e => by obtain ⟨e1, e2⟩ := e; subst e1; subst e2; exact ⟨(svs_pre _ _ _ _).refl _, _, _, rfl, hu, hu2⟩)) ?_
  refine rb_o 132 (NewK hL7 a1 cb (Value.slice ak1 k ck1) (Value.slice ab 0 cb2) key) rfl (by kernel_rfl) (fun v _ _ _ k2 hr => hr.step k2 hX8 hb8 hk8)
    (fun u h' hk hu => by
      obtain ⟨w1, w2, rfl, p1, p2⟩ := hu
      obtain ⟨a', B', ha', T, _⟩ := at8 h' hk
      exact OpW.mono (w_new1 u_sl_keyspan_Key siz_keyspan_Key zero_keyspan_Key rfl rfl rfl rfl rfl) (fun v h'' hv => by
        obtain ⟨rfl, Bn, Kn, _⟩ := hv
        have Sn : SvS [cb] cb (Value.slice ak1 k ck1) (Value.slice ab 0 cb2) h' h'' := svs_new Kn
        exact ⟨Sn, _, w1, w2, a', rfl, Bn, Kn.blk (by simp) B', ha'.keep Kn (by simp), hk.1, (fun hm => by have := ha'.low _ hm; omega), p1.step Sn (fun x hx => .inl (by simpa using hx)), p2.step Sn (fun x hx => .inl (by simpa using hx))⟩)) ?_
  refine rb_bigO 133 (AppK hL7 a1 cb (Value.slice ak1 k ck1) (Value.slice ab 0 cb2) k xs key) rfl (by kernel_rfl) (fun v _ _ _ k2 hr => hr.step k2)
    (fun u h' hk hu => by
      obtain ⟨g, w1, w2, a', rfl, Bg, B', ha', hg, hga, p1, p2⟩ := hu
      obtain ⟨y1, m1, d1, rfl⟩ := p1.form
      obtain ⟨y2, m2, d2, rfl⟩ := p2.form
      obtain ⟨a9, B9, _, T⟩ := hk.2 _ i.bb i.ar
      have e9 := blk_inj B' B9
      simp only [List.cons.injEq, and_true] at e9
      obtain ⟨rfl, _⟩ := e9
      have Oh := i.ow.keep2 T.keep (fun x hx hm => by
        rcases List.mem_append.1 hm with e | e
        · exact (hkne x hx).2 (by simpa using e)
        · exact (i.ko x hx).2 e)
      refine OpW.mono (w_app1 u_sl_keyspan_Key info_keyspan_Key rfl rfl rfl Oh rfl rfl Bg rfl (by omega) (by omega) (Nat.zero_le _)) (fun v h'' hv => ?_)
      obtain ⟨O', K', _, F'⟩ := hv
      exact ⟨app_svs B' ha' (fun x hx => ⟨(hkne x hx).2, fun hm => by
        rcases T.own x hm with e | e
        · exact (i.ko x hx).2 e
        · have := hk8 x hx; omega⟩) K', app_appk T hb8 (fun x hx => ⟨(hkne x hx).2, (i.ko x hx).2, hk8 x hx⟩) B' ha' p1 p2 O' K' F'⟩) ?_
  refine rb_end ?_; intro ha9 Ka9; simp only [endM, hypF, ofE, argE, List.nil_append]
  intro v50 hv50 v49 _ v48 _ v47 _ v34 _
  have hf50 : ∃ ax cx, v50 = .slice ax (k + 1) cx := by obtain ⟨_, _, _, _, _, _, O, _⟩ := hv50; exact Own.form3 O
  obtain ⟨ax, cx, rfl⟩ := hf50
  obtain ⟨a2, B2, _⟩ := at8 ha9 Ka9
  refine rx_seq ?_
  refine rs_v (v_nilCheck_ptr rfl) rfl ?_
  refine rs_v (v_fieldAddr fa_keyspan_DefragmentingBuffers_1 rfl) rfl ?_
  refine rs_w0 (w_put siz_sl_keyspan_Key rfl rfl rfl rfl B2 rfl) ?_
  rintro _ h9 ⟨B9, K9⟩
  obtain ⟨a3, xs3, G3, i3⟩ := i.app hd2 hcl hbl hkey Ka9 hv50 K9 (fun a99 B99 => by
    have e9 := blk_inj B2 B99
    simp only [List.cons.injEq, and_true] at e9
    obtain ⟨rfl, _⟩ := e9
    exact B9)
  refine rs_nil ?_
  refine q_con ?_
  refine rx_nil ?_
  refine q_blk_n ?_
  refine q_thn ?_
  refine tr_reg ?_
  refine rs_v (v_add rfl rfl (by omega) (by omega)) rfl ?_
  refine rs_v (v_move rfl) rfl ?_
  refine rs_nil ?_
  refine q_lp (s.ks.length - (k + 1)) [(0, _), (80, _), (81, _)] (by omega) ⟨rfl, rfl, rfl, trivial⟩ ⟨k + 1, _, _, _, _, by omega, rfl, rfl, i3⟩
end Go.Proofs.Ytgebfbnndgjkiaa
namespace Go.Proofs.Ytgebfbnndgjkiaa
open Go.Tess Go.RowKit
set_option maxRecDepth 100000
set_option maxHeartbeats 1000000
def eqF : Value := .func (.func 78) #[] #[]
def defF : Value := .func (.func 67) #[] #[]
def redF : Value := .func (.func 68) #[] #[]
def mthV : Value := .iface 161 defF
theorem take_step {α : Type} {a b : List α} {k : Nat} {x y : α} (h : a.take k = b.take k) (hx : a[k]? = some x) (hy : b[k]? = some y) (e : x = y) : a.take (k + 1) = b.take (k + 1) := by
  rw [take_snoc' hx, take_snoc' hy, h, e]
theorem keys_ne {a b : List KeyD} {k : Nat} {x y : KeyD} (hx : a[k]? = some x) (hy : b[k]? = some y) (h : x ≠ y) : keysEq a b = false := by
  cases hq : keysEq a b with
  | false => rfl
  | true => rw [keysEq_iff.1 hq, hy] at hx; exact absurd (Option.some.inj hx).symm h
theorem m_Should (v : Value) : Meth Try.prog 161 v "ShouldDefragment" 139 v := fun _ => by kernel_rfl

theorem c_bytesEqual (χ : Chi) (h : Heap) (a b : Value) (s u : ByteArray) (ha : RBy h a s) (hb : RBy h b u) :
    Cl Try.prog χ 78 #[a, b] h (fun r h' => r = .bool (seq' s u) ∧ h' = h) := by
  refine cl_intro Try.func78 rfl rfl rfl ?_
  have K : Keep [] h h := Keep.refl _ _
  refine tr_seq ?_
  refine tr_reg ?_
  refine rs_v (v_assign rfl) rfl ?_
  refine rs_nil ?_
  refine q_thn ?_
  refine tr_seq ?_
  refine tr_reg ?_
  refine rs_v (v_move rfl) rfl ?_
  refine rs_v (v_toStr u_sl_uint8 u_uint8 u_string rfl ha) rfl ?_
  refine rs_v (v_move rfl) rfl ?_
  refine rs_v (v_toStr u_sl_uint8 u_uint8 u_string rfl hb) rfl ?_
  refine rs_v (v_seq rfl rfl) rfl ?_
  refine rs_v (v_assign rfl) rfl ?_
  refine rs_nil ?_
  refine q_thn ?_
  refine tr_ret ?_
  refine q_ret (res_tmp rfl rfl) ?_
  exact ⟨rfl, rfl⟩
theorem c_Reduce (χ : Chi) (h : Heap) (a b : Value) :
    Cl Try.prog χ 68 #[a, b] h (fun r h' => r = a ∧ h' = h) := by
  refine cl_intro Try.func68 rfl rfl rfl ?_
  have K : Keep [] h h := Keep.refl _ _
  refine tr_seq ?_
  refine tr_reg ?_
  refine rs_v (v_assign rfl) rfl ?_
  refine rs_nil ?_
  refine q_thn ?_
  refine tr_seq ?_
  refine tr_reg ?_
  refine rs_v (v_move rfl) rfl ?_
  refine rs_v (v_assign rfl) rfl ?_
  refine rs_nil ?_
  refine q_thn ?_
  refine tr_ret ?_
  refine q_ret (res_tmp rfl rfl) ?_
  exact ⟨rfl, rfl⟩
theorem c_DefragmentInternal (χ : Chi) (h : Heap) (A B : Nat → Prop) (ba oa bb ob : Nat) (s t : SpanD) (hA : PSpan A h ba oa s) (hB : PSpan B h bb ob t) (hn : s.ks.length ≤ 100000) :
    Cl Try.prog χ 67 #[eqF, .pointer (some ⟨ba, oa, none⟩), .pointer (some ⟨bb, ob, none⟩)] h (fun r h' => r = .bool (keysEq s.ks t.ks) ∧ h' = h) := by
  obtain ⟨sa, ea, va, _, hca, ha1, ha2, ha3⟩ := hA
  obtain ⟨sb, eb, vb, _, hcb, hb1, hb2, hb3⟩ := hB
  obtain ⟨ka, ca, rfl⟩ := SlR.form2 ha3
  obtain ⟨kb, cb, rfl⟩ := SlR.form2 hb3
  unfold eqF
  refine cl_intro Try.func67 rfl rfl rfl ?_
  have K : Keep [] h h := Keep.refl _ _
  refine tr_seq ?_
  refine tr_reg ?_
  refine rs_v (v_assign rfl) rfl ?_
  refine rs_nil ?_
  refine q_thn ?_
  refine tr_seq ?_
  refine tr_seq ?_
  refine tr_reg ?_
  refine rs_v (v_move rfl) rfl ?_
  refine rs_v (v_nilCheck_ptr rfl) rfl ?_
  refine rs_v (v_fieldAddr fa_keyspan_Span_3 rfl) rfl ?_
  refine rs_v (v_load one_keyspan_KeysOrder rfl (by exact hca.at 3 rfl)) rfl ?_
  refine rs_v (v_ne rfl rfl) rfl ?_
  refine rs_v (v_move rfl) rfl ?_
  refine rs_gv rfl (rfl) (v_move rfl) rfl ?_
  refine rs_gv rfl (rfl) (v_nilCheck_ptr rfl) rfl ?_
  refine rs_gv rfl (rfl) (v_fieldAddr fa_keyspan_Span_3 rfl) rfl ?_
  refine rs_gv rfl (rfl) (v_load one_keyspan_KeysOrder rfl (by exact hcb.at 3 rfl)) rfl ?_
  refine rs_gv rfl (rfl) (v_ne rfl rfl) rfl ?_
  refine rs_v (v_pick_f rfl rfl) rfl ?_
  refine rs_nil ?_
  refine q_thn ?_
  refine tr_if_f rfl ?_
  refine tr_skip ?_
  refine q_thn ?_
  refine tr_seq ?_
  refine tr_seq ?_
  refine tr_quiet (by kernel_rfl) (by kernel_rfl) ?_
  refine rq_v (v_move rfl) ?_
  refine rq_v (v_nilCheck_ptr rfl) ?_
  refine rq_v (v_fieldAddr fa_keyspan_Span_2 rfl) ?_
  refine rq_v (v_load one_sl_keyspan_Key rfl (by exact hca.at 2 rfl)) ?_
  refine rq_v (v_len u_sl_keyspan_Key rfl) ?_
  refine rq_v (v_move rfl) ?_
  refine rq_v (v_nilCheck_ptr rfl) ?_
  refine rq_v (v_fieldAddr fa_keyspan_Span_2 rfl) ?_
  refine rq_v (v_load one_sl_keyspan_Key rfl (by exact hcb.at 2 rfl)) ?_
  refine rq_v (v_len u_sl_keyspan_Key rfl) ?_
  refine rq_v (v_ne rfl rfl) ?_
  refine rm_end ?_; simp only [endM, hypF, ofE, argE]
  refine q_thn ?_
  refine tr_if rfl (fun hif => ?_) (fun hif => ?_)
  · -- yes
    simp only [decide_eq_true_eq, decide_eq_false_iff_not] at hif
    refine tr_seq ?_
    refine tr_reg ?_
    refine rs_v (v_assign rfl) rfl ?_
    refine rs_nil ?_
    refine q_thn ?_
    refine tr_ret ?_
    refine q_thn_ret ?_
    refine q_ret (res_tmp rfl rfl) ?_
    refine ⟨?_, rfl⟩
    cases hq : keysEq s.ks t.ks with
    | false => rfl
    | true => rw [keysEq_iff.1 hq] at hif; simp at hif
  -- no
  simp only [decide_eq_false_iff_not, ne_eq, Decidable.not_not] at hif
  have hlen : s.ks.length = t.ks.length := by omega
  refine tr_skip ?_
  refine q_thn ?_
  refine tr_seq ?_
  refine tr_seq ?_
  refine tr_reg ?_
  refine rs_v (v_move rfl) rfl ?_
  refine rs_v (v_nilCheck_ptr rfl) rfl ?_
  refine rs_v (v_fieldAddr fa_keyspan_Span_2 rfl) rfl ?_
  refine rs_v (v_load one_sl_keyspan_Key rfl (by exact hca.at 2 rfl)) rfl ?_
  refine rs_v (v_len u_sl_keyspan_Key rfl) rfl ?_
  refine rs_v (v_move rfl) rfl ?_
  refine rs_nil ?_
  refine q_thn ?_
  refine tr_block ?_
  refine tr_loop (fun m E h' => ∃ k, k ≤ s.ks.length ∧ m = s.ks.length - k ∧ E = [(0, eqF), (1, .pointer (some ⟨ba, oa, none⟩)), (2, .pointer (some ⟨bb, ob, none⟩)), (36, .int .i64 (s.ks.length : Int)), (37, .int .i64 (k : Int))] ∧ h' = h ∧ s.ks.take k = t.ks.take k) s.ks.length [(0, _), (1, _), (2, _), (36, _), (37, _)] ⟨rfl, rfl, rfl, rfl, rfl, trivial⟩ ⟨0, Nat.zero_le _, rfl, rfl, rfl, rfl⟩ ?_
  rintro m E hL1 ⟨k, hk, rfl, rfl, rfl, htk⟩
  refine tr_seq ?_
  refine tr_reg ?_
  refine rs_v (v_lt rfl rfl) rfl ?_
  refine rs_nil ?_
  refine q_thn ?_
  refine tr_seq ?_
  refine tr_ifn rfl (fun hif => ?_) (fun hif => ?_)
  · -- no
    simp only [decide_eq_true_eq, decide_eq_false_iff_not] at hif
    have hkk : k = s.ks.length := by omega
    subst hkk
    refine tr_exit ?_
    refine q_thn_exit ?_
    refine q_lp_exit ?_
    refine q_blk_hit ?_
    refine q_thn ?_
    refine tr_seq ?_
    refine tr_reg ?_
    refine rs_v (v_assign rfl) rfl ?_
    refine rs_nil ?_
    refine q_thn ?_
    refine tr_ret ?_
    refine q_ret (res_tmp rfl rfl) ?_
    refine ⟨?_, rfl⟩
    rw [List.take_length, List.take_of_length_le (by omega)] at htk
    rw [keysEq_iff.2 htk]
  -- yes
  simp only [decide_eq_true_eq, decide_eq_false_iff_not] at hif
  obtain ⟨kb1, ko1, key1, s1, u1, rfl, hkey1, hc1, hF1, hs1, hu1⟩ := key_get ha3 (k := k) (by omega)
  obtain ⟨kb2, ko2, key2, s2, u2, rfl, hkey2, hc2, hF2, hs2, hu2⟩ := key_get hb3 (k := k) (by omega)
  refine tr_skip ?_
  refine q_thn ?_
  refine tr_seq ?_
  refine tr_block ?_
  refine tr_seq ?_
  refine tr_reg ?_
  refine rs_v (v_move rfl) rfl ?_
  refine rs_v (v_assign rfl) rfl ?_
  refine rs_nil ?_
  refine q_thn ?_
  refine tr_seq ?_
  refine tr_seq ?_
  refine tr_quiet (by kernel_rfl) (by kernel_rfl) ?_
  refine rq_v (v_move rfl) ?_
  refine rq_v (v_nilCheck_ptr rfl) ?_
  refine rq_v (v_fieldAddr fa_keyspan_Span_2 rfl) ?_
  refine rq_v (v_load one_sl_keyspan_Key rfl (by exact hca.at 2 rfl)) ?_
  refine rq_v (v_move rfl) ?_
  refine rq_v (v_indexAddrN u_sl_keyspan_Key siz_keyspan_Key rfl rfl (by omega)) ?_
  refine rq_v (v_fieldAddr fa_keyspan_Key_0 rfl) ?_
  refine rq_v (v_load one_uint64 rfl (by exact hc1.at 0 rfl)) ?_
  refine rq_v (v_move rfl) ?_
  refine rq_v (v_nilCheck_ptr rfl) ?_
  refine rq_v (v_fieldAddr fa_keyspan_Span_2 rfl) ?_
  refine rq_v (v_load one_sl_keyspan_Key rfl (by exact hcb.at 2 rfl)) ?_
  refine rq_v (v_move rfl) ?_
  refine rq_v (v_indexAddrN u_sl_keyspan_Key siz_keyspan_Key rfl rfl (by omega)) ?_
  refine rq_v (v_fieldAddr fa_keyspan_Key_0 rfl) ?_
  refine rq_v (v_load one_uint64 rfl (by exact hc2.at 0 rfl)) ?_
  refine rq_v (v_ne rfl rfl) ?_
  refine rm_end ?_; simp only [endM, hypF, ofE, argE]
  refine q_thn ?_
  refine tr_if rfl (fun hif => ?_) (fun hif => ?_)
  · -- yes
    simp only [decide_eq_true_eq, decide_eq_false_iff_not] at hif
    refine tr_seq ?_
    refine tr_reg ?_
    refine rs_v (v_assign rfl) rfl ?_
    refine rs_nil ?_
    refine q_thn ?_
    refine tr_ret ?_
    refine q_thn_ret ?_
    refine q_blk_ret ?_
    refine q_thn_ret ?_
    refine q_lp_ret ?_
    refine q_blk_ret ?_
    refine q_thn_ret ?_
    refine q_ret (res_tmp rfl rfl) ?_
    refine ⟨by rw [keys_ne hkey1 hkey2 (fun e => by subst e; simp at hif)], rfl⟩
  -- no
  simp only [decide_eq_false_iff_not, ne_eq, Decidable.not_not] at hif
  have htr := hif
  refine tr_skip ?_
  refine q_thn ?_
  refine tr_seq ?_
  refine tr_seq ?_
  refine tr_quiet (by kernel_rfl) (by kernel_rfl) ?_
  refine rq_v (v_move rfl) ?_
  refine rq_v (v_move rfl) ?_
  refine rq_v (v_nilCheck_ptr rfl) ?_
  refine rq_v (v_fieldAddr fa_keyspan_Span_2 rfl) ?_
  refine rq_v (v_load one_sl_keyspan_Key rfl (by exact hca.at 2 rfl)) ?_
  refine rq_v (v_move rfl) ?_
  refine rq_v (v_indexAddrN u_sl_keyspan_Key siz_keyspan_Key rfl rfl (by omega)) ?_
  refine rq_v (v_fieldAddr fa_keyspan_Key_1 rfl) ?_
  refine rq_v (v_load one_sl_uint8 rfl (by exact hc1.at 1 rfl)) ?_
  refine rq_v (v_move rfl) ?_
  refine rq_v (v_nilCheck_ptr rfl) ?_
  refine rq_v (v_fieldAddr fa_keyspan_Span_2 rfl) ?_
  refine rq_v (v_load one_sl_keyspan_Key rfl (by exact hcb.at 2 rfl)) ?_
  refine rq_v (v_move rfl) ?_
  refine rq_v (v_indexAddrN u_sl_keyspan_Key siz_keyspan_Key rfl rfl (by omega)) ?_
  refine rq_v (v_fieldAddr fa_keyspan_Key_1 rfl) ?_
  refine rq_v (v_load one_sl_uint8 rfl (by exact hc2.at 1 rfl)) ?_
  refine rq_w (w_callv (first := []) (cap := []) (vs := [_, _]) ok_bytes_Equal rfl ⟨rfl, rfl, trivial⟩ (c_bytesEqual χ _ _ _ _ _ (RBytes.by hs1) (RBytes.by hs2))) ?_
  refine rq_v (v_not rfl) ?_
  refine rm_end ?_; simp only [endM, hypF, ofE, argE]
  refine q_thn ?_
  refine tr_if rfl (fun hif => ?_) (fun hif => ?_)
  · -- yes
    skip
    refine tr_seq ?_
    refine tr_reg ?_
    refine rs_v (v_assign rfl) rfl ?_
    refine rs_nil ?_
    refine q_thn ?_
    refine tr_ret ?_
    refine q_thn_ret ?_
    refine q_blk_ret ?_
    refine q_thn_ret ?_
    refine q_lp_ret ?_
    refine q_blk_ret ?_
    refine q_thn_ret ?_
    refine q_ret (res_tmp rfl rfl) ?_
    refine ⟨by rw [keys_ne hkey1 hkey2 (fun e => by subst e; simp [seq_iff.2 rfl] at hif)], rfl⟩
  -- no
  have hsuf := seq_iff.1 (by simpa using hif)
  refine tr_skip ?_
  refine q_thn ?_
  refine tr_seq ?_
  refine tr_quiet (by kernel_rfl) (by kernel_rfl) ?_
  refine rq_v (v_move rfl) ?_
  refine rq_v (v_nilCheck_ptr rfl) ?_
  refine rq_v (v_fieldAddr fa_keyspan_Span_2 rfl) ?_
  refine rq_v (v_load one_sl_keyspan_Key rfl (by exact hca.at 2 rfl)) ?_
  refine rq_v (v_move rfl) ?_
  refine rq_v (v_indexAddrN u_sl_keyspan_Key siz_keyspan_Key rfl rfl (by omega)) ?_
  refine rq_v (v_fieldAddr fa_keyspan_Key_2 rfl) ?_
  refine rq_v (v_load one_sl_uint8 rfl (by exact hc1.at 2 rfl)) ?_
  refine rq_v (v_move rfl) ?_
  refine rq_v (v_nilCheck_ptr rfl) ?_
  refine rq_v (v_fieldAddr fa_keyspan_Span_2 rfl) ?_
  refine rq_v (v_load one_sl_keyspan_Key rfl (by exact hcb.at 2 rfl)) ?_
  refine rq_v (v_move rfl) ?_
  refine rq_v (v_indexAddrN u_sl_keyspan_Key siz_keyspan_Key rfl rfl (by omega)) ?_
  refine rq_v (v_fieldAddr fa_keyspan_Key_2 rfl) ?_
  refine rq_v (v_load one_sl_uint8 rfl (by exact hc2.at 2 rfl)) ?_
  refine rq_w (w_call (vs := [_, _]) ok_bytes_Equal rfl ⟨rfl, rfl, trivial⟩ (c_bytesEqual χ _ _ _ _ _ (RBytes.by hu1) (RBytes.by hu2))) ?_
  refine rq_v (v_not rfl) ?_
  refine rm_end ?_; simp only [endM, hypF, ofE, argE]
  refine q_thn ?_
  refine tr_if rfl (fun hif => ?_) (fun hif => ?_)
  · -- yes
    skip
    refine tr_seq ?_
    refine tr_reg ?_
    refine rs_v (v_assign rfl) rfl ?_
    refine rs_nil ?_
    refine q_thn ?_
    refine tr_ret ?_
    refine q_blk_ret ?_
    refine q_thn_ret ?_
    refine q_lp_ret ?_
    refine q_blk_ret ?_
    refine q_thn_ret ?_
    refine q_ret (res_tmp rfl rfl) ?_
    refine ⟨by rw [keys_ne hkey1 hkey2 (fun e => by subst e; simp [seq_iff.2 rfl] at hif)], rfl⟩
  -- no
  have hval := seq_iff.1 (by simpa using hif)
  refine tr_skip ?_
  refine q_blk_n ?_
  refine q_thn ?_
  refine tr_reg ?_
  refine rs_v (v_add rfl rfl (by omega) (by omega)) rfl ?_
  refine rs_v (v_move rfl) rfl ?_
  refine rs_nil ?_
  refine q_lp (s.ks.length - (k + 1)) [(0, _), (1, _), (2, _), (36, _), (37, _)] (by omega) ⟨rfl, rfl, rfl, rfl, rfl, trivial⟩ ⟨k + 1, by omega, rfl, rfl, rfl, take_step htk hkey1 hkey2 ?_⟩
  cases key1; cases key2
  simp only at htr hsuf hval ⊢
  rw [hsuf, hval, htr]
theorem c_Should (χ : Chi) (h : Heap) (A B : Nat → Prop) (ba oa bb ob : Nat) (s t : SpanD) (hA : PSpan A h ba oa s) (hB : PSpan B h bb ob t) (hn : s.ks.length ≤ 100000) :
    Cl Try.prog χ 139 #[defF, eqF, .pointer (some ⟨ba, oa, none⟩), .pointer (some ⟨bb, ob, none⟩)] h (fun r h' => r = .bool (keysEq s.ks t.ks) ∧ h' = h) := by
  unfold defF
  refine cl_intro Try.func139 rfl rfl rfl ?_
  have K : Keep [] h h := Keep.refl _ _
  refine tr_seq ?_
  refine tr_reg ?_
  refine rs_v (v_assign rfl) rfl ?_
  refine rs_nil ?_
  refine q_thn ?_
  refine tr_seq ?_
  refine tr_reg ?_
  refine rs_v (v_move rfl) rfl ?_
  refine rs_v (v_move rfl) rfl ?_
  refine rs_v (v_move rfl) rfl ?_
  refine rs_v (v_move rfl) rfl ?_
  refine rs_w (w_callv (first := []) (cap := []) (vs := [_, _, _]) ok_keyspan_DefragmentInternal rfl ⟨rfl, rfl, rfl, trivial⟩ (c_DefragmentInternal χ _ A B _ _ _ _ s t hA hB hn)) rfl ?_
  rintro _ h1 ⟨rfl, hsame⟩; have hsame := hsame.symm; subst hsame
  refine rs_v (v_assign rfl) rfl ?_
  refine rs_nil ?_
  refine q_thn ?_
  refine tr_ret ?_
  refine q_ret (res_tmp rfl rfl) ?_
  exact ⟨rfl, rfl⟩
theorem c_checkEqual (χ : Chi) (h : Heap) (A B : Nat → Prop) (c ba oa : Nat) (s t : SpanD) (x0 x1 x3 x5 y0 y1 y2 y3 rd : Value) (Bc : Blk h c [x0, x1, eqF, x3, .pointer (some ⟨ba, oa, none⟩), x5, y0, y1, y2, y3, mthV, rd] dfT) (hA : PSpan A h ba oa s) (hB : PSpan B h c 6 t) (hn : s.ks.length ≤ 100000) (hs0 : s.ks ≠ []) (ht0 : t.ks ≠ []) :
    Cl Try.prog χ 152 #[.pointer (some ⟨c, 0, none⟩), .pointer (some ⟨ba, oa, none⟩), .pointer (some ⟨c, 6, none⟩)] h (fun r h' => r = .bool (keysEq s.ks t.ks) ∧ h' = h) := by
  have hA0 := hA
  have hB0 := hB
  obtain ⟨sa, ea, va, _, hca, ha1, ha2, ha3⟩ := hA
  obtain ⟨sb, eb, vb, _, hcb, hb1, hb2, hb3⟩ := hB
  obtain ⟨ka, ca, rfl⟩ := SlR.form2 ha3
  obtain ⟨kb, cb, rfl⟩ := SlR.form2 hb3
  have hg1 : (!decide ((s.ks.length : Int) = 0)) = true := by simp; exact hs0
  have hg2 : (!decide ((t.ks.length : Int) = 0)) = true := by simp; exact ht0
  refine cl_intro Try.func152 rfl rfl rfl ?_
  have K : Keep [] h h := Keep.refl _ _
  refine tr_seq ?_
  refine tr_reg ?_
  refine rs_v (v_assign rfl) rfl ?_
  refine rs_nil ?_
  refine q_thn ?_
  refine tr_seq ?_
  refine tr_quiet (by kernel_rfl) (by kernel_rfl) ?_
  refine rq_v (v_move rfl) ?_
  refine rq_w (w_call (vs := [_]) ok_keyspan_Span_Empty rfl ⟨rfl, trivial⟩ (c_Empty χ _ _ _ ka s.ks.length ca (hca.at 2 rfl))) ?_
  refine rq_v (v_not rfl) ?_
  refine rq_v (v_move rfl) ?_
  refine rq_gv rfl (lkm hg1) (v_move rfl) ?_
  refine rq_gw rfl (lkm hg1) (w_call (vs := [_]) ok_keyspan_Span_Empty rfl ⟨rfl, trivial⟩ (c_Empty χ _ _ _ kb t.ks.length cb (hcb.at 2 rfl))) ?_
  refine rq_gv rfl (lkm hg1) (v_not rfl) ?_
  refine rq_v (v_pick_t (lkb hg1) rfl) ?_
  refine rq_v (v_move rfl) ?_
  refine rq_gv rfl (lkm (show _ = true from hg2)) (v_move rfl) ?_
  refine rq_gv rfl (lkm (show _ = true from hg2)) (v_nilCheck_ptr rfl) ?_
  refine rq_gv rfl (lkm (show _ = true from hg2)) (v_fieldAddr fa_keyspan_DefragmentingIter_7 rfl) ?_
  refine rq_gv rfl (lkm (show _ = true from hg2)) (v_load one_keyspan_DefragmentMethod rfl (by exact Bc.cell _ rfl)) ?_
  refine rq_gv rfl (lkm (show _ = true from hg2)) (v_move rfl) ?_
  refine rq_gv rfl (lkm (show _ = true from hg2)) (v_nilCheck_ptr rfl) ?_
  refine rq_gv rfl (lkm (show _ = true from hg2)) (v_fieldAddr fa_keyspan_DefragmentingIter_2 rfl) ?_
  refine rq_gv rfl (lkm (show _ = true from hg2)) (v_load one_base_Equal rfl (by exact Bc.cell _ rfl)) ?_
  refine rq_gv rfl (lkm (show _ = true from hg2)) (v_move rfl) ?_
  refine rq_gv rfl (lkm (show _ = true from hg2)) (v_nilCheck_ptr rfl) ?_
  refine rq_gv rfl (lkm (show _ = true from hg2)) (v_fieldAddr fa_keyspan_DefragmentingIter_4 rfl) ?_
  refine rq_gv rfl (lkm (show _ = true from hg2)) (v_load one_p_keyspan_Span rfl (by exact Bc.cell _ rfl)) ?_
  refine rq_gv rfl (lkm (show _ = true from hg2)) (v_move rfl) ?_
  refine rq_gv rfl (lkm (show _ = true from hg2)) (v_nilCheck_ptr rfl) ?_
  refine rq_gv rfl (lkm (show _ = true from hg2)) (v_fieldAddr fa_keyspan_DefragmentingIter_6 rfl) ?_
  refine rq_gv rfl (lkm (show _ = true from hg2)) (v_nilCheck_iface rfl) ?_
  refine rq_gv rfl (lkm (show _ = true from hg2)) (v_move rfl) ?_
  refine rq_gw rfl (lkm (show _ = true from hg2)) (w_invoke (vs := [_, _, _]) ok_keyspan_DefragmentMethodFunc_ShouldDefragment (m_Should _) rfl ⟨rfl, rfl, rfl, trivial⟩ (c_Should χ _ A B _ _ _ _ s t hA0 hB0 hn)) ?_
  refine rq_v (v_pick_t (lkb hg2) rfl) ?_
  refine rq_v (v_assign rfl) ?_
  refine rm_end ?_; simp only [endM, hypF, ofE, argE]
  refine q_thn ?_
  refine tr_ret ?_
  refine q_ret (res_tmp rfl rfl) ?_
  exact ⟨rfl, rfl⟩
end Go.Proofs.Ytgebfbnndgjkiaa
namespace Go.Proofs.Ytgebfbnndgjkiaa
open Go.Tess Go.RowKit
set_option maxRecDepth 100000
set_option maxHeartbeats 1000000
section
variable {P : Program} {χ : Chi} {ρ : Operand → Option Value} {h : Heap} {ty : TypeId} {pos : String} {after : Array Edge} {guard : Option (Nat × Bool)}
/-- append of all elements of a slice, nil or not. -/
theorem w_appS {s x : Operand} {t e : TypeId} {dst : Option Tmp} {z : Value} {size bytes base : Nat} {v : Value} {n m c : Nat} {y : Option Addr} {xs : List Value} {news : List Value}
    (ht : P.underlying t = some (.slice e)) (hi : (P.info? e).map (fun i => (i.zero, i.size, i.bytes)) = some (some z, size, bytes)) (hzs : Nat.beq z.cells.size size = true) (hsz : Nat.blt 0 size = true)
    (hs : ρ s = some v) (hown : Own h base e size v n xs) (hx : ρ x = some (.slice y m c)) (hl : news.length = m * size)
    (hnews : news = [] ∨ ∃ b o, y = some ⟨b, o, none⟩ ∧ CellsAt h b o news) (h1 : ∀ u, u ∈ news → u.oneCell' = true) (hbytes : (n + m) * bytes ≤ 140737488355328) (hn : n + m ≤ 9223372036854775807) (hbase : base ≤ h.size) :
    OpW P χ ⟨dst, .call ⟨.builtin .append, #[s, x], #[t, t]⟩, ty, pos, after, guard⟩ ρ h
      (fun v' h' => Own h' base e size v' (n + m) (xs ++ news) ∧ Keep v.ownBlock.toList h h' ∧ (v'.ownBlock = v.ownBlock ∨ v'.ownBlock = some h.size)) := by
  cases hq : P.info? e with
  | none => rw [hq] at hi; simp at hi
  | some i =>
    rw [hq] at hi
    simp only [Option.map_some, Option.some.injEq, Prod.mk.injEq] at hi
    have hsz' : 0 < size := by simpa [Nat.blt_eq] using hsz
    refine w_of_run fun r d hr => ?_
    have e1 := hr s (by simp [Op.operands, Call.operands]) _ hs
    have e2 := hr x (by simp [Op.operands, Call.operands]) _ hx
    cases y with
    | none =>
      have hnil : news = [] := by
        rcases hnews with e | ⟨b, o, e, _⟩
        · exact e
        · cases e
      subst hnil
      have hm : m = 0 := by
        simp only [List.length_nil] at hl
        rcases Nat.eq_zero_or_pos m with h0 | h0
        · exact h0
        · have := Nat.mul_pos h0 hsz'; omega
      subst hm
      have hrun : (Builtin.append_ #[t, t] ty #[v, .slice none 0 c]).run P (mkw χ h d) = .ok v (mkw χ h d) := by
        rcases hown.2 with ⟨rfl, rfl⟩ | ⟨g, cap, cur, rfl, _, _, hnc, _⟩
        · simp [Builtin.append_, run_underlying ht, sizeOf, typeInfo, hq, Builtin.lenOf, Builtin.firstCells]
        · simp [Builtin.append_, run_underlying ht, sizeOf, typeInfo, hq, Builtin.lenOf, Builtin.firstCells, hnc, storeCells]
      refine ⟨v, h, d, ?_, by simpa using hown, Keep.refl _ _, .inl rfl⟩
      simp [execOp, resolve, invoke, builtin, e1, e2, hrun]
    | some ad =>
      obtain ⟨v', w', hrun, h2, h3, h4, h5⟩ := run_append_own_at (P := P) (mkw χ h d) base t ty e i z size bytes ht hq hi.1 hi.2.1 hi.2.2 (Nat.eq_of_beq_eq_true hzs) hsz' v n xs hown ad m c news hl
        (fun j u hj => by
          rcases hnews with e | ⟨b, o, e, hc⟩
          · rw [e] at hj; simp at hj
          · cases e; rw [addr_add, cell_mkw]; exact hc j u hj) h1 (by unfold maxLen; omega) hbytes hbase
      obtain ⟨k1, k2⟩ := grown_keep h3
      refine ⟨v', w'.heap, w'.drawn, ?_, ?_, k2, h5⟩
      · simp [execOp, resolve, invoke, builtin, e1, e2, hrun]; exact k1
      · rw [k1] at h2; exact h2
end
/-- The iterator between two steps of its own. -/
structure DSt (W : List SpanD) (I : ItI) (t : TypeId) (v0 cm : Value) (c cb : Nat) (q : Pos) (Fin F : Nat → Prop) (h : Heap) (sp : Value) (z : Int) (sv ev kv a ksv kbv : Value) (nk : Nat) (xk : List Value) (nb : Nat) (xb : List Value) : Prop where
  it : I q Fin h
  bc : Blk h c (dL cb cm eqF (.iface t v0) sp z sv ev kv mthV redF) dfT
  bb : Blk h cb [a, ksv, kbv] bufT
  ar : Aren h a
  ok : Own h 0 keyT 3 ksv nk xk
  ob : Own h 0 u8T 1 kbv nb xb
  di : Dis c cb a ksv kbv Fin
  ff : ∀ b, Fin b → F b
  fc : F c
  fb : F cb
  fa : ∀ x, x ∈ a.ownBlock.toList → F x
  fk : ∀ x, x ∈ ksv.ownBlock.toList → F x
  fo : ∀ x, x ∈ kbv.ownBlock.toList → F x
  lo : Low F h
/-- .. while it joins: cur is what has been joined. d: forward. -/
structure MS (W : List SpanD) (I : ItI) (t : TypeId) (v0 cm : Value) (c cb : Nat) (d : Bool) (cur : SpanD) (q : Pos) (Fin F G : Nat → Prop) (h : Heap) (sp : Value) (z : Int) (sv ev a ksv kbv : Value) (xk : List Value) (nb : Nat) (xb : List Value) : Prop where
  ds : DSt W I t v0 cm c cb q Fin F h sp z sv ev ksv a ksv kbv cur.ks.length xk nb xb
  rw : RowsR 3 (cPKey G h) xk cur.ks
  s1 : RBytes (fun b => G b ∨ (d = false ∧ b ∈ kbv.ownBlock.toList)) h sv cur.s
  s2 : RBytes (fun b => G b ∨ (d = true ∧ b ∈ kbv.ownBlock.toList)) h ev cur.e
  g : ∀ b, G b → b < h.size ∧ b ≠ c ∧ b ≠ cb ∧ ¬ Fin b ∧ b ∉ ksv.ownBlock.toList ∧ b ∉ kbv.ownBlock.toList ∧ F b
theorem Ret.stab {W : List SpanD} {q : Pos} {Fin : Nat → Prop} {h h' : Heap} {r : Value} (hr : Ret W q Fin h r) (hs : Stab Fin h h') : Ret W q Fin h' r := by
  unfold Ret at *
  cases hc : cur W q with
  | none => rw [hc] at hr; exact hr
  | some s => rw [hc] at hr; obtain ⟨b, o, e, h1, h2⟩ := hr; exact ⟨b, o, e, h1, h2.stab h1 hs⟩
section
variable {W : List SpanD} {I : ItI} {t : TypeId} {v0 cm : Value} {c cb : Nat} {d : Bool} {cur : SpanD} {q q' : Pos} {Fin F G : Nat → Prop} {h h' h1 h2 h3 : Heap} {sp sp' sv sv' ev ev' kv kv' a ksv kbv kbv' : Value} {z z' : Int} {nk nb nb' : Nat} {xk xb xb' : List Value} {χ : Chi}
theorem DSt.keepc (D : DSt W I t v0 cm c cb q Fin F h sp z sv ev kv a ksv kbv nk xk nb xb) {X : List Nat} (K : Keep X h h') (hX : ∀ x, x ∈ X → x = c ∨ x = cb) : Stab Fin h h' ∧ Aren h' a ∧ Own h' 0 keyT 3 ksv nk xk ∧ Own h' 0 u8T 1 kbv nb xb ∧ Low F h' := by
  refine ⟨K.stab fun b hb => ⟨D.lo b (D.ff b hb), fun hm => ?_⟩, D.ar.keep K (fun x hx hm => ?_), D.ok.keep2 K (fun x hx hm => ?_), D.ob.keep2 K (fun x hx hm => ?_), D.lo.mono K.1⟩
  · rcases hX b hm with e | e
    · subst e; exact D.di.fc hb
    · subst e; exact D.di.fb hb
  · rcases hX x hm with e | e
    · exact (D.di.a1 x hx).1 e
    · exact (D.di.a1 x hx).2.1 e
  · rcases hX x hm with e | e
    · exact (D.di.k1 x hx).1 e
    · exact (D.di.k1 x hx).2.1 e
  · rcases hX x hm with e | e
    · exact (D.di.b1 x hx).1 e
    · exact (D.di.b1 x hx).2.1 e
/-- A store into its own block. -/
theorem DSt.putC (hit : IterOK Try.prog χ W t v0 I) (D : DSt W I t v0 cm c cb q Fin F h sp z sv ev kv a ksv kbv nk xk nb xb) (K : Keep [c] h h') (B : Blk h' c (dL cb cm eqF (.iface t v0) sp' z' sv' ev' kv' mthV redF) dfT) :
    DSt W I t v0 cm c cb q Fin F h' sp' z' sv' ev' kv' a ksv kbv nk xk nb xb := by
  obtain ⟨e1, e2, e3, e4, e5⟩ := D.keepc K (fun x hx => .inl (by simpa using hx))
  exact ⟨hit.stab D.it e1 K.1, B, K.blk (by simp; exact fun e => D.di.ne e.symm) D.bb, e2, e3, e4, D.di, D.ff, D.fc, D.fb, D.fa, D.fk, D.fo, e5⟩
theorem DSt.putB (hit : IterOK Try.prog χ W t v0 I) (D : DSt W I t v0 cm c cb q Fin F h sp z sv ev kv a ksv kbv nk xk nb xb) (K : Keep [cb] h h') (B : Blk h' cb [a, ksv, kbv] bufT) :
    DSt W I t v0 cm c cb q Fin F h' sp z sv ev kv a ksv kbv nk xk nb xb := by
  obtain ⟨e1, e2, e3, e4, e5⟩ := D.keepc K (fun x hx => .inr (by simpa using hx))
  exact ⟨hit.stab D.it e1 K.1, K.blk (by simp; exact D.di.ne) D.bc, B, e2, e3, e4, D.di, D.ff, D.fc, D.fb, D.fa, D.fk, D.fo, e5⟩
/-- A step of the iterator beneath. -/
theorem DSt.inner (hit : IterOK Try.prog χ W t v0 I) (D : DSt W I t v0 cm c cb q Fin F h sp z sv ev kv a ksv kbv nk xk nb xb) {r : Value} (hp : ItPost W I Fin h q' r h') :
    ∃ Fin', DSt W I t v0 cm c cb q' Fin' (fun b => F b ∨ Fin' b) h' sp z sv ev kv a ksv kbv nk xk nb xb ∧ (∀ b, Fin' b → Fin b ∨ h.size ≤ b) ∧ KeepP Fin h h' ∧ KeepP F h h' ∧ Ret W q' Fin' h' r := by
  obtain ⟨Fin', hI', hF', KP, hret⟩ := hp
  have hn : ∀ x, x < h.size → ¬ Fin x → ¬ Fin' x := fun x hl hf hf' => by
    rcases hF' x hf' with e | e
    · exact hf e
    · omega
  have hcl := D.bc.lt; have hbl := D.bb.lt
  have hkl := own_ne D.ok; have hol := own_ne D.ob; have hal := D.ar.low
  have hA : Aren h' a := by
    rcases D.ar with e | ⟨g, n, c', cs, e, q1, q2, q3, B⟩
    · exact .inl e
    · exact .inr ⟨g, n, c', cs, e, q1, q2, q3, KP.blk (D.di.a1 g (by rw [e]; simp [Value.ownBlock])).2.2 B⟩
  refine ⟨Fin', ⟨hI', KP.blk D.di.fc D.bc, KP.blk D.di.fb D.bb, hA, KP.own D.ok (fun b hb => (D.di.k1 b (by rw [hb]; simp)).2.2.1), KP.own D.ob (fun b hb => (D.di.b1 b (by rw [hb]; simp)).2.2.1), ⟨D.di.ne, hn c hcl D.di.fc, hn cb hbl D.di.fb, fun x hx => ?_, fun x hx => ?_, fun x hx => ?_⟩, fun b hb => .inr hb, .inl D.fc, .inl D.fb, fun x hx => .inl (D.fa x hx), fun x hx => .inl (D.fk x hx), fun x hx => .inl (D.fo x hx), fun b hb => ?_⟩, hF', KP, ⟨KP.1, fun b hb hF => KP.2 b hb (fun hf => hF (D.ff b hf))⟩, hret⟩
  · obtain ⟨p1, p2, p3⟩ := D.di.a1 x hx
    exact ⟨p1, p2, hn x (hal x hx) p3⟩
  · obtain ⟨p1, p2, p3, p4⟩ := D.di.k1 x hx
    exact ⟨p1, p2, hn x (hkl x hx).2 p3, p4⟩
  · obtain ⟨p1, p2, p3, p4⟩ := D.di.b1 x hx
    exact ⟨p1, p2, hn x (hol x hx).2 p3, p4⟩
  · rcases hb with hb | hb
    · have := D.lo b hb; have := KP.1; omega
    · exact hit.low hI' b hb
theorem MS.gstab (M : MS W I t v0 cm c cb d cur q Fin F G h sp z sv ev a ksv kbv xk nb xb) {X : List Nat} (K : Keep X h h') (hX : ∀ x, x ∈ X → x = c ∨ x = cb) : Stab (fun b => G b ∨ b ∈ kbv.ownBlock.toList) h h' :=
  K.stab fun b hb => by
    rcases hb with hb | hb
    · obtain ⟨p1, p2, p3, _⟩ := M.g b hb
      exact ⟨p1, fun hm => (hX b hm).elim p2 p3⟩
    · obtain ⟨p1, p2, _⟩ := M.ds.di.b1 b hb
      exact ⟨(own_ne M.ds.ob b hb).2, fun hm => (hX b hm).elim p1 p2⟩
theorem MS.move (M : MS W I t v0 cm c cb d cur q Fin F G h sp z sv ev a ksv kbv xk nb xb) (hs : Stab (fun b => G b ∨ b ∈ kbv.ownBlock.toList) h h') (hz : h.size ≤ h'.size) {Fin' F' : Nat → Prop} (hF : ∀ b, F b → F' b) (hn : ∀ b, G b → ¬ Fin' b)
    (D : DSt W I t v0 cm c cb q' Fin' F' h' sp' z' sv ev ksv a ksv kbv cur.ks.length xk nb xb) : MS W I t v0 cm c cb d cur q' Fin' F' G h' sp' z' sv ev a ksv kbv xk nb xb :=
  ⟨D, M.rw.mono fun x k hr => cPKey_st.stab _ _ _ _ _ (fun b hb => hs b (.inl hb)) hr, M.s1.stab (fun b hb => hs b (hb.imp id (fun e => e.2))), M.s2.stab (fun b hb => hs b (hb.imp id (fun e => e.2))), fun b hb => by
    obtain ⟨p1, p2, p3, p4, p5, p6, p7⟩ := M.g b hb
    exact ⟨by omega, p2, p3, hn b hb, p5, p6, hF b p7⟩⟩
theorem MS.putC (hit : IterOK Try.prog χ W t v0 I) (M : MS W I t v0 cm c cb d cur q Fin F G h sp z sv ev a ksv kbv xk nb xb) (K : Keep [c] h h') (B : Blk h' c (dL cb cm eqF (.iface t v0) sp' z' sv ev ksv mthV redF) dfT) :
    MS W I t v0 cm c cb d cur q Fin F G h' sp' z' sv ev a ksv kbv xk nb xb :=
  M.move (M.gstab K (fun x hx => .inl (by simpa using hx))) K.1 (fun _ h => h) (fun b hb => (M.g b hb).2.2.2.1) (M.ds.putC hit K B)
theorem MS.putB (hit : IterOK Try.prog χ W t v0 I) (M : MS W I t v0 cm c cb d cur q Fin F G h sp z sv ev a ksv kbv xk nb xb) (K : Keep [cb] h h') (B : Blk h' cb [a, ksv, kbv] bufT) :
    MS W I t v0 cm c cb d cur q Fin F G h' sp z sv ev a ksv kbv xk nb xb :=
  M.move (M.gstab K (fun x hx => .inr (by simpa using hx))) K.1 (fun _ h => h) (fun b hb => (M.g b hb).2.2.2.1) (M.ds.putB hit K B)
theorem MS.inner (hit : IterOK Try.prog χ W t v0 I) (M : MS W I t v0 cm c cb d cur q Fin F G h sp z sv ev a ksv kbv xk nb xb) {r : Value} (hp : ItPost W I Fin h q' r h') :
    ∃ Fin', MS W I t v0 cm c cb d cur q' Fin' (fun b => F b ∨ Fin' b) G h' sp z sv ev a ksv kbv xk nb xb ∧ (∀ b, Fin' b → Fin b ∨ h.size ≤ b) ∧ KeepP F h h' ∧ Ret W q' Fin' h' r := by
  obtain ⟨Fin', D, hF', KP, KF, hret⟩ := M.ds.inner hit hp
  refine ⟨Fin', M.move (fun b hb => KP.2 b ?_ ?_) KP.1 (fun b hb => .inl hb) (fun b hb hf => ?_) D, hF', KF, hret⟩
  · rcases hb with hb | hb
    · exact (M.g b hb).1
    · exact (own_ne M.ds.ob b hb).2
  · rcases hb with hb | hb
    · exact (M.g b hb).2.2.2.1
    · exact (M.ds.di.b1 b hb).2.2.1
  · rcases hF' b hf with e | e
    · exact (M.g b hb).2.2.2.1 e
    · have := (M.g b hb).1; omega
theorem MS.pspan (M : MS W I t v0 cm c cb d cur q Fin F G h sp z sv ev a ksv kbv xk nb xb) : PSpan F h c 6 cur :=
  ⟨sv, ev, ksv, 0, M.ds.bc.sub 6 4 rfl, M.s1.mono (fun b hb => hb.elim (fun e => (M.g b e).2.2.2.2.2.2) (fun e => M.ds.fo b e.2)), M.s2.mono (fun b hb => hb.elim (fun e => (M.g b e).2.2.2.2.2.2) (fun e => M.ds.fo b e.2)),
    SlR.of_rows2 M.ds.ok rfl M.rw (fun b hb => M.ds.fk b hb) (fun b o c a hc hr => cPKey_r _ _ _ _ _ _ hc (cPKey_st.mono _ _ _ _ _ (fun b hb => (M.g b hb).2.2.2.2.2.2) hr))⟩
/-- A row of bytes as bytes. -/
theorem own_bytes {A : Nat → Prop} {v : Value} {s : ByteArray} (O : Own h 0 u8T 1 v s.data.toList.length (byteCells s.data.toList)) (hA : ∀ b, b ∈ v.ownBlock.toList → A b) : RBytes A h v s := by
  rcases O.form with ⟨rfl, h0, _⟩ | ⟨g, cap, rfl, hb, h0, h1, hc, hm, hcs⟩
  · have := List.eq_nil_of_length_eq_zero h0
    unfold RBytes; rw [this]
    exact SlR.nil _ _ _ _
  · refine ⟨by unfold maxLen at hm; omega, _, cap, rfl, fun i x hi => ⟨g, 0, rfl, ⟨hA g (by simp [Value.ownBlock]), fun a n c e => by cases e; omega⟩, ?_⟩⟩
    have := hcs i _ (bc_at hi)
    rwa [show 0 + i * 1 = 0 + i from by omega]
/-- The bound that is kept in keyBuf is written anew. -/
theorem MS.ext (hit : IterOK Try.prog χ W t v0 I) (M : MS W I t v0 cm c cb d cur q Fin F G h sp z sv ev a ksv kbv xk nb xb) {kb0 : Value} (hk0 : kb0.ownBlock = kbv.ownBlock) {s : ByteArray} (O : Own h1 0 u8T 1 kbv' s.data.toList.length (byteCells s.data.toList)) (K1 : Keep kb0.ownBlock.toList h h1)
    (F1 : kbv'.ownBlock = kb0.ownBlock ∨ kbv'.ownBlock = some h.size) (K2 : Keep [cb] h1 h2) (B2 : Blk h2 cb [a, ksv, kbv'] bufT) (K3 : Keep [c] h2 h3) (sv' ev' : Value) (hsv : (if d then sv' = sv ∧ ev' = kbv' else sv' = kbv' ∧ ev' = ev))
    (B3 : Blk h3 c (dL cb cm eqF (.iface t v0) sp z sv' ev' ksv mthV redF) dfT) :
    MS W I t v0 cm c cb d (if d then ⟨cur.s, s, cur.ks⟩ else ⟨s, cur.e, cur.ks⟩) q Fin (fun b => F b ∨ b ∈ kbv'.ownBlock.toList) G h3 sp z sv' ev' a ksv kbv' xk s.data.toList.length (byteCells s.data.toList) ∧ KeepP F h h3 ∧ ∀ b, b ∈ kbv'.ownBlock.toList → F b ∨ h.size ≤ b := by
  rw [hk0] at K1 F1
  have hcl := M.ds.bc.lt; have hbl := M.ds.bb.lt
  have z1 := K1.1; have z2 := K2.1; have z3 := K3.1
  have hnb : ∀ b, b ∈ kbv'.ownBlock.toList → b ∈ kbv.ownBlock.toList ∨ b = h.size := fun b hb => by
    rcases F1 with e | e
    · rw [e] at hb; exact .inl hb
    · rw [e] at hb; simp at hb; exact .inr hb
  have hcc : c ∉ kbv.ownBlock.toList := fun hm => (M.ds.di.b1 c hm).1 rfl
  have hcbb : cb ∉ kbv.ownBlock.toList := fun hm => (M.ds.di.b1 cb hm).2.1 rfl
  have hne := M.ds.di.ne
  -- what stays, of all that lies apart of c, cb and the row
  have keep : ∀ b, b < h.size → b ≠ c → b ≠ cb → b ∉ kbv.ownBlock.toList → h3[b]? = h[b]? := fun b hb n1 n2 n3 =>
    (K3.2 b (by omega) (by simpa using n1)).trans ((K2.2 b (by omega) (by simpa using n2)).trans (K1.2 b hb n3))
  have hnF : ∀ b, Fin b → b ≠ c ∧ b ≠ cb ∧ b ∉ kbv.ownBlock.toList := fun b hb => ⟨fun e => by subst e; exact M.ds.di.fc hb, fun e => by subst e; exact M.ds.di.fb hb, fun hm => (M.ds.di.b1 b hm).2.2.1 hb⟩
  have sF : Stab Fin h h3 := fun b hb => keep b (M.ds.lo b (M.ds.ff b hb)) (hnF b hb).1 (hnF b hb).2.1 (hnF b hb).2.2
  have sG : Stab G h h3 := fun b hb => by
    obtain ⟨p1, p2, p3, p4, p5, p6, p7⟩ := M.g b hb
    exact keep b p1 p2 p3 p6
  have hak : ∀ x, x ∈ a.ownBlock.toList → x ≠ c ∧ x ≠ cb ∧ x ∉ kbv.ownBlock.toList := fun x hx => ⟨(M.ds.di.a1 x hx).1, (M.ds.di.a1 x hx).2.1, fun hm => (M.ds.di.b1 x hm).2.2.2.1 hx⟩
  have hA : Aren h3 a := by
    rcases M.ds.ar with e | ⟨g, n, c', cs, e, q1, q2, q3, B⟩
    · exact .inl e
    · have hg := hak g (by rw [e]; simp [Value.ownBlock])
      exact .inr ⟨g, n, c', cs, e, q1, q2, q3, (keep g B.lt hg.1 hg.2.1 hg.2.2).trans B⟩
  have hO : Own h3 0 keyT 3 ksv cur.ks.length xk :=
    ((M.ds.ok.keep2 K1 (fun x hx hm => (M.ds.di.b1 x hm).2.2.2.2 hx)).keep2 K2 (fun x hx hm => (M.ds.di.k1 x hx).2.1 (by simpa using hm))).keep2 K3 (fun x hx hm => (M.ds.di.k1 x hx).1 (by simpa using hm))
  have hkn : ∀ x, x ∈ kbv'.ownBlock.toList → x ≠ c ∧ x ≠ cb ∧ ¬ Fin x ∧ x ∉ a.ownBlock.toList ∧ x ∉ ksv.ownBlock.toList := fun x hx => by
    rcases hnb x hx with e | e
    · exact M.ds.di.b1 x e
    · subst e
      exact ⟨by omega, by omega, fun hf => by have := M.ds.lo _ (M.ds.ff _ hf); omega, fun hm => by have := M.ds.ar.low _ hm; omega, fun hm => by have := (own_ne M.ds.ok _ hm).2; omega⟩
  have hO3 : Own h3 0 u8T 1 kbv' s.data.toList.length (byteCells s.data.toList) := (O.keep2 K2 (fun x hx hm => (hkn x hx).2.1 (by simpa using hm))).keep2 K3 (fun x hx hm => (hkn x hx).1 (by simpa using hm))
  have hFn : ∀ b, b ∈ kbv'.ownBlock.toList → F b ∨ h.size ≤ b := fun b hb => by
    rcases hnb b hb with e | e
    · exact .inl (M.ds.fo b e)
    · exact .inr (by omega)
  have D : DSt W I t v0 cm c cb q Fin (fun b => F b ∨ b ∈ kbv'.ownBlock.toList) h3 sp z sv' ev' ksv a ksv kbv' cur.ks.length xk s.data.toList.length (byteCells s.data.toList) :=
    ⟨hit.stab M.ds.it sF (by omega), B3, K3.blk (by simp; exact fun e => hne e.symm) B2, hA, hO, hO3, ⟨hne, M.ds.di.fc, M.ds.di.fb, M.ds.di.a1, M.ds.di.k1, hkn⟩, fun b hb => .inl (M.ds.ff b hb), .inl M.ds.fc, .inl M.ds.fb, fun x hx => .inl (M.ds.fa x hx), fun x hx => .inl (M.ds.fk x hx), fun x hx => .inr hx, fun b hb => by
      rcases hb with hb | hb
      · have := M.ds.lo b hb; omega
      · exact (own_ne hO3 b hb).2⟩
  have hrw : RowsR 3 (cPKey G h3) xk cur.ks := M.rw.mono fun x k hr => cPKey_st.stab _ _ _ _ _ sG hr
  have hg : ∀ b, G b → b < h3.size ∧ b ≠ c ∧ b ≠ cb ∧ ¬ Fin b ∧ b ∉ ksv.ownBlock.toList ∧ b ∉ kbv'.ownBlock.toList ∧ (F b ∨ b ∈ kbv'.ownBlock.toList) := fun b hb => by
    obtain ⟨p1, p2, p3, p4, p5, p6, p7⟩ := M.g b hb
    refine ⟨by omega, p2, p3, p4, p5, fun hm => ?_, .inl p7⟩
    rcases hnb b hm with e | e
    · exact p6 e
    · omega
  refine ⟨?_, ⟨by omega, fun b hb hF => keep b hb (fun e => by subst e; exact hF M.ds.fc) (fun e => by subst e; exact hF M.ds.fb) (fun hm => hF (M.ds.fo b hm))⟩, hFn⟩
  cases d with
  | true =>
    simp only [if_true] at hsv
    obtain ⟨rfl, rfl⟩ := hsv
    refine ⟨D, hrw, ?_, own_bytes hO3 (fun b hb => .inr ⟨rfl, hb⟩), hg⟩
    exact (M.s1.mono (A' := G) (fun b hb => hb.elim id (fun e => by cases e.1))).stab sG |>.mono fun b hb => .inl hb
  | false =>
    simp only [Bool.false_eq_true, if_false] at hsv
    obtain ⟨rfl, rfl⟩ := hsv
    refine ⟨D, hrw, own_bytes hO3 (fun b hb => .inr ⟨rfl, hb⟩), ?_, hg⟩
    exact (M.s2.mono (A' := G) (fun b hb => hb.elim id (fun e => by cases e.1))).stab sG |>.mono fun b hb => .inl hb
/-- After a span has been kept. -/
theorem ms_of_save (hit : IterOK Try.prog χ W t v0 I) {kb2 : Value} (hkb : kb2.ownBlock = kbv.ownBlock) {s : SpanD} {a1 k1 : Value} {xs : List Value} (D : DSt W I t v0 cm c cb q Fin F h sp z sv ev kv a ksv kbv nk xk nb xb)
    (i : SvI c cb a ksv kb2 (dL cb cm eqF (.iface t v0) sp z sv' ev' k1 mthV redF) h s sv' ev' s.ks.length a1 k1 xs G h') (O : Own h' 0 u8T 1 kb2 0 []) (d : Bool) :
    MS W I t v0 cm c cb d s q Fin (fun b => F b ∨ (h.size ≤ b ∧ b < h'.size)) G h' sp z sv' ev' a1 k1 kb2 xs 0 [] ∧ KeepP F h h' ∧ Stab Fin h h' := by
  have hcl := D.bc.lt; have hbl := D.bb.lt
  have hz := i.kp.1
  have hX : ∀ b, Fin b → b ∉ c :: cb :: (a.ownBlock.toList ++ ksv.ownBlock.toList) := fun b hb hm => by
    simp only [List.mem_cons, List.mem_append] at hm
    rcases hm with e | e | e | e
    · subst e; exact D.di.fc hb
    · subst e; exact D.di.fb hb
    · exact (D.di.a1 b e).2.2 hb
    · exact (D.di.k1 b e).2.2.1 hb
  have sF : Stab Fin h h' := i.kp.stab fun b hb => ⟨D.lo b (D.ff b hb), hX b hb⟩
  have hnew : ∀ x, h.size ≤ x → ¬ Fin x := fun x hx hf => by have := D.lo x (D.ff x hf); omega
  have hbkb : ∀ x, x ∈ kb2.ownBlock.toList → x ∈ kbv.ownBlock.toList := fun x hx => by rw [hkb] at hx; exact hx
  have hkbl : ∀ x, x ∈ kb2.ownBlock.toList → x < h.size := fun x hx => (own_ne D.ob x (hbkb x hx)).2
  refine ⟨⟨⟨hit.stab D.it sF hz, i.bc, i.bb, i.ar, i.ow, O, ⟨D.di.ne, D.di.fc, D.di.fb, fun x hx => ?_, fun x hx => ?_, fun x hx => ?_⟩, fun b hb => .inl (D.ff b hb), .inl D.fc, .inl D.fb, fun x hx => ?_, fun x hx => ?_, fun x hx => .inl (D.fo x (hbkb x hx)), fun b hb => ?_⟩,
    by have := i.rw; rw [List.take_length] at this; exact this.mono fun x k hr => hr.pkey, i.b1.bytes.mono fun b hb => .inl hb, i.b2.bytes.mono fun b hb => .inl hb, fun b hb => ?_⟩, i.kp.kp (fun x hx => ?_), sF⟩
  · rcases i.ao x hx with e | e
    · exact D.di.a1 x e
    · exact ⟨by omega, by omega, hnew x e⟩
  · obtain ⟨p1, p2⟩ := i.ko x hx
    rcases p1 with e | e
    · obtain ⟨q1, q2, q3, _⟩ := D.di.k1 x e
      exact ⟨q1, q2, q3, p2⟩
    · exact ⟨by omega, by omega, hnew x e, p2⟩
  · obtain ⟨q1, q2, q3, q4, q5⟩ := D.di.b1 x (hbkb x hx)
    have := hkbl x hx
    refine ⟨q1, q2, q3, fun hm => ?_, fun hm => ?_⟩
    · rcases i.ao x hm with e | e
      · exact q4 e
      · omega
    · rcases (i.ko x hm).1 with e | e
      · exact q5 e
      · omega
  · rcases i.ao x hx with e | e
    · exact .inl (D.fa x e)
    · exact .inr ⟨e, i.ar.low x hx⟩
  · rcases (i.ko x hx).1 with e | e
    · exact .inl (D.fk x e)
    · exact .inr ⟨e, (own_ne i.ow x hx).2⟩
  · rcases hb with hb | hb
    · have := D.lo b hb; omega
    · exact hb.2
  · obtain ⟨p1, p2, p3⟩ := i.g b hb
    rcases p2 with e | e
    · obtain ⟨q1, q2, q3⟩ := D.di.a1 b e
      exact ⟨p1, q1, q2, q3, p3, fun hm => (D.di.b1 b (hbkb b hm)).2.2.2.1 e, .inl (D.fa b e)⟩
    · exact ⟨p1, by omega, by omega, hnew b e, p3, fun hm => by have := hkbl b hm; omega, .inr ⟨e, p1⟩⟩
  · simp only [List.mem_cons, List.mem_append] at hx
    rcases hx with e | e | e | e
    · subst e; exact D.fc
    · subst e; exact D.fb
    · exact D.fa x e
    · exact D.fk x e
end
end Go.Proofs.Ytgebfbnndgjkiaa
namespace Go.Proofs.Ytgebfbnndgjkiaa
open Go.Tess Go.RowKit
set_option maxRecDepth 100000
set_option maxHeartbeats 2000000
theorem v_ine_nil {P : Program} {χ : Chi} {ρ : Operand → Option Value} {h : Heap} {dst : Option Tmp} {ty : TypeId} {pos : String} {after : Array Edge} {guard : Option (Nat × Bool)} {x : Operand} {t t2 : TypeId} (ht : Tess.IsIface P t) (hx : ρ x = some .nilIface) (hy : ρ (.const .nilIface) = some .nilIface) :
    OpV P χ ⟨dst, .binOp .neq t x (.const .nilIface) t2, ty, pos, after, guard⟩ ρ h (.bool false) := by
  intro r d hr
  have e1 := hr x (by simp [Op.operands]) _ hx
  unfold Tess.IsIface at ht
  cases hu : P.underlying t with
  | none => rw [hu] at ht; simp at ht
  | some d' =>
    rw [hu] at ht
    cases d' <;> first | (simp at ht; done) | skip
    have : (Op.equal t .nilIface .nilIface).run P (mkw χ h d) = .ok true (mkw χ h d) := run_equal' (fun d => by simp [Op.equalIn, run_underlying hu])
    have e2 := hr (.const .nilIface) (by simp [Op.operands]) _ hy
    simp [execOp, e1, e2, eqGuard, binOp, this]
theorem ret_pt {W : List SpanD} {i : Nat} {Fin : Nat → Prop} {h : Heap} {r : Value} (hr : Ret W (.pt i) Fin h r) (hi : i < W.length) : ∃ b o, r = .pointer (some ⟨b, o, none⟩) ∧ Fin b ∧ PSpan Fin h b o (nth W i) := by
  unfold Ret at hr
  rw [show cur W (.pt i) = some (nth W i) from nth_some hi] at hr
  exact hr
theorem ret_nxt {W : List SpanD} {b : Nat} {Fin : Nat → Prop} {h : Heap} {qv : Option Addr} (hr : Ret W (nxtP W b) Fin h (.pointer qv)) : (qv = none ∧ ¬ b < W.length) ∨ (b < W.length ∧ ∃ x o, qv = some ⟨x, o, none⟩ ∧ Fin x ∧ PSpan Fin h x o (nth W b)) := by
  unfold nxtP at hr
  by_cases hb : b < W.length
  · rw [if_pos hb] at hr
    obtain ⟨x, o, e, h1, h2⟩ := ret_pt hr hb
    cases e
    exact .inr ⟨hb, x, o, rfl, h1, h2⟩
  · rw [if_neg hb] at hr
    have : Value.pointer qv = .pointer none := hr
    cases this
    exact .inl ⟨rfl, hb⟩
theorem ret_prv {W : List SpanD} {a : Nat} {Fin : Nat → Prop} {h : Heap} {qv : Option Addr} (ha : a ≤ W.length) (hr : Ret W (prvP a) Fin h (.pointer qv)) : (qv = none ∧ a = 0) ∨ (0 < a ∧ ∃ x o, qv = some ⟨x, o, none⟩ ∧ Fin x ∧ PSpan Fin h x o (nth W (a - 1))) := by
  unfold prvP at hr
  by_cases hb : a = 0
  · rw [if_pos hb] at hr
    have : Value.pointer qv = .pointer none := hr
    cases this
    exact .inl ⟨rfl, hb⟩
  · rw [if_neg hb] at hr
    obtain ⟨x, o, e, h1, h2⟩ := ret_pt hr (i := a - 1) (by omega)
    cases e
    exact .inr ⟨by omega, x, o, rfl, h1, h2⟩
/-- What the lists are that may be joined. -/
def GoodD (W : List SpanD) : Prop := ∀ s, s ∈ W → s.ks ≠ [] ∧ SmS s
/-- After joining forward, back. -/
def FwdP (W : List SpanD) (I : ItI) (t : TypeId) (v0 cm : Value) (c cb : Nat) (F : Nat → Prop) (i : Nat) (h : Heap) (r : Value) (h' : Heap) : Prop :=
  ∃ b Fin' F' sp sv ev kv a ksv kbv nk xk nb xb, IsRun W i b ∧ EndB W b ∧ DSt W I t v0 cm c cb (nxtP W b) Fin' F' h' sp 1 sv ev kv a ksv kbv nk xk nb xb ∧ Ret W (nxtP W b) Fin' h' sp ∧ r = .pointer (some ⟨c, 6, none⟩) ∧ PSpan F' h' c 6 (jspan W i b) ∧ KeepP F h h' ∧ ∀ b, F' b → F b ∨ h.size ≤ b
def BwdP (W : List SpanD) (I : ItI) (t : TypeId) (v0 cm : Value) (c cb : Nat) (F : Nat → Prop) (i : Nat) (h : Heap) (r : Value) (h' : Heap) : Prop :=
  ∃ b Fin' F' sp sv ev kv a ksv kbv nk xk nb xb, IsRun W b (i + 1) ∧ BegB W b ∧ DSt W I t v0 cm c cb (prvP b) Fin' F' h' sp (-1) sv ev kv a ksv kbv nk xk nb xb ∧ Ret W (prvP b) Fin' h' sp ∧ r = .pointer (some ⟨c, 6, none⟩) ∧ PSpan F' h' c 6 (jspan W b (i + 1)) ∧ KeepP F h h' ∧ ∀ b, F' b → F b ∨ h.size ≤ b
theorem c_defragmentForward {χ : Chi} {W : List SpanD} {I : ItI} {t : TypeId} {v0 cm : Value} {c cb i : Nat} {Fin F : Nat → Prop} {h : Heap} {sp : Value} {z : Int} {sv ev kv a ksv kbv : Value} {nk : Nat} {xk : List Value} {nb : Nat} {xb : List Value}
    (hit : IterOK Try.prog χ W t v0 I) (hgood : GoodD W) (D : DSt W I t v0 cm c cb (.pt i) Fin F h sp z sv ev kv a ksv kbv nk xk nb xb) (hi : i < W.length) (hsp : Ret W (.pt i) Fin h sp) :
    Cl Try.prog χ 150 #[.pointer (some ⟨c, 0, none⟩)] h (FwdP W I t v0 cm c cb F i h) := by
  obtain ⟨bi, oi, rfl, hbi, hps⟩ := ret_pt hsp hi
  obtain ⟨xa, na, ca, rfl, _, _⟩ := D.ar.form
  obtain ⟨ak, ck, rfl⟩ := Own.form3 D.ok
  obtain ⟨ab, cb2, rfl⟩ := Own.form3 D.ob
  have hps0 := hps
  obtain ⟨ss, se, sk, _, hcs, _, _, hk3⟩ := hps0
  obtain ⟨ka, kc, rfl⟩ := SlR.form2 hk3
  have hg := hgood (nth W i) (nth_mem hi)
  have hne0 : decide (((nth W i).ks.length : Int) = 0) = false := by simp; exact hg.1
  have hcF : ∀ x, x ∈ [c] → F x := fun x hx => by rw [List.mem_singleton] at hx; subst hx; exact D.fc
  have hbF : ∀ x, x ∈ [cb] → F x := fun x hx => by rw [List.mem_singleton] at hx; subst hx; exact D.fb
  have Bc := D.bc
  have Bb := D.bb
  refine cl_intro Try.func150 rfl rfl rfl ?_
  have K : Keep [] h h := Keep.refl _ _
  refine tr_seq ?_
  refine tr_reg ?_
  refine rs_v (v_assign rfl) rfl ?_
  refine rs_nil ?_
  refine q_thn ?_
  refine tr_seq ?_
  refine tr_seq ?_
  refine tr_reg ?_
  refine rs_v (v_move rfl) rfl ?_
  refine rs_v (v_nilCheck_ptr rfl) rfl ?_
  refine rs_v (v_fieldAddr fa_keyspan_DefragmentingIter_4 rfl) rfl ?_
  refine rs_v (v_load one_p_keyspan_Span rfl (by exact Bc.cell _ rfl)) rfl ?_
  refine rs_w (w_call (vs := [_]) ok_keyspan_Span_Empty rfl ⟨rfl, trivial⟩ (c_Empty χ _ bi oi ka _ kc (hcs.at 2 rfl))) rfl ?_
  rintro _ h1 ⟨rfl, hsame⟩; have hsame := hsame.symm; subst hsame
  refine rs_nil ?_
  refine q_thn ?_
  refine tr_if_f (lkb hne0) ?_
  refine tr_skip ?_
  refine q_thn ?_
  refine tr_seq ?_
  refine tr_reg ?_
  refine rs_v (v_move rfl) rfl ?_
  refine rs_w (w_call (vs := [_]) ok_keyspan_DefragmentingIter_saveCurrent rfl ⟨rfl, trivial⟩ (c_saveCurrent χ _ c cb cm eqF (.iface t v0) z sv ev kv mthV redF xa na ca ak nk ck ab nb cb2 xk xb Fin bi oi (nth W i) Bc Bb D.ar D.ok D.ob hps hbi (fun b hb => D.lo b (D.ff b hb)) D.di hg.2)) rfl ?_
  rintro _ h2 ⟨rfl, sv1, ev1, a1, k1, xs1, G, hi1, hO1⟩
  obtain ⟨M, KP, _⟩ := ms_of_save hit own_cut D hi1 hO1 true
  have hFF : ∀ b, (F b ∨ (h.size ≤ b ∧ b < (h2).size)) → F b ∨ h.size ≤ b := fun b hb => hb.imp id (fun e => e.1)
  obtain ⟨as0, cs0, rfl⟩ := SlR.form2 M.s1
  obtain ⟨ae0, ce0, rfl⟩ := SlR.form2 M.s2
  obtain ⟨ak0, ck0, rfl⟩ := Own.form3 M.ds.ok
  have Bc := M.ds.bc
  have Bb := M.ds.bb
  refine rs_nil ?_
  refine q_thn ?_
  refine tr_seq ?_
  refine tr_reg ?_
  refine rs_v (v_move rfl) rfl ?_
  refine rs_v (v_nilCheck_ptr rfl) rfl ?_
  refine rs_v (v_fieldAddr fa_keyspan_DefragmentingIter_5 rfl) rfl ?_
  refine rs_w0 (w_put siz_keyspan_iterPos rfl rfl rfl rfl Bc rfl) ?_
  rintro _ h3 ⟨B3, K3⟩
  have M := M.putC hit (sp' := .pointer (some ⟨bi, oi, none⟩)) (z' := 1) K3 B3
  have KP := KP.trans (K3.kp hcF) (fun _ h => .inl h)
  have Bc := M.ds.bc
  have Bb := M.ds.bb
  refine rs_nil ?_
  refine q_thn ?_
  refine tr_seq ?_
  refine tr_reg ?_
  refine rs_v (v_move rfl) rfl ?_
  refine rs_v (v_move rfl) rfl ?_
  refine rs_v (v_nilCheck_ptr rfl) rfl ?_
  refine rs_v (v_fieldAddr fa_keyspan_DefragmentingIter_3 rfl) rfl ?_
  refine rs_v (v_load one_keyspan_FragmentIterator rfl (by exact Bc.cell _ rfl)) rfl ?_
  refine rs_w (w_mcall (vs := []) (hit.next M.ds.it rfl) rfl trivial) rfl ?_
  rintro r4 h4 hp4
  rw [show pNext W (.pt i) = (nxtP W (i + 1)) from rfl] at hp4
  have MFF := M.ds.ff
  obtain ⟨Fin2, M, hF2, KF2, hret2⟩ := M.inner hit hp4
  obtain ⟨qv2, rfl, _⟩ := hret2.form
  have hKz := KP.1
  have hFF2 : ∀ b, _ → F b ∨ h.size ≤ b := fun b hb => Or.elim hb (hFF b) (fun e => (hF2 b e).elim (fun e9 => hFF b (MFF b e9)) (fun e9 => Or.inr (by omega)))
  have KP := KP.trans KF2 hFF
  have hFF := hFF2
  have hlo2 : ∀ b, Fin2 b → b < (h4).size := fun b hb => M.ds.lo b (M.ds.ff b hb)
  have Bc := M.ds.bc
  have Bb := M.ds.bb
  refine rs_v (v_nilCheck_ptr rfl) rfl ?_
  refine rs_v (v_fieldAddr fa_keyspan_DefragmentingIter_4 rfl) rfl ?_
  refine rs_w0 (w_put siz_p_keyspan_Span rfl rfl rfl rfl Bc rfl) ?_
  rintro _ h5 ⟨B5, K5⟩
  have M := M.putC hit (sp' := .pointer qv2) (z' := 1) K5 B5
  have hret1 := Ret.stab hret2 (K5.stab (A := Fin2) fun b hb => ⟨by have := hlo2 b hb; omega, fun hm => M.ds.di.fc (by rw [List.mem_singleton] at hm; subst hm; exact hb)⟩)
  have KP := KP.trans (K5.kp hcF) (fun _ h => .inl h)
  have Bc := M.ds.bc
  have Bb := M.ds.bb
  refine rs_nil ?_
  refine q_thn ?_
  refine tr_seq ?_
  refine tr_block ?_
  refine tr_loop (fun m E h' => ∃ b Fin1 F1 G1 sv ev a ksv kbv xs nb xb qv, IsRun W i b ∧ m = (W.length - b) ∧ E = [(0, .pointer (some ⟨c, 0, none⟩))] ∧ MS W I t v0 cm c cb true (jspan W i b) (nxtP W b) Fin1 F1 G1 h' (.pointer qv) 1 sv ev a ksv kbv xs nb xb ∧ Ret W (nxtP W b) Fin1 h' (.pointer qv) ∧ KeepP F h h' ∧ (∀ b, F1 b → F b ∨ h.size ≤ b)) (W.length - (i + 1)) [(0, _)] ⟨rfl, trivial⟩ ⟨(i + 1), _, _, _, _, _, _, _, _, _, _, _, _, run_one hi, rfl, rfl, M, hret1, KP, hFF⟩ ?_
  rintro m E hL6 ⟨b, Fin1, F1, G1, sv1, ev1, a1, ksv1, kbv1, xs1, nb1, xb1, qv, hrun, rfl, rfl, M, hret, KP, hFF⟩
  obtain ⟨xa1, na1, ca1, rfl, _, _⟩ := M.ds.ar.form
  obtain ⟨ak1, ck1, rfl⟩ := Own.form3 M.ds.ok
  obtain ⟨ab1, cb1, rfl⟩ := Own.form3 M.ds.ob
  obtain ⟨as1, cs1, rfl⟩ := SlR.form2 M.s1
  obtain ⟨ae1, ce1, rfl⟩ := SlR.form2 M.s2
  have Bc := M.ds.bc
  have Bb := M.ds.bb
  have hrl := hrun.1
  have hrl2 := hrun.2.1
  have hqq := ret_nxt hret
  refine tr_seq ?_
  refine tr_seq ?_
  refine tr_reg ?_
  refine rs_v (v_move rfl) rfl ?_
  refine rs_v (v_nilCheck_ptr rfl) rfl ?_
  refine rs_v (v_fieldAddr fa_keyspan_DefragmentingIter_4 rfl) rfl ?_
  refine rs_v (v_load one_p_keyspan_Span rfl (by exact Bc.cell _ rfl)) rfl ?_
  refine rs_v (v_pne u_p_keyspan_Span rfl rfl) rfl ?_
  refine rs_nil ?_
  refine q_thn ?_
  refine tr_ifn rfl (fun hif => ?_) (fun hif => ?_)
  · -- no
    have hend : EndB W b := by
      rcases hqq with ⟨rfl, hb⟩ | ⟨hb, x2, o2, rfl, _⟩
      · exact .inl (by omega)
      · simp at hif
    refine tr_exit ?_
    refine q_thn_exit ?_
    refine q_lp_exit ?_
    refine q_blk_hit ?_
    refine q_thn ?_
    refine tr_seq ?_
    refine tr_seq ?_
    refine tr_reg ?_
    refine rs_v (v_move rfl) rfl ?_
    refine rs_v (v_nilCheck_ptr rfl) rfl ?_
    refine rs_v (v_fieldAddr fa_keyspan_DefragmentingIter_3 rfl) rfl ?_
    refine rs_v (v_load one_keyspan_FragmentIterator rfl (by exact Bc.cell _ rfl)) rfl ?_
    refine rs_w (w_mcall (vs := []) (hit.err M.ds.it) rfl trivial) rfl ?_
    rintro _ h7 ⟨rfl, hsame⟩; have hsame := hsame.symm; subst hsame
    refine rs_v (v_ine_nil isi_error rfl rfl) rfl ?_
    refine rs_nil ?_
    refine q_thn ?_
    refine tr_if_f rfl ?_
    refine tr_skip ?_
    refine q_thn ?_
    refine tr_seq ?_
    refine tr_reg ?_
    refine rs_v (v_move rfl) rfl ?_
    refine rs_v (v_move rfl) rfl ?_
    refine rs_v (v_nilCheck_ptr rfl) rfl ?_
    refine rs_v (v_fieldAddr fa_keyspan_DefragmentingIter_0 rfl) rfl ?_
    refine rs_v (v_load one_p_keyspan_DefragmentingBuffers rfl (by exact Bc.cell _ rfl)) rfl ?_
    refine rs_v (v_nilCheck_ptr rfl) rfl ?_
    refine rs_v (v_fieldAddr fa_keyspan_DefragmentingBuffers_1 rfl) rfl ?_
    refine rs_v (v_load one_sl_keyspan_Key rfl (by exact Bb.cell _ rfl)) rfl ?_
    refine rs_v (v_nilCheck_ptr rfl) rfl ?_
    refine rs_v (v_fieldAddr fa_keyspan_DefragmentingIter_6 rfl) rfl ?_
    refine rs_v (v_fieldAddr fa_keyspan_Span_2 rfl) rfl ?_
    refine rs_w0 (w_put siz_sl_keyspan_Key rfl rfl rfl rfl Bc rfl) ?_
    rintro _ h8 ⟨B8, K8⟩
    have hret := Ret.stab hret (K8.stab (A := Fin1) fun b hb => ⟨M.ds.lo b (M.ds.ff b hb), fun hm => M.ds.di.fc (by rw [List.mem_singleton] at hm; subst hm; exact hb)⟩)
    have M := M.putC hit (sp' := .pointer qv) (z' := 1) K8 B8
    have KP := KP.trans (K8.kp hcF) (fun _ h => .inl h)
    refine rs_nil ?_
    refine q_thn ?_
    refine tr_seq ?_
    refine tr_reg ?_
    refine rs_v (v_move rfl) rfl ?_
    refine rs_v (v_nilCheck_ptr rfl) rfl ?_
    refine rs_v (v_fieldAddr fa_keyspan_DefragmentingIter_6 rfl) rfl ?_
    refine rs_v (v_assign rfl) rfl ?_
    refine rs_nil ?_
    refine q_thn ?_
    refine tr_ret ?_
    refine q_ret (res_tmp rfl rfl) ?_
    exact ⟨b, Fin1, F1, _, _, _, _, _, _, _, _, _, _, _, hrun, hend, M.ds, hret, rfl, M.pspan, KP, hFF⟩
  -- yes
  rcases hqq with ⟨rfl, _⟩ | ⟨hb, x2, o2, rfl, hFb2, hps2⟩
  · simp at hif
  have hps20 := hps2
  obtain ⟨ss2, se2, sk2, _, hcs2, hr1, hr2, hr3⟩ := hps2
  obtain ⟨yk, ck2, rfl⟩ := SlR.form2 hr3
  obtain ⟨ys, cys, rfl⟩ := SlR.form2 hr1
  obtain ⟨ye, cye, rfl, hsrc⟩ := RBytes.cellsAt hr2
  have hkk0 : (nth W (b - 1)).ks = (jspan W i b).ks := run_ks hrun (b - 1) (by omega) (by omega)
  have hq1 : (nxtP W b) = .pt b := if_pos hb
  have hg2 := hgood (nth W b) (nth_mem (by omega))
  have hcks : (jspan W i b).ks ≠ [] := (hgood (nth W i) (nth_mem (by omega))).1
  refine tr_skip ?_
  refine q_thn ?_
  refine tr_block ?_
  refine tr_seq ?_
  refine tr_seq ?_
  refine tr_quiet (by kernel_rfl) (by kernel_rfl) ?_
  refine rq_v (v_move rfl) ?_
  refine rq_v (v_nilCheck_ptr rfl) ?_
  refine rq_v (v_fieldAddr fa_keyspan_DefragmentingIter_2 rfl) ?_
  refine rq_v (v_load one_base_Equal rfl (by exact Bc.cell _ rfl)) ?_
  refine rq_v (v_move rfl) ?_
  refine rq_v (v_nilCheck_ptr rfl) ?_
  refine rq_v (v_fieldAddr fa_keyspan_DefragmentingIter_6 rfl) ?_
  refine rq_v (v_fieldAddr fa_keyspan_Span_1 rfl) ?_
  refine rq_v (v_load one_sl_uint8 rfl (by exact Bc.cell _ rfl)) ?_
  refine rq_v (v_move rfl) ?_
  refine rq_v (v_nilCheck_ptr rfl) ?_
  refine rq_v (v_fieldAddr fa_keyspan_DefragmentingIter_4 rfl) ?_
  refine rq_v (v_load one_p_keyspan_Span rfl (by exact Bc.cell _ rfl)) ?_
  refine rq_v (v_nilCheck_ptr rfl) ?_
  refine rq_v (v_fieldAddr fa_keyspan_Span_0 rfl) ?_
  refine rq_v (v_load one_sl_uint8 rfl (by exact hcs2.at 0 rfl)) ?_
  refine rq_w (w_callv (first := []) (cap := []) (vs := [_, _]) ok_bytes_Equal rfl ⟨rfl, rfl, trivial⟩ (c_bytesEqual χ _ _ _ (jspan W i b).e _ (RBytes.by M.s2) (RBytes.by hr1))) ?_
  refine rq_v (v_not rfl) ?_
  refine rm_end ?_; simp only [endM, hypF, ofE, argE]
  refine q_thn ?_
  refine tr_if rfl (fun hif => ?_) (fun hif => ?_)
  · -- yes
    have hend : EndB W b := .inr (by
      cases hq : jn (nth W (b - 1)) (nth W b) with
      | false => rfl
      | true =>
        have h9 := (jn_iff.1 hq).1
        have h8 : seq' (jspan W i b).e (nth W b).s = true := seq_iff.2 h9
        rw [h8] at hif; simp at hif)
    refine tr_exit ?_
    refine q_thn_exit ?_
    refine q_blk_miss rfl ?_
    refine q_lp_exit ?_
    refine q_blk_hit ?_
    refine q_thn ?_
    refine tr_seq ?_
    refine tr_seq ?_
    refine tr_reg ?_
    refine rs_v (v_move rfl) rfl ?_
    refine rs_v (v_nilCheck_ptr rfl) rfl ?_
    refine rs_v (v_fieldAddr fa_keyspan_DefragmentingIter_3 rfl) rfl ?_
    refine rs_v (v_load one_keyspan_FragmentIterator rfl (by exact Bc.cell _ rfl)) rfl ?_
    refine rs_w (w_mcall (vs := []) (hit.err M.ds.it) rfl trivial) rfl ?_
    rintro _ h9 ⟨rfl, hsame⟩; have hsame := hsame.symm; subst hsame
    refine rs_v (v_ine_nil isi_error rfl rfl) rfl ?_
    refine rs_nil ?_
    refine q_thn ?_
    refine tr_if_f rfl ?_
    refine tr_skip ?_
    refine q_thn ?_
    refine tr_seq ?_
    refine tr_reg ?_
    refine rs_v (v_move rfl) rfl ?_
    refine rs_v (v_move rfl) rfl ?_
    refine rs_v (v_nilCheck_ptr rfl) rfl ?_
    refine rs_v (v_fieldAddr fa_keyspan_DefragmentingIter_0 rfl) rfl ?_
    refine rs_v (v_load one_p_keyspan_DefragmentingBuffers rfl (by exact Bc.cell _ rfl)) rfl ?_
    refine rs_v (v_nilCheck_ptr rfl) rfl ?_
    refine rs_v (v_fieldAddr fa_keyspan_DefragmentingBuffers_1 rfl) rfl ?_
    refine rs_v (v_load one_sl_keyspan_Key rfl (by exact Bb.cell _ rfl)) rfl ?_
    refine rs_v (v_nilCheck_ptr rfl) rfl ?_
    refine rs_v (v_fieldAddr fa_keyspan_DefragmentingIter_6 rfl) rfl ?_
    refine rs_v (v_fieldAddr fa_keyspan_Span_2 rfl) rfl ?_
    refine rs_w0 (w_put siz_sl_keyspan_Key rfl rfl rfl rfl Bc rfl) ?_
    rintro _ h10 ⟨B10, K10⟩
    have hret := Ret.stab hret (K10.stab (A := Fin1) fun b hb => ⟨M.ds.lo b (M.ds.ff b hb), fun hm => M.ds.di.fc (by rw [List.mem_singleton] at hm; subst hm; exact hb)⟩)
    have M := M.putC hit (sp' := .pointer (some ⟨x2, o2, none⟩)) (z' := 1) K10 B10
    have KP := KP.trans (K10.kp hcF) (fun _ h => .inl h)
    refine rs_nil ?_
    refine q_thn ?_
    refine tr_seq ?_
    refine tr_reg ?_
    refine rs_v (v_move rfl) rfl ?_
    refine rs_v (v_nilCheck_ptr rfl) rfl ?_
    refine rs_v (v_fieldAddr fa_keyspan_DefragmentingIter_6 rfl) rfl ?_
    refine rs_v (v_assign rfl) rfl ?_
    refine rs_nil ?_
    refine q_thn ?_
    refine tr_ret ?_
    refine q_ret (res_tmp rfl rfl) ?_
    exact ⟨b, Fin1, F1, _, _, _, _, _, _, _, _, _, _, _, hrun, hend, M.ds, hret, rfl, M.pspan, KP, hFF⟩
  -- no
  have heq := seq_iff.1 (show seq' (jspan W i b).e (nth W b).s = true from by simpa using hif)
  refine tr_skip ?_
  refine q_thn ?_
  refine tr_seq ?_
  refine tr_seq ?_
  refine tr_quiet (by kernel_rfl) (by kernel_rfl) ?_
  refine rq_v (v_move rfl) ?_
  refine rq_v (v_move rfl) ?_
  refine rq_v (v_nilCheck_ptr rfl) ?_
  refine rq_v (v_fieldAddr fa_keyspan_DefragmentingIter_4 rfl) ?_
  refine rq_v (v_load one_p_keyspan_Span rfl (by exact Bc.cell _ rfl)) ?_
  refine rq_v (v_move rfl) ?_
  refine rq_v (v_nilCheck_ptr rfl) ?_
  refine rq_v (v_fieldAddr fa_keyspan_DefragmentingIter_6 rfl) ?_
  refine rq_w (w_call (vs := [_, _, _]) ok_keyspan_DefragmentingIter_checkEqual rfl ⟨rfl, rfl, rfl, trivial⟩ (c_checkEqual χ _ Fin1 F1 c x2 o2 (nth W b) (jspan W i b) _ _ _ _ _ _ _ _ _ Bc hps20 M.pspan hg2.2.2.2.1 hg2.1 hcks)) ?_
  refine rq_v (v_not rfl) ?_
  refine rm_end ?_; simp only [endM, hypF, ofE, argE]
  refine q_thn ?_
  refine tr_if rfl (fun hif => ?_) (fun hif => ?_)
  · -- yes
    have hend : EndB W b := .inr (by
      cases hq : jn (nth W (b - 1)) (nth W b) with
      | false => rfl
      | true =>
        have h9 := (jn_iff.1 hq).2
        have h8 : keysEq (nth W b).ks (jspan W i b).ks = true := keysEq_iff.2 (h9.symm.trans hkk0)
        rw [h8] at hif; simp at hif)
    refine tr_exit ?_
    refine q_thn_exit ?_
    refine q_blk_miss rfl ?_
    refine q_lp_exit ?_
    refine q_blk_hit ?_
    refine q_thn ?_
    refine tr_seq ?_
    refine tr_seq ?_
    refine tr_reg ?_
    refine rs_v (v_move rfl) rfl ?_
    refine rs_v (v_nilCheck_ptr rfl) rfl ?_
    refine rs_v (v_fieldAddr fa_keyspan_DefragmentingIter_3 rfl) rfl ?_
    refine rs_v (v_load one_keyspan_FragmentIterator rfl (by exact Bc.cell _ rfl)) rfl ?_
    refine rs_w (w_mcall (vs := []) (hit.err M.ds.it) rfl trivial) rfl ?_
    rintro _ h11 ⟨rfl, hsame⟩; have hsame := hsame.symm; subst hsame
    refine rs_v (v_ine_nil isi_error rfl rfl) rfl ?_
    refine rs_nil ?_
    refine q_thn ?_
    refine tr_if_f rfl ?_
    refine tr_skip ?_
    refine q_thn ?_
    refine tr_seq ?_
    refine tr_reg ?_
    refine rs_v (v_move rfl) rfl ?_
    refine rs_v (v_move rfl) rfl ?_
    refine rs_v (v_nilCheck_ptr rfl) rfl ?_
    refine rs_v (v_fieldAddr fa_keyspan_DefragmentingIter_0 rfl) rfl ?_
    refine rs_v (v_load one_p_keyspan_DefragmentingBuffers rfl (by exact Bc.cell _ rfl)) rfl ?_
    refine rs_v (v_nilCheck_ptr rfl) rfl ?_
    refine rs_v (v_fieldAddr fa_keyspan_DefragmentingBuffers_1 rfl) rfl ?_
    refine rs_v (v_load one_sl_keyspan_Key rfl (by exact Bb.cell _ rfl)) rfl ?_
    refine rs_v (v_nilCheck_ptr rfl) rfl ?_
    refine rs_v (v_fieldAddr fa_keyspan_DefragmentingIter_6 rfl) rfl ?_
    refine rs_v (v_fieldAddr fa_keyspan_Span_2 rfl) rfl ?_
    refine rs_w0 (w_put siz_sl_keyspan_Key rfl rfl rfl rfl Bc rfl) ?_
    rintro _ h12 ⟨B12, K12⟩
    have hret := Ret.stab hret (K12.stab (A := Fin1) fun b hb => ⟨M.ds.lo b (M.ds.ff b hb), fun hm => M.ds.di.fc (by rw [List.mem_singleton] at hm; subst hm; exact hb)⟩)
    have M := M.putC hit (sp' := .pointer (some ⟨x2, o2, none⟩)) (z' := 1) K12 B12
    have KP := KP.trans (K12.kp hcF) (fun _ h => .inl h)
    refine rs_nil ?_
    refine q_thn ?_
    refine tr_seq ?_
    refine tr_reg ?_
    refine rs_v (v_move rfl) rfl ?_
    refine rs_v (v_nilCheck_ptr rfl) rfl ?_
    refine rs_v (v_fieldAddr fa_keyspan_DefragmentingIter_6 rfl) rfl ?_
    refine rs_v (v_assign rfl) rfl ?_
    refine rs_nil ?_
    refine q_thn ?_
    refine tr_ret ?_
    refine q_ret (res_tmp rfl rfl) ?_
    exact ⟨b, Fin1, F1, _, _, _, _, _, _, _, _, _, _, _, hrun, hend, M.ds, hret, rfl, M.pspan, KP, hFF⟩
  -- no
  have hke := keysEq_iff.1 (show keysEq (nth W b).ks (jspan W i b).ks = true from by simpa using hif)
  have hjn : jn (nth W (b - 1)) (nth W b) = true := jn_iff.2 ⟨heq, hkk0.trans hke.symm⟩
  
  refine tr_skip ?_
  refine q_thn ?_
  refine tr_seq ?_
  have hsm2 := (hgood (nth W b) (nth_mem (by omega))).2
  have hsz2 : ((nth W b).e).data.toList.length ≤ 2147483647 := by rw [ba_size]; exact hsm2.2.1
  have hsrc1 : byteCells ((nth W b).e).data.toList = [] ∨ ∃ g9 o9, ye = some ⟨g9, o9, none⟩ ∧ CellsAt hL6 g9 o9 (byteCells ((nth W b).e).data.toList) := by
    rcases hsrc with e | ⟨g9, o9, e, _, hc⟩
    · exact .inl (by rw [e]; rfl)
    · exact .inr ⟨g9, o9, e, hc⟩
  have hnk : ∀ b, Fin1 b → b ∉ (Value.slice ab1 0 cb1).ownBlock.toList := fun b hb hm => (M.ds.di.b1 b (mem_cut hm)).2.2.1 hb
  refine tr_draw [(true, 20), (false, 3)] _ (by kernel_rfl) (by kernel_rfl) (by kernel_rfl) ?_
  refine rx_big Same (Keep (Value.slice ab1 0 cb1).ownBlock.toList) same_pre (keep_pre _) (fun a b e => by cases e; exact Keep.refl _ _) ?_
  refine rb_v same_pre (fun h' hk => v_move rfl) ?_
  refine rb_v same_pre (fun h' hk => v_nilCheck_ptr rfl) ?_
  refine rb_v same_pre (fun h' hk => v_fieldAddr fa_keyspan_DefragmentingIter_0 rfl) ?_
  refine rb_v same_pre (fun h' hk => v_load one_p_keyspan_DefragmentingBuffers rfl ((hk.blk (fun hm => (M.ds.di.b1 c (mem_cut hm)).1 rfl) Bc).cell _ rfl)) ?_
  refine rb_v same_pre (fun h' hk => v_move rfl) ?_
  refine rb_v same_pre (fun h' hk => v_nilCheck_ptr rfl) ?_
  refine rb_v same_pre (fun h' hk => v_fieldAddr fa_keyspan_DefragmentingIter_0 rfl) ?_
  refine rb_v same_pre (fun h' hk => v_load one_p_keyspan_DefragmentingBuffers rfl ((hk.blk (fun hm => (M.ds.di.b1 c (mem_cut hm)).1 rfl) Bc).cell _ rfl)) ?_
  refine rb_v same_pre (fun h' hk => v_nilCheck_ptr rfl) ?_
  refine rb_v same_pre (fun h' hk => v_fieldAddr fa_keyspan_DefragmentingBuffers_2 rfl) ?_
  refine rb_v same_pre (fun h' hk => v_load one_sl_uint8 rfl ((hk.blk (fun hm => (M.ds.di.b1 cb (mem_cut hm)).2.1 rfl) Bb).cell _ rfl)) ?_
  refine rb_v same_pre (fun h' hk => v_slice_h (i := 0) u_sl_uint8 siz_uint8 rfl rfl rfl (Nat.zero_le _)) ?_
  refine rb_v same_pre (fun h' hk => v_move rfl) ?_
  refine rb_v same_pre (fun h' hk => v_nilCheck_ptr rfl) ?_
  refine rb_v same_pre (fun h' hk => v_fieldAddr fa_keyspan_DefragmentingIter_4 rfl) ?_
  refine rb_v same_pre (fun h' hk => v_load one_p_keyspan_Span rfl ((hk.blk (fun hm => (M.ds.di.b1 c (mem_cut hm)).1 rfl) Bc).cell _ rfl)) ?_
  refine rb_v same_pre (fun h' hk => v_nilCheck_ptr rfl) ?_
  refine rb_v same_pre (fun h' hk => v_fieldAddr fa_keyspan_Span_1 rfl) ?_
  refine rb_v same_pre (fun h' hk => v_load one_sl_uint8 rfl ((hk.cells (hnk _ hFb2) hcs2).at 1 rfl)) ?_
  refine rb_big (fun v h' => Own h' 0 u8T 1 v ((nth W b).e).data.toList.length (byteCells ((nth W b).e).data.toList) ∧ Keep (Value.slice ab1 0 cb1).ownBlock.toList hL6 h' ∧ (v.ownBlock = (Value.slice ab1 0 cb1).ownBlock ∨ v.ownBlock = some (hL6).size))
    (fun v h1 h2 _ e hr => by cases e; exact hr)
    (fun h' hk => by
      have hk : h' = hL6 := hk
      subst hk
      exact OpW.mono (w_appS (news := byteCells ((nth W b).e).data.toList) u_sl_uint8 info_uint8 rfl rfl rfl (Own.cut0 M.ds.ob) rfl (by rw [bc_len, Nat.mul_one]) hsrc1 bc_one (by omega) (by omega) (Nat.zero_le _)) (fun v h'' hv => by
        obtain ⟨O', K', F'⟩ := hv
        exact ⟨K', by simpa using O', K', F'⟩)) ?_
  refine rb_end ?_; intro ha9 Ka9; simp only [endM, hypF, ofE, argE, List.nil_append]
  intro v19 hv19
  obtain ⟨O10, K10, F10⟩ := hv19
  obtain ⟨ax, cax, rfl⟩ := Own.form3 O10
  have Bb9 := Ka9.blk (fun hm => (M.ds.di.b1 cb (mem_cut hm)).2.1 rfl) Bb
  have Bc9 := Ka9.blk (fun hm => (M.ds.di.b1 c (mem_cut hm)).1 rfl) Bc
  refine rx_seq ?_
  refine rs_v (v_nilCheck_ptr rfl) rfl ?_
  refine rs_v (v_fieldAddr fa_keyspan_DefragmentingBuffers_2 rfl) rfl ?_
  refine rs_w0 (w_put siz_sl_uint8 rfl rfl rfl rfl Bb9 rfl) ?_
  rintro _ h13 ⟨Bb, K10b⟩
  have Bc := K10b.blk (by simp; exact M.ds.di.ne) Bc9
  have B10b : Blk h13 cb [Value.slice xa1 na1 ca1, Value.slice ak1 (jspan W i b).ks.length ck1, Value.slice ax ((nth W b).e).data.toList.length cax] bufT := Bb
  refine rs_nil ?_
  refine q_con ?_
  refine rx_nil ?_
  refine q_thn ?_
  refine tr_seq ?_
  refine tr_reg ?_
  refine rs_v (v_move rfl) rfl ?_
  refine rs_v (v_move rfl) rfl ?_
  refine rs_v (v_nilCheck_ptr rfl) rfl ?_
  refine rs_v (v_fieldAddr fa_keyspan_DefragmentingIter_0 rfl) rfl ?_
  refine rs_v (v_load one_p_keyspan_DefragmentingBuffers rfl (by exact Bc.cell _ rfl)) rfl ?_
  refine rs_v (v_nilCheck_ptr rfl) rfl ?_
  refine rs_v (v_fieldAddr fa_keyspan_DefragmentingBuffers_2 rfl) rfl ?_
  refine rs_v (v_load one_sl_uint8 rfl (by exact Bb.cell _ rfl)) rfl ?_
  refine rs_v (v_nilCheck_ptr rfl) rfl ?_
  refine rs_v (v_fieldAddr fa_keyspan_DefragmentingIter_6 rfl) rfl ?_
  refine rs_v (v_fieldAddr fa_keyspan_Span_1 rfl) rfl ?_
  refine rs_w0 (w_put siz_sl_uint8 rfl rfl rfl rfl Bc rfl) ?_
  rintro _ h14 ⟨B14, K14⟩
  have M0 := M
  obtain ⟨M2, KE, hFE⟩ := M0.ext hit (kb0 := (Value.slice ab1 0 cb1)) own_cut O10 K10 F10 K10b B10b K14 (.slice as1 _ cs1) (.slice ax _ cax) (by simp) B14
  have hcur2 : (if true then (⟨(jspan W i b).s, (nth W b).e, (jspan W i b).ks⟩ : SpanD) else ⟨(nth W b).e, (jspan W i b).e, (jspan W i b).ks⟩) = (jspan W i (b + 1)) := rfl
  have M := M2
  rw [hcur2] at M
  have hcs3 := (show Stab Fin1 _ h14 from fun b hb => by
    rw [show (h14)[b]? = _ from K14.2 b (by have := M0.ds.lo b (M0.ds.ff b hb); have := K10.1; have := K10b.1; omega) (fun hm => M0.ds.di.fc (by rw [List.mem_singleton] at hm; subst hm; exact hb)), K10b.2 b (by have := M0.ds.lo b (M0.ds.ff b hb); have := K10.1; omega) (fun hm => M0.ds.di.fb (by rw [List.mem_singleton] at hm; subst hm; exact hb))]
    exact K10.2 b (M0.ds.lo b (M0.ds.ff b hb)) (hnk b hb)).cells hFb2 hcs2
  have hKz2 := KP.1
  have hFF2 : ∀ y, (F1 y ∨ y ∈ (Value.slice ax ((nth W b).e).data.toList.length cax).ownBlock.toList) → F y ∨ h.size ≤ y := fun y hy => hy.elim (hFF y) (fun e => (hFE y e).elim (hFF y) (fun e9 => Or.inr (by omega)))
  have KP := KP.trans KE hFF
  have hFF := hFF2
  have Bc := M.ds.bc
  have Bb := M.ds.bb
  refine rs_nil ?_
  refine q_thn ?_
  refine tr_seq ?_
  refine tr_draw [(true, 23), (false, 3)] _ (by kernel_rfl) (by kernel_rfl) (by kernel_rfl) ?_
  refine rx_any Same same_pre ?_
  refine rq_v (v_move rfl) ?_
  refine rq_v (v_nilCheck_ptr rfl) ?_
  refine rq_v (v_fieldAddr fa_keyspan_DefragmentingIter_0 rfl) ?_
  refine rq_v (v_load one_p_keyspan_DefragmentingBuffers rfl (by exact Bc.cell _ rfl)) ?_
  refine rq_v (v_move rfl) ?_
  refine rq_v (v_nilCheck_ptr rfl) ?_
  refine rq_v (v_fieldAddr fa_keyspan_DefragmentingIter_8 rfl) ?_
  refine rq_v (v_load one_keyspan_DefragmentReducer rfl (by exact Bc.cell _ rfl)) ?_
  refine rq_v (v_move rfl) ?_
  refine rq_v (v_nilCheck_ptr rfl) ?_
  refine rq_v (v_fieldAddr fa_keyspan_DefragmentingIter_0 rfl) ?_
  refine rq_v (v_load one_p_keyspan_DefragmentingBuffers rfl (by exact Bc.cell _ rfl)) ?_
  refine rq_v (v_nilCheck_ptr rfl) ?_
  refine rq_v (v_fieldAddr fa_keyspan_DefragmentingBuffers_1 rfl) ?_
  refine rq_v (v_load one_sl_keyspan_Key rfl (by exact Bb.cell _ rfl)) ?_
  refine rq_v (v_move rfl) ?_
  refine rq_v (v_nilCheck_ptr rfl) ?_
  refine rq_v (v_fieldAddr fa_keyspan_DefragmentingIter_4 rfl) ?_
  refine rq_v (v_load one_p_keyspan_Span rfl (by exact Bc.cell _ rfl)) ?_
  refine rq_v (v_nilCheck_ptr rfl) ?_
  refine rq_v (v_fieldAddr fa_keyspan_Span_2 rfl) ?_
  refine rq_v (v_load one_sl_keyspan_Key rfl (by exact hcs3.at 2 rfl)) ?_
  refine rq_w (w_callv (first := []) (cap := []) (vs := [_, _]) ok_keyspan_StaticDefragmentReducer rfl ⟨rfl, rfl, trivial⟩ (c_Reduce χ _ _ _)) ?_
  refine rm_end ?_; intro ha15 Ka15; simp only [endM, hypF, ofE, argE, List.nil_append]
  have Ka15 : h14 = ha15 := Eq.symm Ka15
  subst Ka15
  refine rx_seq ?_
  refine rs_v (v_nilCheck_ptr rfl) rfl ?_
  refine rs_v (v_fieldAddr fa_keyspan_DefragmentingBuffers_1 rfl) rfl ?_
  refine rs_w0 (w_put siz_sl_keyspan_Key rfl rfl rfl rfl Bb rfl) ?_
  rintro _ h16 ⟨B16, K16⟩
  have M := M.putB hit K16 B16
  have KP := KP.trans (K16.kp hbF) (fun _ h => .inl h)
  have Bc := M.ds.bc
  have Bb := M.ds.bb
  refine rs_nil ?_
  refine q_con ?_
  refine rx_nil ?_
  refine q_thn ?_
  refine tr_reg ?_
  refine rs_v (v_move rfl) rfl ?_
  refine rs_v (v_move rfl) rfl ?_
  refine rs_v (v_nilCheck_ptr rfl) rfl ?_
  refine rs_v (v_fieldAddr fa_keyspan_DefragmentingIter_3 rfl) rfl ?_
  refine rs_v (v_load one_keyspan_FragmentIterator rfl (by exact Bc.cell _ rfl)) rfl ?_
  refine rs_w (w_mcall (vs := []) (hit.next M.ds.it (by rw [hq1]; rfl)) rfl trivial) rfl ?_
  rintro r17 h17 hp17
  rw [show pNext W (nxtP W b) = (nxtP W (b + 1)) from by rw [hq1]; rfl] at hp17
  have MFF := M.ds.ff
  obtain ⟨Fin2, M, hF2, KF2, hret2⟩ := M.inner hit hp17
  obtain ⟨qv2, rfl, _⟩ := hret2.form
  have hKz := KP.1
  have hFF2 : ∀ b, _ → F b ∨ h.size ≤ b := fun b hb => Or.elim hb (hFF b) (fun e => (hF2 b e).elim (fun e9 => hFF b (MFF b e9)) (fun e9 => Or.inr (by omega)))
  have KP := KP.trans KF2 hFF
  have hFF := hFF2
  have hlo2 : ∀ b, Fin2 b → b < (h17).size := fun b hb => M.ds.lo b (M.ds.ff b hb)
  have Bc := M.ds.bc
  have Bb := M.ds.bb
  refine rs_v (v_nilCheck_ptr rfl) rfl ?_
  refine rs_v (v_fieldAddr fa_keyspan_DefragmentingIter_4 rfl) rfl ?_
  refine rs_w0 (w_put siz_p_keyspan_Span rfl rfl rfl rfl Bc rfl) ?_
  rintro _ h18 ⟨B18, K18⟩
  have M := M.putC hit (sp' := .pointer qv2) (z' := 1) K18 B18
  have hret1 := Ret.stab hret2 (K18.stab (A := Fin2) fun b hb => ⟨by have := hlo2 b hb; omega, fun hm => M.ds.di.fc (by rw [List.mem_singleton] at hm; subst hm; exact hb)⟩)
  have KP := KP.trans (K18.kp hcF) (fun _ h => .inl h)
  have Bc := M.ds.bc
  have Bb := M.ds.bb
  refine rs_nil ?_
  refine q_blk_n ?_
  refine q_lp ((W.length - (b + 1))) [(0, _)] (by omega) ⟨rfl, trivial⟩ ⟨b + 1, _, _, _, _, _, _, _, _, _, _, _, _, run_next hrun hb hjn, rfl, rfl, M, hret1, KP, hFF⟩
theorem c_defragmentBackward {χ : Chi} {W : List SpanD} {I : ItI} {t : TypeId} {v0 cm : Value} {c cb i : Nat} {Fin F : Nat → Prop} {h : Heap} {sp : Value} {z : Int} {sv ev kv a ksv kbv : Value} {nk : Nat} {xk : List Value} {nb : Nat} {xb : List Value}
    (hit : IterOK Try.prog χ W t v0 I) (hgood : GoodD W) (D : DSt W I t v0 cm c cb (.pt i) Fin F h sp z sv ev kv a ksv kbv nk xk nb xb) (hi : i < W.length) (hsp : Ret W (.pt i) Fin h sp) :
    Cl Try.prog χ 151 #[.pointer (some ⟨c, 0, none⟩)] h (BwdP W I t v0 cm c cb F i h) := by
  obtain ⟨bi, oi, rfl, hbi, hps⟩ := ret_pt hsp hi
  obtain ⟨xa, na, ca, rfl, _, _⟩ := D.ar.form
  obtain ⟨ak, ck, rfl⟩ := Own.form3 D.ok
  obtain ⟨ab, cb2, rfl⟩ := Own.form3 D.ob
  have hps0 := hps
  obtain ⟨ss, se, sk, _, hcs, _, _, hk3⟩ := hps0
  obtain ⟨ka, kc, rfl⟩ := SlR.form2 hk3
  have hg := hgood (nth W i) (nth_mem hi)
  have hne0 : decide (((nth W i).ks.length : Int) = 0) = false := by simp; exact hg.1
  have hcF : ∀ x, x ∈ [c] → F x := fun x hx => by rw [List.mem_singleton] at hx; subst hx; exact D.fc
  have hbF : ∀ x, x ∈ [cb] → F x := fun x hx => by rw [List.mem_singleton] at hx; subst hx; exact D.fb
  have Bc := D.bc
  have Bb := D.bb
  refine cl_intro Try.func151 rfl rfl rfl ?_
  have K : Keep [] h h := Keep.refl _ _
  refine tr_seq ?_
  refine tr_reg ?_
  refine rs_v (v_assign rfl) rfl ?_
  refine rs_nil ?_
  refine q_thn ?_
  refine tr_seq ?_
  refine tr_seq ?_
  refine tr_reg ?_
  refine rs_v (v_move rfl) rfl ?_
  refine rs_v (v_nilCheck_ptr rfl) rfl ?_
  refine rs_v (v_fieldAddr fa_keyspan_DefragmentingIter_4 rfl) rfl ?_
  refine rs_v (v_load one_p_keyspan_Span rfl (by exact Bc.cell _ rfl)) rfl ?_
  refine rs_w (w_call (vs := [_]) ok_keyspan_Span_Empty rfl ⟨rfl, trivial⟩ (c_Empty χ _ bi oi ka _ kc (hcs.at 2 rfl))) rfl ?_
  rintro _ h1 ⟨rfl, hsame⟩; have hsame := hsame.symm; subst hsame
  refine rs_nil ?_
  refine q_thn ?_
  refine tr_if_f (lkb hne0) ?_
  refine tr_skip ?_
  refine q_thn ?_
  refine tr_seq ?_
  refine tr_reg ?_
  refine rs_v (v_move rfl) rfl ?_
  refine rs_w (w_call (vs := [_]) ok_keyspan_DefragmentingIter_saveCurrent rfl ⟨rfl, trivial⟩ (c_saveCurrent χ _ c cb cm eqF (.iface t v0) z sv ev kv mthV redF xa na ca ak nk ck ab nb cb2 xk xb Fin bi oi (nth W i) Bc Bb D.ar D.ok D.ob hps hbi (fun b hb => D.lo b (D.ff b hb)) D.di hg.2)) rfl ?_
  rintro _ h2 ⟨rfl, sv1, ev1, a1, k1, xs1, G, hi1, hO1⟩
  obtain ⟨M, KP, _⟩ := ms_of_save hit own_cut D hi1 hO1 false
  have hFF : ∀ b, (F b ∨ (h.size ≤ b ∧ b < (h2).size)) → F b ∨ h.size ≤ b := fun b hb => hb.imp id (fun e => e.1)
  obtain ⟨as0, cs0, rfl⟩ := SlR.form2 M.s1
  obtain ⟨ae0, ce0, rfl⟩ := SlR.form2 M.s2
  obtain ⟨ak0, ck0, rfl⟩ := Own.form3 M.ds.ok
  have Bc := M.ds.bc
  have Bb := M.ds.bb
  refine rs_nil ?_
  refine q_thn ?_
  refine tr_seq ?_
  refine tr_reg ?_
  refine rs_v (v_move rfl) rfl ?_
  refine rs_v (v_nilCheck_ptr rfl) rfl ?_
  refine rs_v (v_fieldAddr fa_keyspan_DefragmentingIter_5 rfl) rfl ?_
  refine rs_w0 (w_put siz_keyspan_iterPos rfl rfl rfl rfl Bc rfl) ?_
  rintro _ h3 ⟨B3, K3⟩
  have M := M.putC hit (sp' := .pointer (some ⟨bi, oi, none⟩)) (z' := (-1)) K3 B3
  have KP := KP.trans (K3.kp hcF) (fun _ h => .inl h)
  have Bc := M.ds.bc
  have Bb := M.ds.bb
  refine rs_nil ?_
  refine q_thn ?_
  refine tr_seq ?_
  refine tr_reg ?_
  refine rs_v (v_move rfl) rfl ?_
  refine rs_v (v_move rfl) rfl ?_
  refine rs_v (v_nilCheck_ptr rfl) rfl ?_
  refine rs_v (v_fieldAddr fa_keyspan_DefragmentingIter_3 rfl) rfl ?_
  refine rs_v (v_load one_keyspan_FragmentIterator rfl (by exact Bc.cell _ rfl)) rfl ?_
  refine rs_w (w_mcall (vs := []) (hit.prev M.ds.it rfl) rfl trivial) rfl ?_
  rintro r4 h4 hp4
  rw [show pPrev W (.pt i) = (prvP i) from rfl] at hp4
  have MFF := M.ds.ff
  obtain ⟨Fin2, M, hF2, KF2, hret2⟩ := M.inner hit hp4
  obtain ⟨qv2, rfl, _⟩ := hret2.form
  have hKz := KP.1
  have hFF2 : ∀ b, _ → F b ∨ h.size ≤ b := fun b hb => Or.elim hb (hFF b) (fun e => (hF2 b e).elim (fun e9 => hFF b (MFF b e9)) (fun e9 => Or.inr (by omega)))
  have KP := KP.trans KF2 hFF
  have hFF := hFF2
  have hlo2 : ∀ b, Fin2 b → b < (h4).size := fun b hb => M.ds.lo b (M.ds.ff b hb)
  have Bc := M.ds.bc
  have Bb := M.ds.bb
  refine rs_v (v_nilCheck_ptr rfl) rfl ?_
  refine rs_v (v_fieldAddr fa_keyspan_DefragmentingIter_4 rfl) rfl ?_
  refine rs_w0 (w_put siz_p_keyspan_Span rfl rfl rfl rfl Bc rfl) ?_
  rintro _ h5 ⟨B5, K5⟩
  have M := M.putC hit (sp' := .pointer qv2) (z' := (-1)) K5 B5
  have hret1 := Ret.stab hret2 (K5.stab (A := Fin2) fun b hb => ⟨by have := hlo2 b hb; omega, fun hm => M.ds.di.fc (by rw [List.mem_singleton] at hm; subst hm; exact hb)⟩)
  have KP := KP.trans (K5.kp hcF) (fun _ h => .inl h)
  have Bc := M.ds.bc
  have Bb := M.ds.bb
  refine rs_nil ?_
  refine q_thn ?_
  refine tr_seq ?_
  refine tr_block ?_
  refine tr_loop (fun m E h' => ∃ b Fin1 F1 G1 sv ev a ksv kbv xs nb xb qv, IsRun W b (i + 1) ∧ m = (b + 1) ∧ E = [(0, .pointer (some ⟨c, 0, none⟩))] ∧ MS W I t v0 cm c cb false (jspan W b (i + 1)) (prvP b) Fin1 F1 G1 h' (.pointer qv) (-1) sv ev a ksv kbv xs nb xb ∧ Ret W (prvP b) Fin1 h' (.pointer qv) ∧ KeepP F h h' ∧ (∀ b, F1 b → F b ∨ h.size ≤ b)) (i + 1) [(0, _)] ⟨rfl, trivial⟩ ⟨i, _, _, _, _, _, _, _, _, _, _, _, _, run_one hi, rfl, rfl, M, hret1, KP, hFF⟩ ?_
  rintro m E hL6 ⟨b, Fin1, F1, G1, sv1, ev1, a1, ksv1, kbv1, xs1, nb1, xb1, qv, hrun, rfl, rfl, M, hret, KP, hFF⟩
  obtain ⟨xa1, na1, ca1, rfl, _, _⟩ := M.ds.ar.form
  obtain ⟨ak1, ck1, rfl⟩ := Own.form3 M.ds.ok
  obtain ⟨ab1, cb1, rfl⟩ := Own.form3 M.ds.ob
  obtain ⟨as1, cs1, rfl⟩ := SlR.form2 M.s1
  obtain ⟨ae1, ce1, rfl⟩ := SlR.form2 M.s2
  have Bc := M.ds.bc
  have Bb := M.ds.bb
  have hrl := hrun.1
  have hrl2 := hrun.2.1
  have hqq := ret_prv (by omega) hret
  refine tr_seq ?_
  refine tr_seq ?_
  refine tr_reg ?_
  refine rs_v (v_move rfl) rfl ?_
  refine rs_v (v_nilCheck_ptr rfl) rfl ?_
  refine rs_v (v_fieldAddr fa_keyspan_DefragmentingIter_4 rfl) rfl ?_
  refine rs_v (v_load one_p_keyspan_Span rfl (by exact Bc.cell _ rfl)) rfl ?_
  refine rs_v (v_pne u_p_keyspan_Span rfl rfl) rfl ?_
  refine rs_nil ?_
  refine q_thn ?_
  refine tr_ifn rfl (fun hif => ?_) (fun hif => ?_)
  · -- no
    have hend : BegB W b := by
      rcases hqq with ⟨rfl, hb⟩ | ⟨hb, x2, o2, rfl, _⟩
      · exact .inl (by omega)
      · simp at hif
    refine tr_exit ?_
    refine q_thn_exit ?_
    refine q_lp_exit ?_
    refine q_blk_hit ?_
    refine q_thn ?_
    refine tr_seq ?_
    refine tr_seq ?_
    refine tr_reg ?_
    refine rs_v (v_move rfl) rfl ?_
    refine rs_v (v_nilCheck_ptr rfl) rfl ?_
    refine rs_v (v_fieldAddr fa_keyspan_DefragmentingIter_3 rfl) rfl ?_
    refine rs_v (v_load one_keyspan_FragmentIterator rfl (by exact Bc.cell _ rfl)) rfl ?_
    refine rs_w (w_mcall (vs := []) (hit.err M.ds.it) rfl trivial) rfl ?_
    rintro _ h7 ⟨rfl, hsame⟩; have hsame := hsame.symm; subst hsame
    refine rs_v (v_ine_nil isi_error rfl rfl) rfl ?_
    refine rs_nil ?_
    refine q_thn ?_
    refine tr_if_f rfl ?_
    refine tr_skip ?_
    refine q_thn ?_
    refine tr_seq ?_
    refine tr_reg ?_
    refine rs_v (v_move rfl) rfl ?_
    refine rs_v (v_move rfl) rfl ?_
    refine rs_v (v_nilCheck_ptr rfl) rfl ?_
    refine rs_v (v_fieldAddr fa_keyspan_DefragmentingIter_0 rfl) rfl ?_
    refine rs_v (v_load one_p_keyspan_DefragmentingBuffers rfl (by exact Bc.cell _ rfl)) rfl ?_
    refine rs_v (v_nilCheck_ptr rfl) rfl ?_
    refine rs_v (v_fieldAddr fa_keyspan_DefragmentingBuffers_1 rfl) rfl ?_
    refine rs_v (v_load one_sl_keyspan_Key rfl (by exact Bb.cell _ rfl)) rfl ?_
    refine rs_v (v_nilCheck_ptr rfl) rfl ?_
    refine rs_v (v_fieldAddr fa_keyspan_DefragmentingIter_6 rfl) rfl ?_
    refine rs_v (v_fieldAddr fa_keyspan_Span_2 rfl) rfl ?_
    refine rs_w0 (w_put siz_sl_keyspan_Key rfl rfl rfl rfl Bc rfl) ?_
    rintro _ h8 ⟨B8, K8⟩
    have hret := Ret.stab hret (K8.stab (A := Fin1) fun b hb => ⟨M.ds.lo b (M.ds.ff b hb), fun hm => M.ds.di.fc (by rw [List.mem_singleton] at hm; subst hm; exact hb)⟩)
    have M := M.putC hit (sp' := .pointer qv) (z' := (-1)) K8 B8
    have KP := KP.trans (K8.kp hcF) (fun _ h => .inl h)
    refine rs_nil ?_
    refine q_thn ?_
    refine tr_seq ?_
    refine tr_reg ?_
    refine rs_v (v_move rfl) rfl ?_
    refine rs_v (v_nilCheck_ptr rfl) rfl ?_
    refine rs_v (v_fieldAddr fa_keyspan_DefragmentingIter_6 rfl) rfl ?_
    refine rs_v (v_assign rfl) rfl ?_
    refine rs_nil ?_
    refine q_thn ?_
    refine tr_ret ?_
    refine q_ret (res_tmp rfl rfl) ?_
    exact ⟨b, Fin1, F1, _, _, _, _, _, _, _, _, _, _, _, hrun, hend, M.ds, hret, rfl, M.pspan, KP, hFF⟩
  -- yes
  rcases hqq with ⟨rfl, _⟩ | ⟨hb, x2, o2, rfl, hFb2, hps2⟩
  · simp at hif
  have hps20 := hps2
  obtain ⟨ss2, se2, sk2, _, hcs2, hr1, hr2, hr3⟩ := hps2
  obtain ⟨yk, ck2, rfl⟩ := SlR.form2 hr3
  obtain ⟨ys, cys, rfl, hsrc⟩ := RBytes.cellsAt hr1
  obtain ⟨ye, cye, rfl⟩ := SlR.form2 hr2
  
  have hq1 : (prvP b) = .pt (b - 1) := if_neg (by omega)
  have hg2 := hgood (nth W (b - 1)) (nth_mem (by omega))
  have hcks : (jspan W b (i + 1)).ks ≠ [] := (hgood (nth W b) (nth_mem (by omega))).1
  refine tr_skip ?_
  refine q_thn ?_
  refine tr_block ?_
  refine tr_seq ?_
  refine tr_seq ?_
  refine tr_quiet (by kernel_rfl) (by kernel_rfl) ?_
  refine rq_v (v_move rfl) ?_
  refine rq_v (v_nilCheck_ptr rfl) ?_
  refine rq_v (v_fieldAddr fa_keyspan_DefragmentingIter_2 rfl) ?_
  refine rq_v (v_load one_base_Equal rfl (by exact Bc.cell _ rfl)) ?_
  refine rq_v (v_move rfl) ?_
  refine rq_v (v_nilCheck_ptr rfl) ?_
  refine rq_v (v_fieldAddr fa_keyspan_DefragmentingIter_6 rfl) ?_
  refine rq_v (v_fieldAddr fa_keyspan_Span_0 rfl) ?_
  refine rq_v (v_load one_sl_uint8 rfl (by exact Bc.cell _ rfl)) ?_
  refine rq_v (v_move rfl) ?_
  refine rq_v (v_nilCheck_ptr rfl) ?_
  refine rq_v (v_fieldAddr fa_keyspan_DefragmentingIter_4 rfl) ?_
  refine rq_v (v_load one_p_keyspan_Span rfl (by exact Bc.cell _ rfl)) ?_
  refine rq_v (v_nilCheck_ptr rfl) ?_
  refine rq_v (v_fieldAddr fa_keyspan_Span_1 rfl) ?_
  refine rq_v (v_load one_sl_uint8 rfl (by exact hcs2.at 1 rfl)) ?_
  refine rq_w (w_callv (first := []) (cap := []) (vs := [_, _]) ok_bytes_Equal rfl ⟨rfl, rfl, trivial⟩ (c_bytesEqual χ _ _ _ (jspan W b (i + 1)).s _ (RBytes.by M.s1) (RBytes.by hr2))) ?_
  refine rq_v (v_not rfl) ?_
  refine rm_end ?_; simp only [endM, hypF, ofE, argE]
  refine q_thn ?_
  refine tr_if rfl (fun hif => ?_) (fun hif => ?_)
  · -- yes
    have hend : BegB W b := .inr (by
      cases hq : jn (nth W (b - 1)) (nth W b) with
      | false => rfl
      | true =>
        have h9 := (jn_iff.1 hq).1
        have h8 : seq' (jspan W b (i + 1)).s (nth W (b - 1)).e = true := seq_iff.2 h9.symm
        rw [h8] at hif; simp at hif)
    refine tr_exit ?_
    refine q_thn_exit ?_
    refine q_blk_miss rfl ?_
    refine q_lp_exit ?_
    refine q_blk_hit ?_
    refine q_thn ?_
    refine tr_seq ?_
    refine tr_seq ?_
    refine tr_reg ?_
    refine rs_v (v_move rfl) rfl ?_
    refine rs_v (v_nilCheck_ptr rfl) rfl ?_
    refine rs_v (v_fieldAddr fa_keyspan_DefragmentingIter_3 rfl) rfl ?_
    refine rs_v (v_load one_keyspan_FragmentIterator rfl (by exact Bc.cell _ rfl)) rfl ?_
    refine rs_w (w_mcall (vs := []) (hit.err M.ds.it) rfl trivial) rfl ?_
    rintro _ h9 ⟨rfl, hsame⟩; have hsame := hsame.symm; subst hsame
    refine rs_v (v_ine_nil isi_error rfl rfl) rfl ?_
    refine rs_nil ?_
    refine q_thn ?_
    refine tr_if_f rfl ?_
    refine tr_skip ?_
    refine q_thn ?_
    refine tr_seq ?_
    refine tr_reg ?_
    refine rs_v (v_move rfl) rfl ?_
    refine rs_v (v_move rfl) rfl ?_
    refine rs_v (v_nilCheck_ptr rfl) rfl ?_
    refine rs_v (v_fieldAddr fa_keyspan_DefragmentingIter_0 rfl) rfl ?_
    refine rs_v (v_load one_p_keyspan_DefragmentingBuffers rfl (by exact Bc.cell _ rfl)) rfl ?_
    refine rs_v (v_nilCheck_ptr rfl) rfl ?_
    refine rs_v (v_fieldAddr fa_keyspan_DefragmentingBuffers_1 rfl) rfl ?_
    refine rs_v (v_load one_sl_keyspan_Key rfl (by exact Bb.cell _ rfl)) rfl ?_
    refine rs_v (v_nilCheck_ptr rfl) rfl ?_
    refine rs_v (v_fieldAddr fa_keyspan_DefragmentingIter_6 rfl) rfl ?_
    refine rs_v (v_fieldAddr fa_keyspan_Span_2 rfl) rfl ?_
    refine rs_w0 (w_put siz_sl_keyspan_Key rfl rfl rfl rfl Bc rfl) ?_
    rintro _ h10 ⟨B10, K10⟩
    have hret := Ret.stab hret (K10.stab (A := Fin1) fun b hb => ⟨M.ds.lo b (M.ds.ff b hb), fun hm => M.ds.di.fc (by rw [List.mem_singleton] at hm; subst hm; exact hb)⟩)
    have M := M.putC hit (sp' := .pointer (some ⟨x2, o2, none⟩)) (z' := (-1)) K10 B10
    have KP := KP.trans (K10.kp hcF) (fun _ h => .inl h)
    refine rs_nil ?_
    refine q_thn ?_
    refine tr_seq ?_
    refine tr_reg ?_
    refine rs_v (v_move rfl) rfl ?_
    refine rs_v (v_nilCheck_ptr rfl) rfl ?_
    refine rs_v (v_fieldAddr fa_keyspan_DefragmentingIter_6 rfl) rfl ?_
    refine rs_v (v_assign rfl) rfl ?_
    refine rs_nil ?_
    refine q_thn ?_
    refine tr_ret ?_
    refine q_ret (res_tmp rfl rfl) ?_
    exact ⟨b, Fin1, F1, _, _, _, _, _, _, _, _, _, _, _, hrun, hend, M.ds, hret, rfl, M.pspan, KP, hFF⟩
  -- no
  have heq := seq_iff.1 (show seq' (jspan W b (i + 1)).s (nth W (b - 1)).e = true from by simpa using hif)
  refine tr_skip ?_
  refine q_thn ?_
  refine tr_seq ?_
  refine tr_seq ?_
  refine tr_quiet (by kernel_rfl) (by kernel_rfl) ?_
  refine rq_v (v_move rfl) ?_
  refine rq_v (v_move rfl) ?_
  refine rq_v (v_nilCheck_ptr rfl) ?_
  refine rq_v (v_fieldAddr fa_keyspan_DefragmentingIter_4 rfl) ?_
  refine rq_v (v_load one_p_keyspan_Span rfl (by exact Bc.cell _ rfl)) ?_
  refine rq_v (v_move rfl) ?_
  refine rq_v (v_nilCheck_ptr rfl) ?_
  refine rq_v (v_fieldAddr fa_keyspan_DefragmentingIter_6 rfl) ?_
  refine rq_w (w_call (vs := [_, _, _]) ok_keyspan_DefragmentingIter_checkEqual rfl ⟨rfl, rfl, rfl, trivial⟩ (c_checkEqual χ _ Fin1 F1 c x2 o2 (nth W (b - 1)) (jspan W b (i + 1)) _ _ _ _ _ _ _ _ _ Bc hps20 M.pspan hg2.2.2.2.1 hg2.1 hcks)) ?_
  refine rq_v (v_not rfl) ?_
  refine rm_end ?_; simp only [endM, hypF, ofE, argE]
  refine q_thn ?_
  refine tr_if rfl (fun hif => ?_) (fun hif => ?_)
  · -- yes
    have hend : BegB W b := .inr (by
      cases hq : jn (nth W (b - 1)) (nth W b) with
      | false => rfl
      | true =>
        have h9 := (jn_iff.1 hq).2
        have h8 : keysEq (nth W (b - 1)).ks (jspan W b (i + 1)).ks = true := keysEq_iff.2 (h9)
        rw [h8] at hif; simp at hif)
    refine tr_exit ?_
    refine q_thn_exit ?_
    refine q_blk_miss rfl ?_
    refine q_lp_exit ?_
    refine q_blk_hit ?_
    refine q_thn ?_
    refine tr_seq ?_
    refine tr_seq ?_
    refine tr_reg ?_
    refine rs_v (v_move rfl) rfl ?_
    refine rs_v (v_nilCheck_ptr rfl) rfl ?_
    refine rs_v (v_fieldAddr fa_keyspan_DefragmentingIter_3 rfl) rfl ?_
    refine rs_v (v_load one_keyspan_FragmentIterator rfl (by exact Bc.cell _ rfl)) rfl ?_
    refine rs_w (w_mcall (vs := []) (hit.err M.ds.it) rfl trivial) rfl ?_
    rintro _ h11 ⟨rfl, hsame⟩; have hsame := hsame.symm; subst hsame
    refine rs_v (v_ine_nil isi_error rfl rfl) rfl ?_
    refine rs_nil ?_
    refine q_thn ?_
    refine tr_if_f rfl ?_
    refine tr_skip ?_
    refine q_thn ?_
    refine tr_seq ?_
    refine tr_reg ?_
    refine rs_v (v_move rfl) rfl ?_
    refine rs_v (v_move rfl) rfl ?_
    refine rs_v (v_nilCheck_ptr rfl) rfl ?_
    refine rs_v (v_fieldAddr fa_keyspan_DefragmentingIter_0 rfl) rfl ?_
    refine rs_v (v_load one_p_keyspan_DefragmentingBuffers rfl (by exact Bc.cell _ rfl)) rfl ?_
    refine rs_v (v_nilCheck_ptr rfl) rfl ?_
    refine rs_v (v_fieldAddr fa_keyspan_DefragmentingBuffers_1 rfl) rfl ?_
    refine rs_v (v_load one_sl_keyspan_Key rfl (by exact Bb.cell _ rfl)) rfl ?_
    refine rs_v (v_nilCheck_ptr rfl) rfl ?_
    refine rs_v (v_fieldAddr fa_keyspan_DefragmentingIter_6 rfl) rfl ?_
    refine rs_v (v_fieldAddr fa_keyspan_Span_2 rfl) rfl ?_
    refine rs_w0 (w_put siz_sl_keyspan_Key rfl rfl rfl rfl Bc rfl) ?_
    rintro _ h12 ⟨B12, K12⟩
    have hret := Ret.stab hret (K12.stab (A := Fin1) fun b hb => ⟨M.ds.lo b (M.ds.ff b hb), fun hm => M.ds.di.fc (by rw [List.mem_singleton] at hm; subst hm; exact hb)⟩)
    have M := M.putC hit (sp' := .pointer (some ⟨x2, o2, none⟩)) (z' := (-1)) K12 B12
    have KP := KP.trans (K12.kp hcF) (fun _ h => .inl h)
    refine rs_nil ?_
    refine q_thn ?_
    refine tr_seq ?_
    refine tr_reg ?_
    refine rs_v (v_move rfl) rfl ?_
    refine rs_v (v_nilCheck_ptr rfl) rfl ?_
    refine rs_v (v_fieldAddr fa_keyspan_DefragmentingIter_6 rfl) rfl ?_
    refine rs_v (v_assign rfl) rfl ?_
    refine rs_nil ?_
    refine q_thn ?_
    refine tr_ret ?_
    refine q_ret (res_tmp rfl rfl) ?_
    exact ⟨b, Fin1, F1, _, _, _, _, _, _, _, _, _, _, _, hrun, hend, M.ds, hret, rfl, M.pspan, KP, hFF⟩
  -- no
  have hke := keysEq_iff.1 (show keysEq (nth W (b - 1)).ks (jspan W b (i + 1)).ks = true from by simpa using hif)
  have hjn : jn (nth W (b - 1)) (nth W b) = true := jn_iff.2 ⟨heq.symm, hke⟩
  have hkk : (nth W (b - 1)).ks = (jspan W b (i + 1)).ks := hke
  refine tr_skip ?_
  refine q_thn ?_
  refine tr_seq ?_
  have hsm2 := (hgood (nth W (b - 1)) (nth_mem (by omega))).2
  have hsz2 : ((nth W (b - 1)).s).data.toList.length ≤ 2147483647 := by rw [ba_size]; exact hsm2.1
  have hsrc1 : byteCells ((nth W (b - 1)).s).data.toList = [] ∨ ∃ g9 o9, ys = some ⟨g9, o9, none⟩ ∧ CellsAt hL6 g9 o9 (byteCells ((nth W (b - 1)).s).data.toList) := by
    rcases hsrc with e | ⟨g9, o9, e, _, hc⟩
    · exact .inl (by rw [e]; rfl)
    · exact .inr ⟨g9, o9, e, hc⟩
  have hnk : ∀ b, Fin1 b → b ∉ (Value.slice ab1 0 cb1).ownBlock.toList := fun b hb hm => (M.ds.di.b1 b (mem_cut hm)).2.2.1 hb
  refine tr_draw [(true, 20), (false, 3)] _ (by kernel_rfl) (by kernel_rfl) (by kernel_rfl) ?_
  refine rx_big Same (Keep (Value.slice ab1 0 cb1).ownBlock.toList) same_pre (keep_pre _) (fun a b e => by cases e; exact Keep.refl _ _) ?_
  refine rb_v same_pre (fun h' hk => v_move rfl) ?_
  refine rb_v same_pre (fun h' hk => v_nilCheck_ptr rfl) ?_
  refine rb_v same_pre (fun h' hk => v_fieldAddr fa_keyspan_DefragmentingIter_0 rfl) ?_
  refine rb_v same_pre (fun h' hk => v_load one_p_keyspan_DefragmentingBuffers rfl ((hk.blk (fun hm => (M.ds.di.b1 c (mem_cut hm)).1 rfl) Bc).cell _ rfl)) ?_
  refine rb_v same_pre (fun h' hk => v_move rfl) ?_
  refine rb_v same_pre (fun h' hk => v_nilCheck_ptr rfl) ?_
  refine rb_v same_pre (fun h' hk => v_fieldAddr fa_keyspan_DefragmentingIter_0 rfl) ?_
  refine rb_v same_pre (fun h' hk => v_load one_p_keyspan_DefragmentingBuffers rfl ((hk.blk (fun hm => (M.ds.di.b1 c (mem_cut hm)).1 rfl) Bc).cell _ rfl)) ?_
  refine rb_v same_pre (fun h' hk => v_nilCheck_ptr rfl) ?_
  refine rb_v same_pre (fun h' hk => v_fieldAddr fa_keyspan_DefragmentingBuffers_2 rfl) ?_
  refine rb_v same_pre (fun h' hk => v_load one_sl_uint8 rfl ((hk.blk (fun hm => (M.ds.di.b1 cb (mem_cut hm)).2.1 rfl) Bb).cell _ rfl)) ?_
  refine rb_v same_pre (fun h' hk => v_slice_h (i := 0) u_sl_uint8 siz_uint8 rfl rfl rfl (Nat.zero_le _)) ?_
  refine rb_v same_pre (fun h' hk => v_move rfl) ?_
  refine rb_v same_pre (fun h' hk => v_nilCheck_ptr rfl) ?_
  refine rb_v same_pre (fun h' hk => v_fieldAddr fa_keyspan_DefragmentingIter_4 rfl) ?_
  refine rb_v same_pre (fun h' hk => v_load one_p_keyspan_Span rfl ((hk.blk (fun hm => (M.ds.di.b1 c (mem_cut hm)).1 rfl) Bc).cell _ rfl)) ?_
  refine rb_v same_pre (fun h' hk => v_nilCheck_ptr rfl) ?_
  refine rb_v same_pre (fun h' hk => v_fieldAddr fa_keyspan_Span_0 rfl) ?_
  refine rb_v same_pre (fun h' hk => v_load one_sl_uint8 rfl ((hk.cells (hnk _ hFb2) hcs2).at 0 rfl)) ?_
  refine rb_big (fun v h' => Own h' 0 u8T 1 v ((nth W (b - 1)).s).data.toList.length (byteCells ((nth W (b - 1)).s).data.toList) ∧ Keep (Value.slice ab1 0 cb1).ownBlock.toList hL6 h' ∧ (v.ownBlock = (Value.slice ab1 0 cb1).ownBlock ∨ v.ownBlock = some (hL6).size))
    (fun v h1 h2 _ e hr => by cases e; exact hr)
    (fun h' hk => by
      have hk : h' = hL6 := hk
      subst hk
      exact OpW.mono (w_appS (news := byteCells ((nth W (b - 1)).s).data.toList) u_sl_uint8 info_uint8 rfl rfl rfl (Own.cut0 M.ds.ob) rfl (by rw [bc_len, Nat.mul_one]) hsrc1 bc_one (by omega) (by omega) (Nat.zero_le _)) (fun v h'' hv => by
        obtain ⟨O', K', F'⟩ := hv
        exact ⟨K', by simpa using O', K', F'⟩)) ?_
  refine rb_end ?_; intro ha9 Ka9; simp only [endM, hypF, ofE, argE, List.nil_append]
  intro v19 hv19
  obtain ⟨O10, K10, F10⟩ := hv19
  obtain ⟨ax, cax, rfl⟩ := Own.form3 O10
  have Bb9 := Ka9.blk (fun hm => (M.ds.di.b1 cb (mem_cut hm)).2.1 rfl) Bb
  have Bc9 := Ka9.blk (fun hm => (M.ds.di.b1 c (mem_cut hm)).1 rfl) Bc
  refine rx_seq ?_
  refine rs_v (v_nilCheck_ptr rfl) rfl ?_
  refine rs_v (v_fieldAddr fa_keyspan_DefragmentingBuffers_2 rfl) rfl ?_
  refine rs_w0 (w_put siz_sl_uint8 rfl rfl rfl rfl Bb9 rfl) ?_
  rintro _ h13 ⟨Bb, K10b⟩
  have Bc := K10b.blk (by simp; exact M.ds.di.ne) Bc9
  have B10b : Blk h13 cb [Value.slice xa1 na1 ca1, Value.slice ak1 (jspan W b (i + 1)).ks.length ck1, Value.slice ax ((nth W (b - 1)).s).data.toList.length cax] bufT := Bb
  refine rs_nil ?_
  refine q_con ?_
  refine rx_nil ?_
  refine q_thn ?_
  refine tr_seq ?_
  refine tr_reg ?_
  refine rs_v (v_move rfl) rfl ?_
  refine rs_v (v_move rfl) rfl ?_
  refine rs_v (v_nilCheck_ptr rfl) rfl ?_
  refine rs_v (v_fieldAddr fa_keyspan_DefragmentingIter_0 rfl) rfl ?_
  refine rs_v (v_load one_p_keyspan_DefragmentingBuffers rfl (by exact Bc.cell _ rfl)) rfl ?_
  refine rs_v (v_nilCheck_ptr rfl) rfl ?_
  refine rs_v (v_fieldAddr fa_keyspan_DefragmentingBuffers_2 rfl) rfl ?_
  refine rs_v (v_load one_sl_uint8 rfl (by exact Bb.cell _ rfl)) rfl ?_
  refine rs_v (v_nilCheck_ptr rfl) rfl ?_
  refine rs_v (v_fieldAddr fa_keyspan_DefragmentingIter_6 rfl) rfl ?_
  refine rs_v (v_fieldAddr fa_keyspan_Span_0 rfl) rfl ?_
  refine rs_w0 (w_put siz_sl_uint8 rfl rfl rfl rfl Bc rfl) ?_
  rintro _ h14 ⟨B14, K14⟩
  have M0 := M
  obtain ⟨M2, KE, hFE⟩ := M0.ext hit (kb0 := (Value.slice ab1 0 cb1)) own_cut O10 K10 F10 K10b B10b K14 (.slice ax _ cax) (.slice ae1 _ ce1) (by simp) B14
  have hcur2 : (if false then (⟨(jspan W b (i + 1)).s, (nth W (b - 1)).s, (jspan W b (i + 1)).ks⟩ : SpanD) else ⟨(nth W (b - 1)).s, (jspan W b (i + 1)).e, (jspan W b (i + 1)).ks⟩) = (jspan W (b - 1) (i + 1)) := by simp only [jspan, Bool.false_eq_true, if_false]; rw [show (nth W b).ks = (nth W (b - 1)).ks from hkk.symm]
  have M := M2
  rw [hcur2] at M
  have hcs3 := (show Stab Fin1 _ h14 from fun b hb => by
    rw [show (h14)[b]? = _ from K14.2 b (by have := M0.ds.lo b (M0.ds.ff b hb); have := K10.1; have := K10b.1; omega) (fun hm => M0.ds.di.fc (by rw [List.mem_singleton] at hm; subst hm; exact hb)), K10b.2 b (by have := M0.ds.lo b (M0.ds.ff b hb); have := K10.1; omega) (fun hm => M0.ds.di.fb (by rw [List.mem_singleton] at hm; subst hm; exact hb))]
    exact K10.2 b (M0.ds.lo b (M0.ds.ff b hb)) (hnk b hb)).cells hFb2 hcs2
  have hKz2 := KP.1
  have hFF2 : ∀ y, (F1 y ∨ y ∈ (Value.slice ax ((nth W (b - 1)).s).data.toList.length cax).ownBlock.toList) → F y ∨ h.size ≤ y := fun y hy => hy.elim (hFF y) (fun e => (hFE y e).elim (hFF y) (fun e9 => Or.inr (by omega)))
  have KP := KP.trans KE hFF
  have hFF := hFF2
  have Bc := M.ds.bc
  have Bb := M.ds.bb
  refine rs_nil ?_
  refine q_thn ?_
  refine tr_seq ?_
  refine tr_draw [(true, 23), (false, 3)] _ (by kernel_rfl) (by kernel_rfl) (by kernel_rfl) ?_
  refine rx_any Same same_pre ?_
  refine rq_v (v_move rfl) ?_
  refine rq_v (v_nilCheck_ptr rfl) ?_
  refine rq_v (v_fieldAddr fa_keyspan_DefragmentingIter_0 rfl) ?_
  refine rq_v (v_load one_p_keyspan_DefragmentingBuffers rfl (by exact Bc.cell _ rfl)) ?_
  refine rq_v (v_move rfl) ?_
  refine rq_v (v_nilCheck_ptr rfl) ?_
  refine rq_v (v_fieldAddr fa_keyspan_DefragmentingIter_8 rfl) ?_
  refine rq_v (v_load one_keyspan_DefragmentReducer rfl (by exact Bc.cell _ rfl)) ?_
  refine rq_v (v_move rfl) ?_
  refine rq_v (v_nilCheck_ptr rfl) ?_
  refine rq_v (v_fieldAddr fa_keyspan_DefragmentingIter_0 rfl) ?_
  refine rq_v (v_load one_p_keyspan_DefragmentingBuffers rfl (by exact Bc.cell _ rfl)) ?_
  refine rq_v (v_nilCheck_ptr rfl) ?_
  refine rq_v (v_fieldAddr fa_keyspan_DefragmentingBuffers_1 rfl) ?_
  refine rq_v (v_load one_sl_keyspan_Key rfl (by exact Bb.cell _ rfl)) ?_
  refine rq_v (v_move rfl) ?_
  refine rq_v (v_nilCheck_ptr rfl) ?_
  refine rq_v (v_fieldAddr fa_keyspan_DefragmentingIter_4 rfl) ?_
  refine rq_v (v_load one_p_keyspan_Span rfl (by exact Bc.cell _ rfl)) ?_
  refine rq_v (v_nilCheck_ptr rfl) ?_
  refine rq_v (v_fieldAddr fa_keyspan_Span_2 rfl) ?_
  refine rq_v (v_load one_sl_keyspan_Key rfl (by exact hcs3.at 2 rfl)) ?_
  refine rq_w (w_callv (first := []) (cap := []) (vs := [_, _]) ok_keyspan_StaticDefragmentReducer rfl ⟨rfl, rfl, trivial⟩ (c_Reduce χ _ _ _)) ?_
  refine rm_end ?_; intro ha15 Ka15; simp only [endM, hypF, ofE, argE, List.nil_append]
  have Ka15 : h14 = ha15 := Eq.symm Ka15
  subst Ka15
  refine rx_seq ?_
  refine rs_v (v_nilCheck_ptr rfl) rfl ?_
  refine rs_v (v_fieldAddr fa_keyspan_DefragmentingBuffers_1 rfl) rfl ?_
  refine rs_w0 (w_put siz_sl_keyspan_Key rfl rfl rfl rfl Bb rfl) ?_
  rintro _ h16 ⟨B16, K16⟩
  have M := M.putB hit K16 B16
  have KP := KP.trans (K16.kp hbF) (fun _ h => .inl h)
  have Bc := M.ds.bc
  have Bb := M.ds.bb
  refine rs_nil ?_
  refine q_con ?_
  refine rx_nil ?_
  refine q_thn ?_
  refine tr_reg ?_
  refine rs_v (v_move rfl) rfl ?_
  refine rs_v (v_move rfl) rfl ?_
  refine rs_v (v_nilCheck_ptr rfl) rfl ?_
  refine rs_v (v_fieldAddr fa_keyspan_DefragmentingIter_3 rfl) rfl ?_
  refine rs_v (v_load one_keyspan_FragmentIterator rfl (by exact Bc.cell _ rfl)) rfl ?_
  refine rs_w (w_mcall (vs := []) (hit.prev M.ds.it (by rw [hq1]; rfl)) rfl trivial) rfl ?_
  rintro r17 h17 hp17
  rw [show pPrev W (prvP b) = (prvP (b - 1)) from by rw [hq1]; rfl] at hp17
  have MFF := M.ds.ff
  obtain ⟨Fin2, M, hF2, KF2, hret2⟩ := M.inner hit hp17
  obtain ⟨qv2, rfl, _⟩ := hret2.form
  have hKz := KP.1
  have hFF2 : ∀ b, _ → F b ∨ h.size ≤ b := fun b hb => Or.elim hb (hFF b) (fun e => (hF2 b e).elim (fun e9 => hFF b (MFF b e9)) (fun e9 => Or.inr (by omega)))
  have KP := KP.trans KF2 hFF
  have hFF := hFF2
  have hlo2 : ∀ b, Fin2 b → b < (h17).size := fun b hb => M.ds.lo b (M.ds.ff b hb)
  have Bc := M.ds.bc
  have Bb := M.ds.bb
  refine rs_v (v_nilCheck_ptr rfl) rfl ?_
  refine rs_v (v_fieldAddr fa_keyspan_DefragmentingIter_4 rfl) rfl ?_
  refine rs_w0 (w_put siz_p_keyspan_Span rfl rfl rfl rfl Bc rfl) ?_
  rintro _ h18 ⟨B18, K18⟩
  have M := M.putC hit (sp' := .pointer qv2) (z' := (-1)) K18 B18
  have hret1 := Ret.stab hret2 (K18.stab (A := Fin2) fun b hb => ⟨by have := hlo2 b hb; omega, fun hm => M.ds.di.fc (by rw [List.mem_singleton] at hm; subst hm; exact hb)⟩)
  have KP := KP.trans (K18.kp hcF) (fun _ h => .inl h)
  have Bc := M.ds.bc
  have Bb := M.ds.bb
  refine rs_nil ?_
  refine q_blk_n ?_
  refine q_lp (((b - 1) + 1)) [(0, _)] (by omega) ⟨rfl, trivial⟩ ⟨b - 1, _, _, _, _, _, _, _, _, _, _, _, _, run_prev hrun hb hjn, rfl, rfl, M, hret1, KP, hFF⟩
end Go.Proofs.Ytgebfbnndgjkiaa
namespace Go.Proofs.Ytgebfbnndgjkiaa
open Go.Tess Go.RowKit
set_option maxRecDepth 100000
set_option maxHeartbeats 1000000
/-- The place in the joined list, that in the list beneath, and what the iterator knows of it. -/
def relD (W : List SpanD) (p q : Pos) (z : Int) : Prop :=
  p = .nowhere ∨ (p = .behind ∧ q = .behind ∧ z = 0) ∨ (p = .ahead ∧ q = .ahead ∧ z = 0) ∨ ∃ a b, p = .pt (nG W a) ∧ Grp W a b ∧ ((z = 1 ∧ q = nxtP W b) ∨ (z = -1 ∧ q = prvP a))
def DIt (W : List SpanD) (I : ItI) (t : TypeId) (v0 : Value) (cmb c cb : Nat) : ItI := fun p F h =>
  ∃ q Fin F0 sp z sv ev kv a ksv kbv nk xk nb xb s0, DSt W I t v0 (.pointer (some ⟨cmb, 0, none⟩)) c cb q Fin F0 h sp z sv ev kv a ksv kbv nk xk nb xb ∧ Ret W q Fin h sp ∧ relD W p q z ∧ ¬ F0 cmb ∧ (∀ b, F0 b → F b) ∧ F cmb ∧ Low F h ∧ Blk h cmb (cmpL s0) 119
section
variable {W : List SpanD} {I : ItI} {t : TypeId} {v0 : Value} {cmb c cb : Nat} {p q : Pos} {F F0 F1 Fin : Nat → Prop} {h h' : Heap} {sp sv ev kv a ksv kbv : Value} {z : Int} {nk nb : Nat} {xk xb : List Value} {s0 : ByteArray}
theorem di_post (hlF : Low F h) (hF0 : ∀ b, F0 b → F b) (hFc : F cmb) (hcm : ¬ F0 cmb) (Bq : Blk h cmb (cmpL s0) 119)
    (D : DSt W I t v0 (.pointer (some ⟨cmb, 0, none⟩)) c cb q Fin F1 h' sp z sv ev kv a ksv kbv nk xk nb xb) (hret : Ret W q Fin h' sp) (hrel : relD W p q z) (KP : KeepP F0 h h') (hFF : ∀ b, F1 b → F0 b ∨ h.size ≤ b) {r : Value} (hr : Ret (dfr W) p F1 h' r) :
    ItPost (dfr W) (DIt W I t v0 cmb c cb) F h p r h' := by
  have hz := KP.1
  have hcl := Bq.lt
  refine ⟨fun b => F b ∨ F1 b, ⟨q, Fin, F1, sp, z, sv, ev, kv, a, ksv, kbv, nk, xk, nb, xb, s0, D, hret, hrel, fun hc => ?_, fun b hb => .inr hb, .inl hFc, fun b hb => ?_, KP.blk hcm Bq⟩, fun b hb => ?_, ⟨hz, fun b hb hF => KP.2 b hb (fun h0 => hF (hF0 b h0))⟩, ?_⟩
  · rcases hFF _ hc with e | e
    · exact hcm e
    · omega
  · rcases hb with hb | hb
    · have := hlF b hb; omega
    · exact D.lo b hb
  · rcases hb with hb | hb
    · exact .inl hb
    · rcases hFF b hb with e | e
      · exact .inl (hF0 b e)
      · exact .inr e
  · unfold Ret at hr ⊢
    cases hc : cur (dfr W) p with
    | none => rw [hc] at hr; exact hr
    | some s => rw [hc] at hr; obtain ⟨b, o, e, h1, h2⟩ := hr; exact ⟨b, o, e, .inr h1, h2.mono fun b hb => .inr hb⟩
theorem ret_grp {x y : Nat} (hg : Grp W x y) {F1 : Nat → Prop} (hc : F1 c) (hps : PSpan F1 h' c 6 (jspan W x y)) : Ret (dfr W) (.pt (nG W x)) F1 h' (.pointer (some ⟨c, 6, none⟩)) := by
  unfold Ret
  rw [show cur (dfr W) (.pt (nG W x)) = some (jspan W x y) from (grp_at hg).1]
  exact ⟨c, 6, rfl, hc, hps⟩
theorem ret_gen {q : Pos} {i : Nat} {P : Prop} {h : Heap} {qv : Option Addr} [Decidable P] {q0 : Pos} (hq : q = if P then .pt i else q0) (hi : P → i < W.length) (h0 : ∀ s, cur W q0 ≠ some s) (hr : Ret W q Fin h (.pointer qv)) :
    (qv = none ∧ ¬ P) ∨ (P ∧ q = .pt i ∧ ∃ x o, qv = some ⟨x, o, none⟩ ∧ Fin x ∧ PSpan Fin h x o (nth W i)) := by
  by_cases hp : P
  · rw [if_pos hp] at hq; subst hq
    obtain ⟨x, o, e, h1, h2⟩ := ret_pt hr (hi hp)
    cases e
    exact .inr ⟨hp, rfl, x, o, rfl, h1, h2⟩
  · rw [if_neg hp] at hq; subst hq
    unfold Ret at hr
    cases hc : cur W q with
    | none => rw [hc] at hr; cases hr; exact .inl ⟨rfl, hp⟩
    | some s => exact absurd hc (h0 s)
theorem beg_of_end {b : Nat} (he : EndB W b) (hb : b < W.length) : BegB W b := by
  rcases he with e | e
  · omega
  · exact .inr e
theorem end_of_beg {b : Nat} (he : BegB W b) (hb : 0 < b) : EndB W b := by
  rcases he with e | e
  · omega
  · exact .inr e
end
theorem m_DiFirst (v : Value) : Meth Try.prog 165 v "First" 143 v := fun _ => by kernel_rfl
theorem m_DiLast (v : Value) : Meth Try.prog 165 v "Last" 144 v := fun _ => by kernel_rfl
theorem m_DiNext (v : Value) : Meth Try.prog 165 v "Next" 145 v := fun _ => by kernel_rfl
theorem m_DiPrev (v : Value) : Meth Try.prog 165 v "Prev" 146 v := fun _ => by kernel_rfl
theorem m_DiSeekGE (v : Value) : Meth Try.prog 165 v "SeekGE" 147 v := fun _ => by kernel_rfl
theorem m_DiSeekLT (v : Value) : Meth Try.prog 165 v "SeekLT" 148 v := fun _ => by kernel_rfl
theorem m_DiError (v : Value) : Meth Try.prog 165 v "Error" 142 v := fun _ => by kernel_rfl
theorem c_DiError (χ : Chi) {W : List SpanD} {I : ItI} {t : TypeId} {v0 : Value} {cmb c cb : Nat} {p : Pos} {F : Nat → Prop} {h : Heap} (hit : IterOK Try.prog χ W t v0 I) (hI : DIt W I t v0 cmb c cb p F h) :
    Cl Try.prog χ 142 #[.pointer (some ⟨c, 0, none⟩)] h (fun r h' => r = .nilIface ∧ h' = h) := by
  obtain ⟨q, Fin, F0, sp, z, sv, ev, kv, a, ksv, kbv, nk, xk, nb, xb, s0, D, hret, hrel, hcm, hF0, hFc, hlF, Bq⟩ := hI
  have KP := KeepP.refl F0 h
  have hFF : ∀ b, F0 b → F0 b ∨ h.size ≤ b := fun b hb => .inl hb
  have hcF : ∀ x, x ∈ [c] → F0 x := fun x hx => by rw [List.mem_singleton] at hx; subst hx; exact D.fc
  have Bc := D.bc
  refine cl_intro Try.func142 rfl rfl rfl ?_
  have K : Keep [] h h := Keep.refl _ _
  refine tr_seq ?_
  refine tr_reg ?_
  refine rs_v (v_assign rfl) rfl ?_
  refine rs_nil ?_
  refine q_thn ?_
  refine tr_seq ?_
  refine tr_reg ?_
  refine rs_v (v_move rfl) rfl ?_
  refine rs_v (v_nilCheck_ptr rfl) rfl ?_
  refine rs_v (v_fieldAddr fa_keyspan_DefragmentingIter_3 rfl) rfl ?_
  refine rs_v (v_load one_keyspan_FragmentIterator rfl (by exact Bc.cell _ rfl)) rfl ?_
  refine rs_w (w_mcall (vs := []) (hit.err D.it) rfl trivial) rfl ?_
  rintro _ h1 ⟨rfl, hsame⟩; have hsame := hsame.symm; subst hsame
  refine rs_v (v_assign rfl) rfl ?_
  refine rs_nil ?_
  refine q_thn ?_
  refine tr_ret ?_
  refine q_ret (res_tmp rfl rfl) ?_
  exact ⟨rfl, rfl⟩
theorem c_DiFirst (χ : Chi) {W : List SpanD} {I : ItI} {t : TypeId} {v0 : Value} {cmb c cb : Nat} {p : Pos} {F : Nat → Prop} {h : Heap} (hit : IterOK Try.prog χ W t v0 I) (hgood : GoodD W) (hI : DIt W I t v0 cmb c cb p F h)  :
    Cl Try.prog χ 143 #[.pointer (some ⟨c, 0, none⟩)] h (ItPost (dfr W) (DIt W I t v0 cmb c cb) F h (pFirst (dfr W))) := by
  obtain ⟨q, Fin, F0, sp, z, sv, ev, kv, a, ksv, kbv, nk, xk, nb, xb, s0, D, hret, hrel, hcm, hF0, hFc, hlF, Bq⟩ := hI
  have KP := KeepP.refl F0 h
  have hFF : ∀ b, F0 b → F0 b ∨ h.size ≤ b := fun b hb => .inl hb
  have hcF : ∀ x, x ∈ [c] → F0 x := fun x hx => by rw [List.mem_singleton] at hx; subst hx; exact D.fc
  have Bc := D.bc
  refine cl_intro Try.func143 rfl rfl rfl ?_
  have K : Keep [] h h := Keep.refl _ _
  refine tr_seq ?_
  refine tr_reg ?_
  refine rs_v (v_assign rfl) rfl ?_
  refine rs_nil ?_
  refine q_thn ?_
  refine tr_seq ?_
  refine tr_reg ?_
  refine rs_v (v_move rfl) rfl ?_
  refine rs_v (v_move rfl) rfl ?_
  refine rs_v (v_nilCheck_ptr rfl) rfl ?_
  refine rs_v (v_fieldAddr fa_keyspan_DefragmentingIter_3 rfl) rfl ?_
  refine rs_v (v_load one_keyspan_FragmentIterator rfl (by exact Bc.cell _ rfl)) rfl ?_
  refine rs_w (w_mcall (vs := []) (hit.first D.it) rfl trivial) rfl ?_
  rintro r1 h1 hp1
  skip
  have DFF := D.ff
  obtain ⟨Fin2, D, hF2, _, KF2, hret2⟩ := D.inner hit hp1
  obtain ⟨qv2, rfl, _⟩ := hret2.form
  have hKz := KP.1
  have hFF2 : ∀ b, _ → F0 b ∨ h.size ≤ b := fun b hb => Or.elim hb (hFF b) (fun e => (hF2 b e).elim (fun e9 => hFF b (DFF b e9)) (fun e9 => Or.inr (by omega)))
  have KP := KP.trans KF2 hFF
  have hFF := hFF2
  have Bc := D.bc
  refine rs_v (v_nilCheck_ptr rfl) rfl ?_
  refine rs_v (v_fieldAddr fa_keyspan_DefragmentingIter_4 rfl) rfl ?_
  refine rs_w0 (w_put siz_p_keyspan_Span rfl rfl rfl rfl Bc rfl) ?_
  rintro _ h2 ⟨B2, K2⟩
  have hret1 := Ret.stab hret2 (K2.stab (A := Fin2) fun b hb => ⟨D.lo b (D.ff b hb), fun hm => D.di.fc (by rw [List.mem_singleton] at hm; subst hm; exact hb)⟩)
  have D := D.putC hit (sp' := .pointer qv2) (z' := z) K2 B2
  have KP := KP.trans (K2.kp hcF) (fun _ h => .inl h)
  have Bc := D.bc
  refine rs_nil ?_
  refine q_thn ?_
  refine tr_seq ?_
  refine tr_seq ?_
  refine tr_reg ?_
  refine rs_v (v_move rfl) rfl ?_
  refine rs_v (v_nilCheck_ptr rfl) rfl ?_
  refine rs_v (v_fieldAddr fa_keyspan_DefragmentingIter_4 rfl) rfl ?_
  refine rs_v (v_load one_p_keyspan_Span rfl (by exact Bc.cell _ rfl)) rfl ?_
  refine rs_v (v_peq u_p_keyspan_Span rfl rfl) rfl ?_
  refine rs_nil ?_
  refine q_thn ?_
  refine tr_if rfl (fun hif => ?_) (fun hif => ?_)
  · -- yes
    have hq := ret_gen (P := ¬ W.length = 0) (i := 0) (q0 := .nowhere) (by simp only [pFirst]; split <;> simp_all) (by omega) (by simp [cur]) hret1
    rcases hq with ⟨rfl, hW⟩ | ⟨hW, hq, x2, o2, rfl, _, _⟩
    rotate_left
    · simp at hif
    refine tr_seq ?_
    refine tr_reg ?_
    refine rs_v (v_move rfl) rfl ?_
    refine rs_v (v_nilCheck_ptr rfl) rfl ?_
    refine rs_v (v_fieldAddr fa_keyspan_DefragmentingIter_5 rfl) rfl ?_
    refine rs_w0 (w_put siz_keyspan_iterPos rfl rfl rfl rfl Bc rfl) ?_
    rintro _ h3 ⟨B3, K3⟩
    have hret1 := Ret.stab hret1 (K3.stab (A := _) fun b hb => ⟨D.lo b (D.ff b hb), fun hm => D.di.fc (by rw [List.mem_singleton] at hm; subst hm; exact hb)⟩)
    have D := D.putC hit (sp' := .pointer none) (z' := 0) K3 B3
    have KP := KP.trans (K3.kp hcF) (fun _ h => .inl h)
    refine rs_nil ?_
    refine q_thn ?_
    refine tr_seq ?_
    refine tr_reg ?_
    refine rs_v (v_assign rfl) rfl ?_
    refine rs_nil ?_
    refine q_thn ?_
    refine tr_ret ?_
    refine q_thn_ret ?_
    refine q_ret (res_tmp rfl rfl) ?_
    rw [show dfr W = [] from dfr_nil (by omega), show pFirst ([] : List SpanD) = .nowhere from rfl, ← show dfr W = [] from dfr_nil (by omega)]
    exact di_post hlF hF0 hFc hcm Bq D hret1 (.inl rfl) KP hFF (by unfold Ret; rw [show cur (dfr W) .nowhere = none from rfl])
  -- no
  have hq := ret_gen (P := ¬ W.length = 0) (i := 0) (q0 := .nowhere) (by simp only [pFirst]; split <;> simp_all) (by omega) (by simp [cur]) hret1
  rcases hq with ⟨rfl, hW⟩ | ⟨hW, hq, x2, o2, rfl, _, _⟩
  · simp at hif
  rw [hq] at D hret1
  refine tr_skip ?_
  refine q_thn ?_
  refine tr_seq ?_
  refine tr_reg ?_
  refine rs_v (v_move rfl) rfl ?_
  refine rs_w (w_call (vs := [_]) ok_keyspan_DefragmentingIter_defragmentForward rfl ⟨rfl, trivial⟩ (c_defragmentForward hit hgood D (by omega) hret1)) rfl ?_
  rintro r4 h4 ⟨b3, Fin3, F3, sp3, sv3, ev3, kv3, a3, ksv3, kbv3, nk3, xk3, nb3, xb3, hrun3, hend3, D, hret, rfl, hps3, KP3, hF3⟩
  obtain ⟨qv3, rfl, _⟩ := hret.form
  have hKz := KP.1
  have KP := KP.trans KP3 hFF
  have hFF : ∀ b, F3 b → F0 b ∨ h.size ≤ b := fun b hb => (hF3 b hb).elim (hFF b) (fun e9 => Or.inr (by omega))
  have Bc := D.bc
  refine rs_v (v_assign rfl) rfl ?_
  refine rs_nil ?_
  refine q_thn ?_
  refine tr_ret ?_
  refine q_ret (res_tmp rfl rfl) ?_
  have hW0 : 0 < W.length := by omega
  have hg : Grp W 0 b3 := ⟨.inl rfl, hrun3, hend3⟩
  rw [grp_first hg]
  exact di_post hlF hF0 hFc hcm Bq D hret (.inr (.inr (.inr ⟨0, b3, rfl, hg, .inl ⟨rfl, rfl⟩⟩))) KP hFF (ret_grp hg D.fc hps3)
theorem c_DiLast (χ : Chi) {W : List SpanD} {I : ItI} {t : TypeId} {v0 : Value} {cmb c cb : Nat} {p : Pos} {F : Nat → Prop} {h : Heap} (hit : IterOK Try.prog χ W t v0 I) (hgood : GoodD W) (hI : DIt W I t v0 cmb c cb p F h)  :
    Cl Try.prog χ 144 #[.pointer (some ⟨c, 0, none⟩)] h (ItPost (dfr W) (DIt W I t v0 cmb c cb) F h (pLast (dfr W))) := by
  obtain ⟨q, Fin, F0, sp, z, sv, ev, kv, a, ksv, kbv, nk, xk, nb, xb, s0, D, hret, hrel, hcm, hF0, hFc, hlF, Bq⟩ := hI
  have KP := KeepP.refl F0 h
  have hFF : ∀ b, F0 b → F0 b ∨ h.size ≤ b := fun b hb => .inl hb
  have hcF : ∀ x, x ∈ [c] → F0 x := fun x hx => by rw [List.mem_singleton] at hx; subst hx; exact D.fc
  have Bc := D.bc
  refine cl_intro Try.func144 rfl rfl rfl ?_
  have K : Keep [] h h := Keep.refl _ _
  refine tr_seq ?_
  refine tr_reg ?_
  refine rs_v (v_assign rfl) rfl ?_
  refine rs_nil ?_
  refine q_thn ?_
  refine tr_seq ?_
  refine tr_reg ?_
  refine rs_v (v_move rfl) rfl ?_
  refine rs_v (v_move rfl) rfl ?_
  refine rs_v (v_nilCheck_ptr rfl) rfl ?_
  refine rs_v (v_fieldAddr fa_keyspan_DefragmentingIter_3 rfl) rfl ?_
  refine rs_v (v_load one_keyspan_FragmentIterator rfl (by exact Bc.cell _ rfl)) rfl ?_
  refine rs_w (w_mcall (vs := []) (hit.last D.it) rfl trivial) rfl ?_
  rintro r1 h1 hp1
  skip
  have DFF := D.ff
  obtain ⟨Fin2, D, hF2, _, KF2, hret2⟩ := D.inner hit hp1
  obtain ⟨qv2, rfl, _⟩ := hret2.form
  have hKz := KP.1
  have hFF2 : ∀ b, _ → F0 b ∨ h.size ≤ b := fun b hb => Or.elim hb (hFF b) (fun e => (hF2 b e).elim (fun e9 => hFF b (DFF b e9)) (fun e9 => Or.inr (by omega)))
  have KP := KP.trans KF2 hFF
  have hFF := hFF2
  have Bc := D.bc
  refine rs_v (v_nilCheck_ptr rfl) rfl ?_
  refine rs_v (v_fieldAddr fa_keyspan_DefragmentingIter_4 rfl) rfl ?_
  refine rs_w0 (w_put siz_p_keyspan_Span rfl rfl rfl rfl Bc rfl) ?_
  rintro _ h2 ⟨B2, K2⟩
  have hret1 := Ret.stab hret2 (K2.stab (A := Fin2) fun b hb => ⟨D.lo b (D.ff b hb), fun hm => D.di.fc (by rw [List.mem_singleton] at hm; subst hm; exact hb)⟩)
  have D := D.putC hit (sp' := .pointer qv2) (z' := z) K2 B2
  have KP := KP.trans (K2.kp hcF) (fun _ h => .inl h)
  have Bc := D.bc
  refine rs_nil ?_
  refine q_thn ?_
  refine tr_seq ?_
  refine tr_seq ?_
  refine tr_reg ?_
  refine rs_v (v_move rfl) rfl ?_
  refine rs_v (v_nilCheck_ptr rfl) rfl ?_
  refine rs_v (v_fieldAddr fa_keyspan_DefragmentingIter_4 rfl) rfl ?_
  refine rs_v (v_load one_p_keyspan_Span rfl (by exact Bc.cell _ rfl)) rfl ?_
  refine rs_v (v_peq u_p_keyspan_Span rfl rfl) rfl ?_
  refine rs_nil ?_
  refine q_thn ?_
  refine tr_if rfl (fun hif => ?_) (fun hif => ?_)
  · -- yes
    have hq := ret_gen (P := ¬ W.length = 0) (i := (W.length - 1)) (q0 := .nowhere) (by simp only [pLast]; split <;> simp_all) (by omega) (by simp [cur]) hret1
    rcases hq with ⟨rfl, hW⟩ | ⟨hW, hq, x2, o2, rfl, _, _⟩
    rotate_left
    · simp at hif
    refine tr_seq ?_
    refine tr_reg ?_
    refine rs_v (v_move rfl) rfl ?_
    refine rs_v (v_nilCheck_ptr rfl) rfl ?_
    refine rs_v (v_fieldAddr fa_keyspan_DefragmentingIter_5 rfl) rfl ?_
    refine rs_w0 (w_put siz_keyspan_iterPos rfl rfl rfl rfl Bc rfl) ?_
    rintro _ h3 ⟨B3, K3⟩
    have hret1 := Ret.stab hret1 (K3.stab (A := _) fun b hb => ⟨D.lo b (D.ff b hb), fun hm => D.di.fc (by rw [List.mem_singleton] at hm; subst hm; exact hb)⟩)
    have D := D.putC hit (sp' := .pointer none) (z' := 0) K3 B3
    have KP := KP.trans (K3.kp hcF) (fun _ h => .inl h)
    refine rs_nil ?_
    refine q_thn ?_
    refine tr_seq ?_
    refine tr_reg ?_
    refine rs_v (v_assign rfl) rfl ?_
    refine rs_nil ?_
    refine q_thn ?_
    refine tr_ret ?_
    refine q_thn_ret ?_
    refine q_ret (res_tmp rfl rfl) ?_
    rw [show dfr W = [] from dfr_nil (by omega), show pLast ([] : List SpanD) = .nowhere from rfl, ← show dfr W = [] from dfr_nil (by omega)]
    exact di_post hlF hF0 hFc hcm Bq D hret1 (.inl rfl) KP hFF (by unfold Ret; rw [show cur (dfr W) .nowhere = none from rfl])
  -- no
  have hq := ret_gen (P := ¬ W.length = 0) (i := (W.length - 1)) (q0 := .nowhere) (by simp only [pLast]; split <;> simp_all) (by omega) (by simp [cur]) hret1
  rcases hq with ⟨rfl, hW⟩ | ⟨hW, hq, x2, o2, rfl, _, _⟩
  · simp at hif
  rw [hq] at D hret1
  refine tr_skip ?_
  refine q_thn ?_
  refine tr_seq ?_
  refine tr_reg ?_
  refine rs_v (v_move rfl) rfl ?_
  refine rs_w (w_call (vs := [_]) ok_keyspan_DefragmentingIter_defragmentBackward rfl ⟨rfl, trivial⟩ (c_defragmentBackward hit hgood D (by omega) hret1)) rfl ?_
  rintro r4 h4 ⟨b3, Fin3, F3, sp3, sv3, ev3, kv3, a3, ksv3, kbv3, nk3, xk3, nb3, xb3, hrun3, hend3, D, hret, rfl, hps3, KP3, hF3⟩
  obtain ⟨qv3, rfl, _⟩ := hret.form
  have hKz := KP.1
  have KP := KP.trans KP3 hFF
  have hFF : ∀ b, F3 b → F0 b ∨ h.size ≤ b := fun b hb => (hF3 b hb).elim (hFF b) (fun e9 => Or.inr (by omega))
  have Bc := D.bc
  refine rs_v (v_assign rfl) rfl ?_
  refine rs_nil ?_
  refine q_thn ?_
  refine tr_ret ?_
  refine q_ret (res_tmp rfl rfl) ?_
  have hW0 : 0 < W.length := by omega
  have hg : Grp W b3 W.length := ⟨hend3, by rw [show W.length = W.length - 1 + 1 from by omega]; exact hrun3, .inl rfl⟩
  rw [grp_last hg]
  exact di_post hlF hF0 hFc hcm Bq D hret (.inr (.inr (.inr ⟨b3, W.length, rfl, hg, .inr ⟨rfl, rfl⟩⟩))) KP hFF (ret_grp hg D.fc (by rw [show W.length - 1 + 1 = W.length from by omega] at hps3; exact hps3))
end Go.Proofs.Ytgebfbnndgjkiaa
namespace Go.Proofs.Ytgebfbnndgjkiaa
open Go.Tess Go.RowKit
set_option maxRecDepth 100000
set_option maxHeartbeats 1000000
theorem c_DiNextS (χ : Chi) {W : List SpanD} {I : ItI} {t : TypeId} {v0 : Value} {cmb c cb : Nat} {F : Nat → Prop} {h : Heap} {x y : Nat} (hg : Grp W x y) (hit : IterOK Try.prog χ W t v0 I) (hgood : GoodD W)
    (hI : ∃ Fin F0 sp sv ev kv a ksv kbv nk xk nb xb s0, DSt W I t v0 (.pointer (some ⟨cmb, 0, none⟩)) c cb (nxtP W y) Fin F0 h sp 1 sv ev kv a ksv kbv nk xk nb xb ∧ Ret W (nxtP W y) Fin h sp ∧ ¬ F0 cmb ∧ (∀ b, F0 b → F b) ∧ F cmb ∧ Low F h ∧ Blk h cmb (cmpL s0) 119) :
    Cl Try.prog χ 145 #[.pointer (some ⟨c, 0, none⟩)] h (ItPost (dfr W) (DIt W I t v0 cmb c cb) F h (pNext (dfr W) (.pt (nG W x)))) := by
  obtain ⟨Fin, F0, sp, sv, ev, kv, a, ksv, kbv, nk, xk, nb, xb, s0, D, hret, hcm, hF0, hFc, hlF, Bq⟩ := hI
  have KP := KeepP.refl F0 h
  have hFF : ∀ b, F0 b → F0 b ∨ h.size ≤ b := fun b hb => .inl hb
  have hcF : ∀ x, x ∈ [c] → F0 x := fun x hx => by rw [List.mem_singleton] at hx; subst hx; exact D.fc
  have Bc := D.bc
  obtain ⟨qv, rfl, _⟩ := hret.form
  have hqq := ret_nxt hret
  have hgr := hg.2.1.1
  have hgr2 := hg.2.1.2.1
  refine cl_intro Try.func145 rfl rfl rfl ?_
  have K : Keep [] h h := Keep.refl _ _
  refine tr_seq ?_
  refine tr_reg ?_
  refine rs_v (v_assign rfl) rfl ?_
  refine rs_nil ?_
  refine q_thn ?_
  refine tr_seq ?_
  refine tr_reg ?_
  refine rs_v (v_move rfl) rfl ?_
  refine rs_v (v_nilCheck_ptr rfl) rfl ?_
  refine rs_v (v_fieldAddr fa_keyspan_DefragmentingIter_5 rfl) rfl ?_
  refine rs_v (v_load one_keyspan_iterPos rfl (by exact Bc.cell _ rfl)) rfl ?_
  refine rs_nil ?_
  refine q_thn ?_
  refine tr_block ?_
  refine tr_seq ?_
  refine tr_reg ?_
  refine rs_v (v_eq rfl rfl) rfl ?_
  refine rs_v (v_assign rfl) rfl ?_
  refine rs_nil ?_
  refine q_thn ?_
  refine tr_if_f rfl ?_
  refine tr_seq ?_
  refine tr_reg ?_
  refine rs_v (v_eq rfl rfl) rfl ?_
  refine rs_v (v_assign rfl) rfl ?_
  refine rs_nil ?_
  refine q_thn ?_
  refine tr_if_f rfl ?_
  refine tr_seq ?_
  refine tr_reg ?_
  refine rs_v (v_eq rfl rfl) rfl ?_
  refine rs_v (v_assign rfl) rfl ?_
  refine rs_nil ?_
  refine q_thn ?_
  refine tr_if_t rfl ?_
  refine tr_seq ?_
  refine tr_seq ?_
  refine tr_reg ?_
  refine rs_v (v_move rfl) rfl ?_
  refine rs_v (v_nilCheck_ptr rfl) rfl ?_
  refine rs_v (v_fieldAddr fa_keyspan_DefragmentingIter_4 rfl) rfl ?_
  refine rs_v (v_load one_p_keyspan_Span rfl (by exact Bc.cell _ rfl)) rfl ?_
  refine rs_v (v_peq u_p_keyspan_Span rfl rfl) rfl ?_
  refine rs_nil ?_
  refine q_thn ?_
  refine tr_if rfl (fun hif => ?_) (fun hif => ?_)
  · -- yes
    rcases hqq with ⟨rfl, hb⟩ | ⟨hb, x2, o2, rfl, _, _⟩
    rotate_left
    · simp at hif
    have hret1 := hret
    refine tr_seq ?_
    refine tr_reg ?_
    refine rs_v (v_move rfl) rfl ?_
    refine rs_v (v_nilCheck_ptr rfl) rfl ?_
    refine rs_v (v_fieldAddr fa_keyspan_DefragmentingIter_5 rfl) rfl ?_
    refine rs_w0 (w_put siz_keyspan_iterPos rfl rfl rfl rfl Bc rfl) ?_
    rintro _ h1 ⟨B1, K1⟩
    have hret1 := Ret.stab hret1 (K1.stab (A := _) fun b hb => ⟨D.lo b (D.ff b hb), fun hm => D.di.fc (by rw [List.mem_singleton] at hm; subst hm; exact hb)⟩)
    have D := D.putC hit (sp' := .pointer none) (z' := 0) K1 B1
    have KP := KP.trans (K1.kp hcF) (fun _ h => .inl h)
    refine rs_nil ?_
    refine q_thn ?_
    refine tr_seq ?_
    refine tr_reg ?_
    refine rs_v (v_assign rfl) rfl ?_
    refine rs_nil ?_
    refine q_thn ?_
    refine tr_ret ?_
    refine q_thn_ret ?_
    refine q_blk_ret ?_
    refine q_ret (res_tmp rfl rfl) ?_
    rw [grp_next hg, if_neg (by omega)]
    exact di_post hlF hF0 hFc hcm Bq D hret1 (.inr (.inl ⟨rfl, if_neg hb, rfl⟩)) KP hFF (by unfold Ret; rw [show cur (dfr W) .behind = none from rfl])
  -- no
  rcases hqq with ⟨rfl, hb⟩ | ⟨hb, x2, o2, rfl, _, _⟩
  · simp at hif
  rw [show nxtP W y = .pt y from if_pos hb] at D hret
  refine tr_skip ?_
  refine q_thn ?_
  refine tr_seq ?_
  refine tr_reg ?_
  refine rs_v (v_move rfl) rfl ?_
  refine rs_w (w_call (vs := [_]) ok_keyspan_DefragmentingIter_defragmentForward rfl ⟨rfl, trivial⟩ (c_defragmentForward hit hgood D (by omega) hret)) rfl ?_
  rintro r2 h2 ⟨b3, Fin3, F3, sp3, sv3, ev3, kv3, a3, ksv3, kbv3, nk3, xk3, nb3, xb3, hrun3, hend3, D, hret, rfl, hps9, KP3, hF3⟩
  obtain ⟨qv3, rfl, _⟩ := hret.form
  have hKz := KP.1
  have KP := KP.trans KP3 hFF
  have hFF : ∀ b, F3 b → F0 b ∨ h.size ≤ b := fun b hb => (hF3 b hb).elim (hFF b) (fun e9 => Or.inr (by omega))
  have Bc := D.bc
  refine rs_v (v_assign rfl) rfl ?_
  refine rs_nil ?_
  refine q_thn ?_
  refine tr_ret ?_
  refine q_blk_ret ?_
  refine q_ret (res_tmp rfl rfl) ?_
  have hg3 : Grp W y b3 := ⟨beg_of_end hg.2.2 hb, hrun3, hend3⟩
  rw [grp_next hg, if_pos (by omega)]
  exact di_post hlF hF0 hFc hcm Bq D hret (.inr (.inr (.inr ⟨y, b3, rfl, hg3, .inl ⟨rfl, rfl⟩⟩))) KP hFF (ret_grp hg3 D.fc hps9)
theorem c_DiNextN (χ : Chi) {W : List SpanD} {I : ItI} {t : TypeId} {v0 : Value} {cmb c cb : Nat} {F : Nat → Prop} {h : Heap}  (hit : IterOK Try.prog χ W t v0 I) (hgood : GoodD W)
    (hI : ∃ Fin F0 sp sv ev kv a ksv kbv nk xk nb xb s0, DSt W I t v0 (.pointer (some ⟨cmb, 0, none⟩)) c cb (.ahead) Fin F0 h sp 0 sv ev kv a ksv kbv nk xk nb xb ∧ Ret W (.ahead) Fin h sp ∧ ¬ F0 cmb ∧ (∀ b, F0 b → F b) ∧ F cmb ∧ Low F h ∧ Blk h cmb (cmpL s0) 119) :
    Cl Try.prog χ 145 #[.pointer (some ⟨c, 0, none⟩)] h (ItPost (dfr W) (DIt W I t v0 cmb c cb) F h (pNext (dfr W) .ahead)) := by
  obtain ⟨Fin, F0, sp, sv, ev, kv, a, ksv, kbv, nk, xk, nb, xb, s0, D, hret, hcm, hF0, hFc, hlF, Bq⟩ := hI
  have KP := KeepP.refl F0 h
  have hFF : ∀ b, F0 b → F0 b ∨ h.size ≤ b := fun b hb => .inl hb
  have hcF : ∀ x, x ∈ [c] → F0 x := fun x hx => by rw [List.mem_singleton] at hx; subst hx; exact D.fc
  have Bc := D.bc
  refine cl_intro Try.func145 rfl rfl rfl ?_
  have K : Keep [] h h := Keep.refl _ _
  refine tr_seq ?_
  refine tr_reg ?_
  refine rs_v (v_assign rfl) rfl ?_
  refine rs_nil ?_
  refine q_thn ?_
  refine tr_seq ?_
  refine tr_reg ?_
  refine rs_v (v_move rfl) rfl ?_
  refine rs_v (v_nilCheck_ptr rfl) rfl ?_
  refine rs_v (v_fieldAddr fa_keyspan_DefragmentingIter_5 rfl) rfl ?_
  refine rs_v (v_load one_keyspan_iterPos rfl (by exact Bc.cell _ rfl)) rfl ?_
  refine rs_nil ?_
  refine q_thn ?_
  refine tr_block ?_
  refine tr_seq ?_
  refine tr_reg ?_
  refine rs_v (v_eq rfl rfl) rfl ?_
  refine rs_v (v_assign rfl) rfl ?_
  refine rs_nil ?_
  refine q_thn ?_
  refine tr_if_f rfl ?_
  refine tr_seq ?_
  refine tr_reg ?_
  refine rs_v (v_eq rfl rfl) rfl ?_
  refine rs_v (v_assign rfl) rfl ?_
  refine rs_nil ?_
  refine q_thn ?_
  refine tr_if_t rfl ?_
  refine tr_seq ?_
  refine tr_seq ?_
  refine tr_reg ?_
  refine rs_v (v_move rfl) rfl ?_
  refine rs_gs rfl (rfl) rfl rfl ?_
  refine rs_gs rfl (rfl) rfl rfl ?_
  refine rs_gs rfl (rfl) rfl rfl ?_
  refine rs_gs rfl (rfl) rfl rfl ?_
  refine rs_gs rfl (rfl) rfl rfl ?_
  refine rs_v (v_pick_f rfl rfl) rfl ?_
  refine rs_v (v_move rfl) rfl ?_
  refine rs_gs rfl (rfl) rfl rfl ?_
  refine rs_gs rfl (rfl) rfl rfl ?_
  refine rs_gs rfl (rfl) rfl rfl ?_
  refine rs_gs rfl (rfl) rfl rfl ?_
  refine rs_gs rfl (rfl) rfl rfl ?_
  refine rs_gs rfl (rfl) rfl rfl ?_
  refine rs_v (v_pick_f rfl rfl) rfl ?_
  refine rs_nil ?_
  refine q_thn ?_
  refine tr_if_f rfl ?_
  refine tr_skip ?_
  refine q_thn ?_
  refine tr_seq ?_
  refine tr_reg ?_
  refine rs_v (v_move rfl) rfl ?_
  refine rs_v (v_move rfl) rfl ?_
  refine rs_v (v_nilCheck_ptr rfl) rfl ?_
  refine rs_v (v_fieldAddr fa_keyspan_DefragmentingIter_3 rfl) rfl ?_
  refine rs_v (v_load one_keyspan_FragmentIterator rfl (by exact Bc.cell _ rfl)) rfl ?_
  refine rs_w (w_mcall (vs := []) (hit.next D.it rfl) rfl trivial) rfl ?_
  rintro r1 h1 hp1
  skip
  have DFF := D.ff
  obtain ⟨Fin2, D, hF2, _, KF2, hret2⟩ := D.inner hit hp1
  obtain ⟨qv2, rfl, _⟩ := hret2.form
  have hKz := KP.1
  have hFF2 : ∀ b, _ → F0 b ∨ h.size ≤ b := fun b hb => Or.elim hb (hFF b) (fun e => (hF2 b e).elim (fun e9 => hFF b (DFF b e9)) (fun e9 => Or.inr (by omega)))
  have KP := KP.trans KF2 hFF
  have hFF := hFF2
  have Bc := D.bc
  refine rs_v (v_nilCheck_ptr rfl) rfl ?_
  refine rs_v (v_fieldAddr fa_keyspan_DefragmentingIter_4 rfl) rfl ?_
  refine rs_w0 (w_put siz_p_keyspan_Span rfl rfl rfl rfl Bc rfl) ?_
  rintro _ h2 ⟨B2, K2⟩
  have hret1 := Ret.stab hret2 (K2.stab (A := Fin2) fun b hb => ⟨D.lo b (D.ff b hb), fun hm => D.di.fc (by rw [List.mem_singleton] at hm; subst hm; exact hb)⟩)
  have D := D.putC hit (sp' := .pointer qv2) (z' := 0) K2 B2
  have KP := KP.trans (K2.kp hcF) (fun _ h => .inl h)
  have Bc := D.bc
  refine rs_nil ?_
  refine q_thn ?_
  refine tr_seq ?_
  refine tr_seq ?_
  refine tr_reg ?_
  refine rs_v (v_move rfl) rfl ?_
  refine rs_v (v_nilCheck_ptr rfl) rfl ?_
  refine rs_v (v_fieldAddr fa_keyspan_DefragmentingIter_4 rfl) rfl ?_
  refine rs_v (v_load one_p_keyspan_Span rfl (by exact Bc.cell _ rfl)) rfl ?_
  refine rs_v (v_peq u_p_keyspan_Span rfl rfl) rfl ?_
  refine rs_nil ?_
  refine q_thn ?_
  refine tr_if rfl (fun hif => ?_) (fun hif => ?_)
  · -- yes
    have hq := ret_gen (P := 0 < W.length) (i := 0) (q0 := .behind) (by simp only [pNext]) (by omega) (by simp [cur]) hret1
    rcases hq with ⟨rfl, hW⟩ | ⟨hW, hq, x2, o2, rfl, _, _⟩
    rotate_left
    · simp at hif
    have hWn : W = [] := List.eq_nil_of_length_eq_zero (by omega)
    refine tr_seq ?_
    refine tr_reg ?_
    refine rs_v (v_assign rfl) rfl ?_
    refine rs_nil ?_
    refine q_thn ?_
    refine tr_ret ?_
    refine q_thn_ret ?_
    refine q_blk_ret ?_
    refine q_ret (res_tmp rfl rfl) ?_
    subst hWn
    exact di_post hlF hF0 hFc hcm Bq D hret1 (.inr (.inl ⟨rfl, rfl, rfl⟩)) KP hFF (by unfold Ret; rw [show cur (dfr []) .behind = none from rfl])
  -- no
  have hq := ret_gen (P := 0 < W.length) (i := 0) (q0 := .behind) (by simp only [pNext]) (by omega) (by simp [cur]) hret1
  rcases hq with ⟨rfl, hW⟩ | ⟨hW, hq, x2, o2, rfl, _, _⟩
  · simp at hif
  rw [hq] at D hret1
  refine tr_skip ?_
  refine q_thn ?_
  refine tr_seq ?_
  refine tr_reg ?_
  refine rs_v (v_move rfl) rfl ?_
  refine rs_w (w_call (vs := [_]) ok_keyspan_DefragmentingIter_defragmentForward rfl ⟨rfl, trivial⟩ (c_defragmentForward hit hgood D (by omega) hret1)) rfl ?_
  rintro r3 h3 ⟨b3, Fin3, F3, sp3, sv3, ev3, kv3, a3, ksv3, kbv3, nk3, xk3, nb3, xb3, hrun3, hend3, D, hret, rfl, hps9, KP3, hF3⟩
  obtain ⟨qv3, rfl, _⟩ := hret.form
  have hKz := KP.1
  have KP := KP.trans KP3 hFF
  have hFF : ∀ b, F3 b → F0 b ∨ h.size ≤ b := fun b hb => (hF3 b hb).elim (hFF b) (fun e9 => Or.inr (by omega))
  have Bc := D.bc
  refine rs_v (v_assign rfl) rfl ?_
  refine rs_nil ?_
  refine q_thn ?_
  refine tr_ret ?_
  refine q_blk_ret ?_
  refine q_ret (res_tmp rfl rfl) ?_
  have hg3 : Grp W 0 b3 := ⟨.inl rfl, hrun3, hend3⟩
  rw [grp_ahead hW]
  exact di_post hlF hF0 hFc hcm Bq D hret (.inr (.inr (.inr ⟨0, b3, rfl, hg3, .inl ⟨rfl, rfl⟩⟩))) KP hFF (ret_grp hg3 D.fc hps9)
theorem c_DiNextT (χ : Chi) {W : List SpanD} {I : ItI} {t : TypeId} {v0 : Value} {cmb c cb : Nat} {F : Nat → Prop} {h : Heap} {x y : Nat} (hg : Grp W x y) (hit : IterOK Try.prog χ W t v0 I) (hgood : GoodD W)
    (hI : ∃ Fin F0 sp sv ev kv a ksv kbv nk xk nb xb s0, DSt W I t v0 (.pointer (some ⟨cmb, 0, none⟩)) c cb (prvP x) Fin F0 h sp (-1) sv ev kv a ksv kbv nk xk nb xb ∧ Ret W (prvP x) Fin h sp ∧ ¬ F0 cmb ∧ (∀ b, F0 b → F b) ∧ F cmb ∧ Low F h ∧ Blk h cmb (cmpL s0) 119) :
    Cl Try.prog χ 145 #[.pointer (some ⟨c, 0, none⟩)] h (ItPost (dfr W) (DIt W I t v0 cmb c cb) F h (pNext (dfr W) (.pt (nG W x)))) := by
  obtain ⟨Fin, F0, sp, sv, ev, kv, a, ksv, kbv, nk, xk, nb, xb, s0, D, hret, hcm, hF0, hFc, hlF, Bq⟩ := hI
  have KP := KeepP.refl F0 h
  have hFF : ∀ b, F0 b → F0 b ∨ h.size ≤ b := fun b hb => .inl hb
  have hcF : ∀ x, x ∈ [c] → F0 x := fun x hx => by rw [List.mem_singleton] at hx; subst hx; exact D.fc
  have Bc := D.bc
  have hgr := hg.2.1.1
  have hgr2 := hg.2.1.2.1
  refine cl_intro Try.func145 rfl rfl rfl ?_
  have K : Keep [] h h := Keep.refl _ _
  refine tr_seq ?_
  refine tr_reg ?_
  refine rs_v (v_assign rfl) rfl ?_
  refine rs_nil ?_
  refine q_thn ?_
  refine tr_seq ?_
  refine tr_reg ?_
  refine rs_v (v_move rfl) rfl ?_
  refine rs_v (v_nilCheck_ptr rfl) rfl ?_
  refine rs_v (v_fieldAddr fa_keyspan_DefragmentingIter_5 rfl) rfl ?_
  refine rs_v (v_load one_keyspan_iterPos rfl (by exact Bc.cell _ rfl)) rfl ?_
  refine rs_nil ?_
  refine q_thn ?_
  refine tr_block ?_
  refine tr_seq ?_
  refine tr_reg ?_
  refine rs_v (v_eq rfl rfl) rfl ?_
  refine rs_v (v_assign rfl) rfl ?_
  refine rs_nil ?_
  refine q_thn ?_
  refine tr_if_t rfl ?_
  refine tr_seq ?_
  refine tr_reg ?_
  refine rs_v (v_move rfl) rfl ?_
  refine rs_v (v_move rfl) rfl ?_
  refine rs_v (v_nilCheck_ptr rfl) rfl ?_
  refine rs_v (v_fieldAddr fa_keyspan_DefragmentingIter_3 rfl) rfl ?_
  refine rs_v (v_load one_keyspan_FragmentIterator rfl (by exact Bc.cell _ rfl)) rfl ?_
  refine rs_w (w_mcall (vs := []) (hit.next D.it (by unfold prvP; split <;> rfl)) rfl trivial) rfl ?_
  rintro r1 h1 hp1
  rw [next_prv (a := x) (by omega)] at hp1
  have DFF := D.ff
  obtain ⟨Fin2, D, hF2, _, KF2, hret2⟩ := D.inner hit hp1
  obtain ⟨qv2, rfl, _⟩ := hret2.form
  have hKz := KP.1
  have hFF2 : ∀ b, _ → F0 b ∨ h.size ≤ b := fun b hb => Or.elim hb (hFF b) (fun e => (hF2 b e).elim (fun e9 => hFF b (DFF b e9)) (fun e9 => Or.inr (by omega)))
  have KP := KP.trans KF2 hFF
  have hFF := hFF2
  have Bc := D.bc
  refine rs_v (v_nilCheck_ptr rfl) rfl ?_
  refine rs_v (v_fieldAddr fa_keyspan_DefragmentingIter_4 rfl) rfl ?_
  refine rs_w0 (w_put siz_p_keyspan_Span rfl rfl rfl rfl Bc rfl) ?_
  rintro _ h2 ⟨B2, K2⟩
  have hret1 := Ret.stab hret2 (K2.stab (A := Fin2) fun b hb => ⟨D.lo b (D.ff b hb), fun hm => D.di.fc (by rw [List.mem_singleton] at hm; subst hm; exact hb)⟩)
  have D := D.putC hit (sp' := .pointer qv2) (z' := (-1)) K2 B2
  have KP := KP.trans (K2.kp hcF) (fun _ h => .inl h)
  have Bc := D.bc
  refine rs_nil ?_
  refine q_thn ?_
  refine tr_seq ?_
  refine tr_seq ?_
  refine tr_reg ?_
  refine rs_v (v_move rfl) rfl ?_
  refine rs_gs rfl (rfl) rfl rfl ?_
  refine rs_gs rfl (rfl) rfl rfl ?_
  refine rs_gs rfl (rfl) rfl rfl ?_
  refine rs_gs rfl (rfl) rfl rfl ?_
  refine rs_gs rfl (rfl) rfl rfl ?_
  refine rs_v (v_pick_f rfl rfl) rfl ?_
  refine rs_v (v_move rfl) rfl ?_
  refine rs_gs rfl (rfl) rfl rfl ?_
  refine rs_gs rfl (rfl) rfl rfl ?_
  refine rs_gs rfl (rfl) rfl rfl ?_
  refine rs_gs rfl (rfl) rfl rfl ?_
  refine rs_gs rfl (rfl) rfl rfl ?_
  refine rs_gs rfl (rfl) rfl rfl ?_
  refine rs_v (v_pick_f rfl rfl) rfl ?_
  refine rs_nil ?_
  refine q_thn ?_
  refine tr_if_f rfl ?_
  refine tr_skip ?_
  refine q_thn ?_
  refine tr_seq ?_
  refine tr_reg ?_
  refine rs_v (v_move rfl) rfl ?_
  refine rs_w (w_call (vs := [_]) ok_keyspan_DefragmentingIter_defragmentForward rfl ⟨rfl, trivial⟩ (c_defragmentForward hit hgood D (by omega) hret1)) rfl ?_
  rintro r3 h3 ⟨b3, Fin3, F3, sp3, sv3, ev3, kv3, a3, ksv3, kbv3, nk3, xk3, nb3, xb3, hrun3, hend3, D, hret, rfl, hps3, KP3, hF3⟩
  obtain ⟨qv3, rfl, _⟩ := hret.form
  have hKz := KP.1
  have KP := KP.trans KP3 hFF
  have hFF : ∀ b, F3 b → F0 b ∨ h.size ≤ b := fun b hb => (hF3 b hb).elim (hFF b) (fun e9 => Or.inr (by omega))
  have Bc := D.bc
  have hg4 : Grp W x b3 := ⟨hg.1, hrun3, hend3⟩
  have hgr4 := hg4.2.1.1
  have hgr5 := hg4.2.1.2.1
  have hqq := ret_nxt hret
  refine rs_nil ?_
  refine q_thn ?_
  refine tr_seq ?_
  refine tr_seq ?_
  refine tr_reg ?_
  refine rs_v (v_move rfl) rfl ?_
  refine rs_v (v_nilCheck_ptr rfl) rfl ?_
  refine rs_v (v_fieldAddr fa_keyspan_DefragmentingIter_4 rfl) rfl ?_
  refine rs_v (v_load one_p_keyspan_Span rfl (by exact Bc.cell _ rfl)) rfl ?_
  refine rs_v (v_peq u_p_keyspan_Span rfl rfl) rfl ?_
  refine rs_nil ?_
  refine q_thn ?_
  refine tr_if rfl (fun hif => ?_) (fun hif => ?_)
  · -- yes
    rcases hqq with ⟨rfl, hb⟩ | ⟨hb, x2, o2, rfl, _, _⟩
    rotate_left
    · simp at hif
    have hret1 := hret
    refine tr_seq ?_
    refine tr_reg ?_
    refine rs_v (v_move rfl) rfl ?_
    refine rs_v (v_nilCheck_ptr rfl) rfl ?_
    refine rs_v (v_fieldAddr fa_keyspan_DefragmentingIter_5 rfl) rfl ?_
    refine rs_w0 (w_put siz_keyspan_iterPos rfl rfl rfl rfl Bc rfl) ?_
    rintro _ h4 ⟨B4, K4⟩
    have hret1 := Ret.stab hret1 (K4.stab (A := _) fun b hb => ⟨D.lo b (D.ff b hb), fun hm => D.di.fc (by rw [List.mem_singleton] at hm; subst hm; exact hb)⟩)
    have D := D.putC hit (sp' := .pointer none) (z' := 0) K4 B4
    have KP := KP.trans (K4.kp hcF) (fun _ h => .inl h)
    refine rs_nil ?_
    refine q_thn ?_
    refine tr_seq ?_
    refine tr_reg ?_
    refine rs_v (v_assign rfl) rfl ?_
    refine rs_nil ?_
    refine q_thn ?_
    refine tr_ret ?_
    refine q_thn_ret ?_
    refine q_blk_ret ?_
    refine q_ret (res_tmp rfl rfl) ?_
    rw [grp_next hg4, if_neg (by omega)]
    exact di_post hlF hF0 hFc hcm Bq D hret1 (.inr (.inl ⟨rfl, if_neg hb, rfl⟩)) KP hFF (by unfold Ret; rw [show cur (dfr W) .behind = none from rfl])
  -- no
  rcases hqq with ⟨rfl, hb⟩ | ⟨hb, x2, o2, rfl, _, _⟩
  · simp at hif
  rw [show nxtP W b3 = .pt b3 from if_pos hb] at D hret
  refine tr_skip ?_
  refine q_thn ?_
  refine tr_seq ?_
  refine tr_reg ?_
  refine rs_v (v_move rfl) rfl ?_
  refine rs_w (w_call (vs := [_]) ok_keyspan_DefragmentingIter_defragmentForward rfl ⟨rfl, trivial⟩ (c_defragmentForward hit hgood D (by omega) hret)) rfl ?_
  rintro r5 h5 ⟨b9, Fin3, F3, sp3, sv3, ev3, kv3, a3, ksv3, kbv3, nk3, xk3, nb9, xb9, hrun9, hend9, D, hret, rfl, hps9, KP3, hF3⟩
  obtain ⟨qv3, rfl, _⟩ := hret.form
  have hKz := KP.1
  have KP := KP.trans KP3 hFF
  have hFF : ∀ b, F3 b → F0 b ∨ h.size ≤ b := fun b hb => (hF3 b hb).elim (hFF b) (fun e9 => Or.inr (by omega))
  have Bc := D.bc
  refine rs_v (v_assign rfl) rfl ?_
  refine rs_nil ?_
  refine q_thn ?_
  refine tr_ret ?_
  refine q_blk_ret ?_
  refine q_ret (res_tmp rfl rfl) ?_
  have hg3 : Grp W b3 b9 := ⟨beg_of_end hend3 hb, hrun9, hend9⟩
  rw [grp_next hg4, if_pos (by omega)]
  exact di_post hlF hF0 hFc hcm Bq D hret (.inr (.inr (.inr ⟨b3, b9, rfl, hg3, .inl ⟨rfl, rfl⟩⟩))) KP hFF (ret_grp hg3 D.fc hps9)
theorem c_DiNext (χ : Chi) {W : List SpanD} {I : ItI} {t : TypeId} {v0 : Value} {cmb c cb : Nat} {p : Pos} {F : Nat → Prop} {h : Heap} (hit : IterOK Try.prog χ W t v0 I) (hgood : GoodD W) (hI : DIt W I t v0 cmb c cb p F h) (hc : canNext p = true) :
    Cl Try.prog χ 145 #[.pointer (some ⟨c, 0, none⟩)] h (ItPost (dfr W) (DIt W I t v0 cmb c cb) F h (pNext (dfr W) p)) := by
  obtain ⟨q, Fin, F0, sp, z, sv, ev, kv, a, ksv, kbv, nk, xk, nb, xb, s0, D, hret, hrel, hcm, hF0, hFc, hlF, Bq⟩ := hI
  rcases hrel with rfl | ⟨rfl, rfl, rfl⟩ | ⟨rfl, rfl, rfl⟩ | ⟨x, y, rfl, hg, ⟨rfl, rfl⟩ | ⟨rfl, rfl⟩⟩
  · simp [canNext] at hc
  · simp [canNext] at hc
  · exact c_DiNextN χ hit hgood ⟨Fin, F0, sp, sv, ev, kv, a, ksv, kbv, nk, xk, nb, xb, s0, D, hret, hcm, hF0, hFc, hlF, Bq⟩
  · exact c_DiNextS χ hg hit hgood ⟨Fin, F0, sp, sv, ev, kv, a, ksv, kbv, nk, xk, nb, xb, s0, D, hret, hcm, hF0, hFc, hlF, Bq⟩
  · exact c_DiNextT χ hg hit hgood ⟨Fin, F0, sp, sv, ev, kv, a, ksv, kbv, nk, xk, nb, xb, s0, D, hret, hcm, hF0, hFc, hlF, Bq⟩
theorem c_DiPrevS (χ : Chi) {W : List SpanD} {I : ItI} {t : TypeId} {v0 : Value} {cmb c cb : Nat} {F : Nat → Prop} {h : Heap} {x y : Nat} (hg : Grp W x y) (hit : IterOK Try.prog χ W t v0 I) (hgood : GoodD W)
    (hI : ∃ Fin F0 sp sv ev kv a ksv kbv nk xk nb xb s0, DSt W I t v0 (.pointer (some ⟨cmb, 0, none⟩)) c cb (prvP x) Fin F0 h sp (-1) sv ev kv a ksv kbv nk xk nb xb ∧ Ret W (prvP x) Fin h sp ∧ ¬ F0 cmb ∧ (∀ b, F0 b → F b) ∧ F cmb ∧ Low F h ∧ Blk h cmb (cmpL s0) 119) :
    Cl Try.prog χ 146 #[.pointer (some ⟨c, 0, none⟩)] h (ItPost (dfr W) (DIt W I t v0 cmb c cb) F h (pPrev (dfr W) (.pt (nG W x)))) := by
  obtain ⟨Fin, F0, sp, sv, ev, kv, a, ksv, kbv, nk, xk, nb, xb, s0, D, hret, hcm, hF0, hFc, hlF, Bq⟩ := hI
  have KP := KeepP.refl F0 h
  have hFF : ∀ b, F0 b → F0 b ∨ h.size ≤ b := fun b hb => .inl hb
  have hcF : ∀ x, x ∈ [c] → F0 x := fun x hx => by rw [List.mem_singleton] at hx; subst hx; exact D.fc
  have Bc := D.bc
  obtain ⟨qv, rfl, _⟩ := hret.form
  have hqq := ret_prv (by have := hg.2.1.1; have := hg.2.1.2.1; omega) hret
  have hgr := hg.2.1.1
  have hgr2 := hg.2.1.2.1
  refine cl_intro Try.func146 rfl rfl rfl ?_
  have K : Keep [] h h := Keep.refl _ _
  refine tr_seq ?_
  refine tr_reg ?_
  refine rs_v (v_assign rfl) rfl ?_
  refine rs_nil ?_
  refine q_thn ?_
  refine tr_seq ?_
  refine tr_reg ?_
  refine rs_v (v_move rfl) rfl ?_
  refine rs_v (v_nilCheck_ptr rfl) rfl ?_
  refine rs_v (v_fieldAddr fa_keyspan_DefragmentingIter_5 rfl) rfl ?_
  refine rs_v (v_load one_keyspan_iterPos rfl (by exact Bc.cell _ rfl)) rfl ?_
  refine rs_nil ?_
  refine q_thn ?_
  refine tr_block ?_
  refine tr_seq ?_
  refine tr_reg ?_
  refine rs_v (v_eq rfl rfl) rfl ?_
  refine rs_v (v_assign rfl) rfl ?_
  refine rs_nil ?_
  refine q_thn ?_
  refine tr_if_t rfl ?_
  refine tr_seq ?_
  refine tr_seq ?_
  refine tr_reg ?_
  refine rs_v (v_move rfl) rfl ?_
  refine rs_v (v_nilCheck_ptr rfl) rfl ?_
  refine rs_v (v_fieldAddr fa_keyspan_DefragmentingIter_4 rfl) rfl ?_
  refine rs_v (v_load one_p_keyspan_Span rfl (by exact Bc.cell _ rfl)) rfl ?_
  refine rs_v (v_peq u_p_keyspan_Span rfl rfl) rfl ?_
  refine rs_nil ?_
  refine q_thn ?_
  refine tr_if rfl (fun hif => ?_) (fun hif => ?_)
  · -- yes
    rcases hqq with ⟨rfl, hb⟩ | ⟨hb, x2, o2, rfl, _, _⟩
    rotate_left
    · simp at hif
    have hret1 := hret
    refine tr_seq ?_
    refine tr_reg ?_
    refine rs_v (v_move rfl) rfl ?_
    refine rs_v (v_nilCheck_ptr rfl) rfl ?_
    refine rs_v (v_fieldAddr fa_keyspan_DefragmentingIter_5 rfl) rfl ?_
    refine rs_w0 (w_put siz_keyspan_iterPos rfl rfl rfl rfl Bc rfl) ?_
    rintro _ h1 ⟨B1, K1⟩
    have hret1 := Ret.stab hret1 (K1.stab (A := _) fun b hb => ⟨D.lo b (D.ff b hb), fun hm => D.di.fc (by rw [List.mem_singleton] at hm; subst hm; exact hb)⟩)
    have D := D.putC hit (sp' := .pointer none) (z' := 0) K1 B1
    have KP := KP.trans (K1.kp hcF) (fun _ h => .inl h)
    refine rs_nil ?_
    refine q_thn ?_
    refine tr_seq ?_
    refine tr_reg ?_
    refine rs_v (v_assign rfl) rfl ?_
    refine rs_nil ?_
    refine q_thn ?_
    refine tr_ret ?_
    refine q_thn_ret ?_
    refine q_blk_ret ?_
    refine q_ret (res_tmp rfl rfl) ?_
    rw [grp_prev (a2 := 0) hg (.inl (by omega)), if_pos (by omega)]
    exact di_post hlF hF0 hFc hcm Bq D hret1 (.inr (.inr (.inl ⟨rfl, if_pos hb, rfl⟩))) KP hFF (by unfold Ret; rw [show cur (dfr W) .ahead = none from rfl])
  -- no
  rcases hqq with ⟨rfl, hb⟩ | ⟨hb, x2, o2, rfl, _, _⟩
  · simp at hif
  rw [show prvP x = .pt (x - 1) from if_neg (by omega)] at D hret
  refine tr_skip ?_
  refine q_thn ?_
  refine tr_seq ?_
  refine tr_reg ?_
  refine rs_v (v_move rfl) rfl ?_
  refine rs_w (w_call (vs := [_]) ok_keyspan_DefragmentingIter_defragmentBackward rfl ⟨rfl, trivial⟩ (c_defragmentBackward hit hgood D (by omega) hret)) rfl ?_
  rintro r2 h2 ⟨b3, Fin3, F3, sp3, sv3, ev3, kv3, a3, ksv3, kbv3, nk3, xk3, nb3, xb3, hrun3, hend3, D, hret, rfl, hps9, KP3, hF3⟩
  obtain ⟨qv3, rfl, _⟩ := hret.form
  have hKz := KP.1
  have KP := KP.trans KP3 hFF
  have hFF : ∀ b, F3 b → F0 b ∨ h.size ≤ b := fun b hb => (hF3 b hb).elim (hFF b) (fun e9 => Or.inr (by omega))
  have Bc := D.bc
  refine rs_v (v_assign rfl) rfl ?_
  refine rs_nil ?_
  refine q_thn ?_
  refine tr_ret ?_
  refine q_blk_ret ?_
  refine q_ret (res_tmp rfl rfl) ?_
  rw [show x - 1 + 1 = x from by omega] at hrun3 hps9
  have hg3 : Grp W b3 x := ⟨hend3, hrun3, end_of_beg hg.1 hb⟩
  rw [grp_prev hg (.inr hg3), if_neg (by omega)]
  exact di_post hlF hF0 hFc hcm Bq D hret (.inr (.inr (.inr ⟨b3, x, rfl, hg3, .inr ⟨rfl, rfl⟩⟩))) KP hFF (ret_grp hg3 D.fc hps9)
theorem c_DiPrevN (χ : Chi) {W : List SpanD} {I : ItI} {t : TypeId} {v0 : Value} {cmb c cb : Nat} {F : Nat → Prop} {h : Heap}  (hit : IterOK Try.prog χ W t v0 I) (hgood : GoodD W)
    (hI : ∃ Fin F0 sp sv ev kv a ksv kbv nk xk nb xb s0, DSt W I t v0 (.pointer (some ⟨cmb, 0, none⟩)) c cb (.behind) Fin F0 h sp 0 sv ev kv a ksv kbv nk xk nb xb ∧ Ret W (.behind) Fin h sp ∧ ¬ F0 cmb ∧ (∀ b, F0 b → F b) ∧ F cmb ∧ Low F h ∧ Blk h cmb (cmpL s0) 119) :
    Cl Try.prog χ 146 #[.pointer (some ⟨c, 0, none⟩)] h (ItPost (dfr W) (DIt W I t v0 cmb c cb) F h (pPrev (dfr W) .behind)) := by
  obtain ⟨Fin, F0, sp, sv, ev, kv, a, ksv, kbv, nk, xk, nb, xb, s0, D, hret, hcm, hF0, hFc, hlF, Bq⟩ := hI
  have KP := KeepP.refl F0 h
  have hFF : ∀ b, F0 b → F0 b ∨ h.size ≤ b := fun b hb => .inl hb
  have hcF : ∀ x, x ∈ [c] → F0 x := fun x hx => by rw [List.mem_singleton] at hx; subst hx; exact D.fc
  have Bc := D.bc
  refine cl_intro Try.func146 rfl rfl rfl ?_
  have K : Keep [] h h := Keep.refl _ _
  refine tr_seq ?_
  refine tr_reg ?_
  refine rs_v (v_assign rfl) rfl ?_
  refine rs_nil ?_
  refine q_thn ?_
  refine tr_seq ?_
  refine tr_reg ?_
  refine rs_v (v_move rfl) rfl ?_
  refine rs_v (v_nilCheck_ptr rfl) rfl ?_
  refine rs_v (v_fieldAddr fa_keyspan_DefragmentingIter_5 rfl) rfl ?_
  refine rs_v (v_load one_keyspan_iterPos rfl (by exact Bc.cell _ rfl)) rfl ?_
  refine rs_nil ?_
  refine q_thn ?_
  refine tr_block ?_
  refine tr_seq ?_
  refine tr_reg ?_
  refine rs_v (v_eq rfl rfl) rfl ?_
  refine rs_v (v_assign rfl) rfl ?_
  refine rs_nil ?_
  refine q_thn ?_
  refine tr_if_f rfl ?_
  refine tr_seq ?_
  refine tr_reg ?_
  refine rs_v (v_eq rfl rfl) rfl ?_
  refine rs_v (v_assign rfl) rfl ?_
  refine rs_nil ?_
  refine q_thn ?_
  refine tr_if_t rfl ?_
  refine tr_seq ?_
  refine tr_seq ?_
  refine tr_reg ?_
  refine rs_v (v_move rfl) rfl ?_
  refine rs_gs rfl (rfl) rfl rfl ?_
  refine rs_gs rfl (rfl) rfl rfl ?_
  refine rs_gs rfl (rfl) rfl rfl ?_
  refine rs_gs rfl (rfl) rfl rfl ?_
  refine rs_gs rfl (rfl) rfl rfl ?_
  refine rs_v (v_pick_f rfl rfl) rfl ?_
  refine rs_v (v_move rfl) rfl ?_
  refine rs_gs rfl (rfl) rfl rfl ?_
  refine rs_gs rfl (rfl) rfl rfl ?_
  refine rs_gs rfl (rfl) rfl rfl ?_
  refine rs_gs rfl (rfl) rfl rfl ?_
  refine rs_gs rfl (rfl) rfl rfl ?_
  refine rs_gs rfl (rfl) rfl rfl ?_
  refine rs_v (v_pick_f rfl rfl) rfl ?_
  refine rs_nil ?_
  refine q_thn ?_
  refine tr_if_f rfl ?_
  refine tr_skip ?_
  refine q_thn ?_
  refine tr_seq ?_
  refine tr_reg ?_
  refine rs_v (v_move rfl) rfl ?_
  refine rs_v (v_move rfl) rfl ?_
  refine rs_v (v_nilCheck_ptr rfl) rfl ?_
  refine rs_v (v_fieldAddr fa_keyspan_DefragmentingIter_3 rfl) rfl ?_
  refine rs_v (v_load one_keyspan_FragmentIterator rfl (by exact Bc.cell _ rfl)) rfl ?_
  refine rs_w (w_mcall (vs := []) (hit.prev D.it rfl) rfl trivial) rfl ?_
  rintro r1 h1 hp1
  skip
  have DFF := D.ff
  obtain ⟨Fin2, D, hF2, _, KF2, hret2⟩ := D.inner hit hp1
  obtain ⟨qv2, rfl, _⟩ := hret2.form
  have hKz := KP.1
  have hFF2 : ∀ b, _ → F0 b ∨ h.size ≤ b := fun b hb => Or.elim hb (hFF b) (fun e => (hF2 b e).elim (fun e9 => hFF b (DFF b e9)) (fun e9 => Or.inr (by omega)))
  have KP := KP.trans KF2 hFF
  have hFF := hFF2
  have Bc := D.bc
  refine rs_v (v_nilCheck_ptr rfl) rfl ?_
  refine rs_v (v_fieldAddr fa_keyspan_DefragmentingIter_4 rfl) rfl ?_
  refine rs_w0 (w_put siz_p_keyspan_Span rfl rfl rfl rfl Bc rfl) ?_
  rintro _ h2 ⟨B2, K2⟩
  have hret1 := Ret.stab hret2 (K2.stab (A := Fin2) fun b hb => ⟨D.lo b (D.ff b hb), fun hm => D.di.fc (by rw [List.mem_singleton] at hm; subst hm; exact hb)⟩)
  have D := D.putC hit (sp' := .pointer qv2) (z' := 0) K2 B2
  have KP := KP.trans (K2.kp hcF) (fun _ h => .inl h)
  have Bc := D.bc
  refine rs_nil ?_
  refine q_thn ?_
  refine tr_seq ?_
  refine tr_seq ?_
  refine tr_reg ?_
  refine rs_v (v_move rfl) rfl ?_
  refine rs_v (v_nilCheck_ptr rfl) rfl ?_
  refine rs_v (v_fieldAddr fa_keyspan_DefragmentingIter_4 rfl) rfl ?_
  refine rs_v (v_load one_p_keyspan_Span rfl (by exact Bc.cell _ rfl)) rfl ?_
  refine rs_v (v_peq u_p_keyspan_Span rfl rfl) rfl ?_
  refine rs_nil ?_
  refine q_thn ?_
  refine tr_if rfl (fun hif => ?_) (fun hif => ?_)
  · -- yes
    have hq := ret_gen (P := 0 < W.length) (i := W.length - 1) (q0 := .ahead) (by simp only [pPrev]; split <;> split <;> simp_all <;> omega) (by omega) (by simp [cur]) hret1
    rcases hq with ⟨rfl, hW⟩ | ⟨hW, hq, x2, o2, rfl, _, _⟩
    rotate_left
    · simp at hif
    have hWn : W = [] := List.eq_nil_of_length_eq_zero (by omega)
    refine tr_seq ?_
    refine tr_reg ?_
    refine rs_v (v_assign rfl) rfl ?_
    refine rs_nil ?_
    refine q_thn ?_
    refine tr_ret ?_
    refine q_thn_ret ?_
    refine q_blk_ret ?_
    refine q_ret (res_tmp rfl rfl) ?_
    subst hWn
    exact di_post hlF hF0 hFc hcm Bq D hret1 (.inr (.inr (.inl ⟨rfl, rfl, rfl⟩))) KP hFF (by unfold Ret; rw [show cur (dfr []) .ahead = none from rfl])
  -- no
  have hq := ret_gen (P := 0 < W.length) (i := W.length - 1) (q0 := .ahead) (by simp only [pPrev]; split <;> split <;> simp_all <;> omega) (by omega) (by simp [cur]) hret1
  rcases hq with ⟨rfl, hW⟩ | ⟨hW, hq, x2, o2, rfl, _, _⟩
  · simp at hif
  rw [hq] at D hret1
  refine tr_skip ?_
  refine q_thn ?_
  refine tr_seq ?_
  refine tr_reg ?_
  refine rs_v (v_move rfl) rfl ?_
  refine rs_w (w_call (vs := [_]) ok_keyspan_DefragmentingIter_defragmentBackward rfl ⟨rfl, trivial⟩ (c_defragmentBackward hit hgood D (by omega) hret1)) rfl ?_
  rintro r3 h3 ⟨b3, Fin3, F3, sp3, sv3, ev3, kv3, a3, ksv3, kbv3, nk3, xk3, nb3, xb3, hrun3, hend3, D, hret, rfl, hps9, KP3, hF3⟩
  obtain ⟨qv3, rfl, _⟩ := hret.form
  have hKz := KP.1
  have KP := KP.trans KP3 hFF
  have hFF : ∀ b, F3 b → F0 b ∨ h.size ≤ b := fun b hb => (hF3 b hb).elim (hFF b) (fun e9 => Or.inr (by omega))
  have Bc := D.bc
  refine rs_v (v_assign rfl) rfl ?_
  refine rs_nil ?_
  refine q_thn ?_
  refine tr_ret ?_
  refine q_blk_ret ?_
  refine q_ret (res_tmp rfl rfl) ?_
  rw [show W.length - 1 + 1 = W.length from by omega] at hrun3 hps9
  have hg3 : Grp W b3 W.length := ⟨hend3, hrun3, .inl rfl⟩
  rw [grp_behind hg3]
  exact di_post hlF hF0 hFc hcm Bq D hret (.inr (.inr (.inr ⟨b3, W.length, rfl, hg3, .inr ⟨rfl, rfl⟩⟩))) KP hFF (ret_grp hg3 D.fc hps9)
theorem c_DiPrevT (χ : Chi) {W : List SpanD} {I : ItI} {t : TypeId} {v0 : Value} {cmb c cb : Nat} {F : Nat → Prop} {h : Heap} {x y : Nat} (hg : Grp W x y) (hit : IterOK Try.prog χ W t v0 I) (hgood : GoodD W)
    (hI : ∃ Fin F0 sp sv ev kv a ksv kbv nk xk nb xb s0, DSt W I t v0 (.pointer (some ⟨cmb, 0, none⟩)) c cb (nxtP W y) Fin F0 h sp 1 sv ev kv a ksv kbv nk xk nb xb ∧ Ret W (nxtP W y) Fin h sp ∧ ¬ F0 cmb ∧ (∀ b, F0 b → F b) ∧ F cmb ∧ Low F h ∧ Blk h cmb (cmpL s0) 119) :
    Cl Try.prog χ 146 #[.pointer (some ⟨c, 0, none⟩)] h (ItPost (dfr W) (DIt W I t v0 cmb c cb) F h (pPrev (dfr W) (.pt (nG W x)))) := by
  obtain ⟨Fin, F0, sp, sv, ev, kv, a, ksv, kbv, nk, xk, nb, xb, s0, D, hret, hcm, hF0, hFc, hlF, Bq⟩ := hI
  have KP := KeepP.refl F0 h
  have hFF : ∀ b, F0 b → F0 b ∨ h.size ≤ b := fun b hb => .inl hb
  have hcF : ∀ x, x ∈ [c] → F0 x := fun x hx => by rw [List.mem_singleton] at hx; subst hx; exact D.fc
  have Bc := D.bc
  have hgr := hg.2.1.1
  have hgr2 := hg.2.1.2.1
  refine cl_intro Try.func146 rfl rfl rfl ?_
  have K : Keep [] h h := Keep.refl _ _
  refine tr_seq ?_
  refine tr_reg ?_
  refine rs_v (v_assign rfl) rfl ?_
  refine rs_nil ?_
  refine q_thn ?_
  refine tr_seq ?_
  refine tr_reg ?_
  refine rs_v (v_move rfl) rfl ?_
  refine rs_v (v_nilCheck_ptr rfl) rfl ?_
  refine rs_v (v_fieldAddr fa_keyspan_DefragmentingIter_5 rfl) rfl ?_
  refine rs_v (v_load one_keyspan_iterPos rfl (by exact Bc.cell _ rfl)) rfl ?_
  refine rs_nil ?_
  refine q_thn ?_
  refine tr_block ?_
  refine tr_seq ?_
  refine tr_reg ?_
  refine rs_v (v_eq rfl rfl) rfl ?_
  refine rs_v (v_assign rfl) rfl ?_
  refine rs_nil ?_
  refine q_thn ?_
  refine tr_if_f rfl ?_
  refine tr_seq ?_
  refine tr_reg ?_
  refine rs_v (v_eq rfl rfl) rfl ?_
  refine rs_v (v_assign rfl) rfl ?_
  refine rs_nil ?_
  refine q_thn ?_
  refine tr_if_f rfl ?_
  refine tr_seq ?_
  refine tr_reg ?_
  refine rs_v (v_eq rfl rfl) rfl ?_
  refine rs_v (v_assign rfl) rfl ?_
  refine rs_nil ?_
  refine q_thn ?_
  refine tr_if_t rfl ?_
  refine tr_seq ?_
  refine tr_reg ?_
  refine rs_v (v_move rfl) rfl ?_
  refine rs_v (v_move rfl) rfl ?_
  refine rs_v (v_nilCheck_ptr rfl) rfl ?_
  refine rs_v (v_fieldAddr fa_keyspan_DefragmentingIter_3 rfl) rfl ?_
  refine rs_v (v_load one_keyspan_FragmentIterator rfl (by exact Bc.cell _ rfl)) rfl ?_
  refine rs_w (w_mcall (vs := []) (hit.prev D.it (by unfold nxtP; split <;> rfl)) rfl trivial) rfl ?_
  rintro r1 h1 hp1
  rw [prev_nxt (b := y) (by omega) (by omega)] at hp1
  have DFF := D.ff
  obtain ⟨Fin2, D, hF2, _, KF2, hret2⟩ := D.inner hit hp1
  obtain ⟨qv2, rfl, _⟩ := hret2.form
  have hKz := KP.1
  have hFF2 : ∀ b, _ → F0 b ∨ h.size ≤ b := fun b hb => Or.elim hb (hFF b) (fun e => (hF2 b e).elim (fun e9 => hFF b (DFF b e9)) (fun e9 => Or.inr (by omega)))
  have KP := KP.trans KF2 hFF
  have hFF := hFF2
  have Bc := D.bc
  refine rs_v (v_nilCheck_ptr rfl) rfl ?_
  refine rs_v (v_fieldAddr fa_keyspan_DefragmentingIter_4 rfl) rfl ?_
  refine rs_w0 (w_put siz_p_keyspan_Span rfl rfl rfl rfl Bc rfl) ?_
  rintro _ h2 ⟨B2, K2⟩
  have hret1 := Ret.stab hret2 (K2.stab (A := Fin2) fun b hb => ⟨D.lo b (D.ff b hb), fun hm => D.di.fc (by rw [List.mem_singleton] at hm; subst hm; exact hb)⟩)
  have D := D.putC hit (sp' := .pointer qv2) (z' := 1) K2 B2
  have KP := KP.trans (K2.kp hcF) (fun _ h => .inl h)
  have Bc := D.bc
  refine rs_nil ?_
  refine q_thn ?_
  refine tr_seq ?_
  refine tr_seq ?_
  refine tr_reg ?_
  refine rs_v (v_move rfl) rfl ?_
  refine rs_gs rfl (rfl) rfl rfl ?_
  refine rs_gs rfl (rfl) rfl rfl ?_
  refine rs_gs rfl (rfl) rfl rfl ?_
  refine rs_gs rfl (rfl) rfl rfl ?_
  refine rs_gs rfl (rfl) rfl rfl ?_
  refine rs_v (v_pick_f rfl rfl) rfl ?_
  refine rs_v (v_move rfl) rfl ?_
  refine rs_gs rfl (rfl) rfl rfl ?_
  refine rs_gs rfl (rfl) rfl rfl ?_
  refine rs_gs rfl (rfl) rfl rfl ?_
  refine rs_gs rfl (rfl) rfl rfl ?_
  refine rs_gs rfl (rfl) rfl rfl ?_
  refine rs_gs rfl (rfl) rfl rfl ?_
  refine rs_v (v_pick_f rfl rfl) rfl ?_
  refine rs_nil ?_
  refine q_thn ?_
  refine tr_if_f rfl ?_
  refine tr_skip ?_
  refine q_thn ?_
  refine tr_seq ?_
  refine tr_reg ?_
  refine rs_v (v_move rfl) rfl ?_
  refine rs_w (w_call (vs := [_]) ok_keyspan_DefragmentingIter_defragmentBackward rfl ⟨rfl, trivial⟩ (c_defragmentBackward hit hgood D (by omega) hret1)) rfl ?_
  rintro r3 h3 ⟨b3, Fin3, F3, sp3, sv3, ev3, kv3, a3, ksv3, kbv3, nk3, xk3, nb3, xb3, hrun3, hend3, D, hret, rfl, hps3, KP3, hF3⟩
  obtain ⟨qv3, rfl, _⟩ := hret.form
  have hKz := KP.1
  have KP := KP.trans KP3 hFF
  have hFF : ∀ b, F3 b → F0 b ∨ h.size ≤ b := fun b hb => (hF3 b hb).elim (hFF b) (fun e9 => Or.inr (by omega))
  have Bc := D.bc
  rw [show y - 1 + 1 = y from by omega] at hrun3 hps3
  have hg4 : Grp W b3 y := ⟨hend3, hrun3, hg.2.2⟩
  have hxb : x = b3 := by have h1 := grp_in2 (i := b3) ⟨by have := hrun3.1; omega, hg.2.1.2.1, hrun3.2.2⟩ hgr hg.1; have h2 := grp_in2 (i := x) hg.2.1 hrun3.1 hend3; omega
  subst hxb
  have hgr4 := hg4.2.1.1
  have hgr5 := hg4.2.1.2.1
  have hqq := ret_prv (by omega) hret
  refine rs_nil ?_
  refine q_thn ?_
  refine tr_seq ?_
  refine tr_seq ?_
  refine tr_reg ?_
  refine rs_v (v_move rfl) rfl ?_
  refine rs_v (v_nilCheck_ptr rfl) rfl ?_
  refine rs_v (v_fieldAddr fa_keyspan_DefragmentingIter_4 rfl) rfl ?_
  refine rs_v (v_load one_p_keyspan_Span rfl (by exact Bc.cell _ rfl)) rfl ?_
  refine rs_v (v_peq u_p_keyspan_Span rfl rfl) rfl ?_
  refine rs_nil ?_
  refine q_thn ?_
  refine tr_if rfl (fun hif => ?_) (fun hif => ?_)
  · -- yes
    rcases hqq with ⟨rfl, hb⟩ | ⟨hb, x2, o2, rfl, _, _⟩
    rotate_left
    · simp at hif
    have hret1 := hret
    refine tr_seq ?_
    refine tr_reg ?_
    refine rs_v (v_move rfl) rfl ?_
    refine rs_v (v_nilCheck_ptr rfl) rfl ?_
    refine rs_v (v_fieldAddr fa_keyspan_DefragmentingIter_5 rfl) rfl ?_
    refine rs_w0 (w_put siz_keyspan_iterPos rfl rfl rfl rfl Bc rfl) ?_
    rintro _ h4 ⟨B4, K4⟩
    have hret1 := Ret.stab hret1 (K4.stab (A := _) fun b hb => ⟨D.lo b (D.ff b hb), fun hm => D.di.fc (by rw [List.mem_singleton] at hm; subst hm; exact hb)⟩)
    have D := D.putC hit (sp' := .pointer none) (z' := 0) K4 B4
    have KP := KP.trans (K4.kp hcF) (fun _ h => .inl h)
    refine rs_nil ?_
    refine q_thn ?_
    refine tr_seq ?_
    refine tr_reg ?_
    refine rs_v (v_assign rfl) rfl ?_
    refine rs_nil ?_
    refine q_thn ?_
    refine tr_ret ?_
    refine q_thn_ret ?_
    refine q_blk_ret ?_
    refine q_ret (res_tmp rfl rfl) ?_
    rw [grp_prev (a2 := 0) hg4 (.inl (by omega)), if_pos (by omega)]
    exact di_post hlF hF0 hFc hcm Bq D hret1 (.inr (.inr (.inl ⟨rfl, if_pos hb, rfl⟩))) KP hFF (by unfold Ret; rw [show cur (dfr W) .ahead = none from rfl])
  -- no
  rcases hqq with ⟨rfl, hb⟩ | ⟨hb, x2, o2, rfl, _, _⟩
  · simp at hif
  rw [show prvP x = .pt (x - 1) from if_neg (by omega)] at D hret
  refine tr_skip ?_
  refine q_thn ?_
  refine tr_seq ?_
  refine tr_reg ?_
  refine rs_v (v_move rfl) rfl ?_
  refine rs_w (w_call (vs := [_]) ok_keyspan_DefragmentingIter_defragmentBackward rfl ⟨rfl, trivial⟩ (c_defragmentBackward hit hgood D (by omega) hret)) rfl ?_
  rintro r5 h5 ⟨b9, Fin3, F3, sp3, sv3, ev3, kv3, a3, ksv3, kbv3, nk3, xk3, nb9, xb9, hrun9, hend9, D, hret, rfl, hps9, KP3, hF3⟩
  obtain ⟨qv3, rfl, _⟩ := hret.form
  have hKz := KP.1
  have KP := KP.trans KP3 hFF
  have hFF : ∀ b, F3 b → F0 b ∨ h.size ≤ b := fun b hb => (hF3 b hb).elim (hFF b) (fun e9 => Or.inr (by omega))
  have Bc := D.bc
  refine rs_v (v_assign rfl) rfl ?_
  refine rs_nil ?_
  refine q_thn ?_
  refine tr_ret ?_
  refine q_blk_ret ?_
  refine q_ret (res_tmp rfl rfl) ?_
  rw [show x - 1 + 1 = x from by omega] at hrun9 hps9
  have hg3 : Grp W b9 x := ⟨hend9, hrun9, end_of_beg hg.1 hb⟩
  rw [grp_prev hg4 (.inr hg3), if_neg (by omega)]
  exact di_post hlF hF0 hFc hcm Bq D hret (.inr (.inr (.inr ⟨b9, x, rfl, hg3, .inr ⟨rfl, rfl⟩⟩))) KP hFF (ret_grp hg3 D.fc hps9)
theorem c_DiPrev (χ : Chi) {W : List SpanD} {I : ItI} {t : TypeId} {v0 : Value} {cmb c cb : Nat} {p : Pos} {F : Nat → Prop} {h : Heap} (hit : IterOK Try.prog χ W t v0 I) (hgood : GoodD W) (hI : DIt W I t v0 cmb c cb p F h) (hc : canPrev p = true) :
    Cl Try.prog χ 146 #[.pointer (some ⟨c, 0, none⟩)] h (ItPost (dfr W) (DIt W I t v0 cmb c cb) F h (pPrev (dfr W) p)) := by
  obtain ⟨q, Fin, F0, sp, z, sv, ev, kv, a, ksv, kbv, nk, xk, nb, xb, s0, D, hret, hrel, hcm, hF0, hFc, hlF, Bq⟩ := hI
  rcases hrel with rfl | ⟨rfl, rfl, rfl⟩ | ⟨rfl, rfl, rfl⟩ | ⟨x, y, rfl, hg, ⟨rfl, rfl⟩ | ⟨rfl, rfl⟩⟩
  · simp [canPrev] at hc
  · exact c_DiPrevN χ hit hgood ⟨Fin, F0, sp, sv, ev, kv, a, ksv, kbv, nk, xk, nb, xb, s0, D, hret, hcm, hF0, hFc, hlF, Bq⟩
  · simp [canPrev] at hc
  · exact c_DiPrevT χ hg hit hgood ⟨Fin, F0, sp, sv, ev, kv, a, ksv, kbv, nk, xk, nb, xb, s0, D, hret, hcm, hF0, hFc, hlF, Bq⟩
  · exact c_DiPrevS χ hg hit hgood ⟨Fin, F0, sp, sv, ev, kv, a, ksv, kbv, nk, xk, nb, xb, s0, D, hret, hcm, hF0, hFc, hlF, Bq⟩
end Go.Proofs.Ytgebfbnndgjkiaa
namespace Go.Proofs.Ytgebfbnndgjkiaa
open Go.Tess Go.RowKit
set_option maxRecDepth 100000
set_option maxHeartbeats 1000000
theorem c_DiSeekGE (χ : Chi) {W : List SpanD} {I : ItI} {t : TypeId} {v0 : Value} {cmb c cb : Nat} {p : Pos} {F : Nat → Prop} {h : Heap} (hit : IterOK Try.prog χ W t v0 I) (hgood : GoodD W) (hI : DIt W I t v0 cmb c cb p F h) (hO : Tess.Ord W) {kv0 : Value} {key : ByteArray} (hkey : RBytes (fun b => ¬ F b) h kv0 key) :
    Cl Try.prog χ 147 #[.pointer (some ⟨c, 0, none⟩), kv0] h (ItPost (dfr W) (DIt W I t v0 cmb c cb) F h (pGE (dfr W) key)) := by
  obtain ⟨q, Fin, F0, sp, z, sv, ev, kv, a, ksv, kbv, nk, xk, nb, xb, s0, D, hret, hrel, hcm, hF0, hFc, hlF, Bq⟩ := hI
  have KP := KeepP.refl F0 h
  have hFF : ∀ b, F0 b → F0 b ∨ h.size ≤ b := fun b hb => .inl hb
  have hcF : ∀ x, x ∈ [c] → F0 x := fun x hx => by rw [List.mem_singleton] at hx; subst hx; exact D.fc
  have Bc := D.bc
  refine cl_intro Try.func147 rfl rfl rfl ?_
  have K : Keep [] h h := Keep.refl _ _
  refine tr_seq ?_
  refine tr_reg ?_
  refine rs_v (v_assign rfl) rfl ?_
  refine rs_nil ?_
  refine q_thn ?_
  refine tr_seq ?_
  refine tr_reg ?_
  refine rs_v (v_move rfl) rfl ?_
  refine rs_v (v_move rfl) rfl ?_
  refine rs_v (v_nilCheck_ptr rfl) rfl ?_
  refine rs_v (v_fieldAddr fa_keyspan_DefragmentingIter_3 rfl) rfl ?_
  refine rs_v (v_load one_keyspan_FragmentIterator rfl (by exact Bc.cell _ rfl)) rfl ?_
  refine rs_v (v_move rfl) rfl ?_
  refine rs_w (w_mcall (vs := [_]) (hit.ge D.it (hkey.mono (fun b hb hf => hb (hF0 b (D.ff b hf))))) rfl ⟨rfl, trivial⟩) rfl ?_
  rintro r1 h1 hp1
  skip
  have DFF := D.ff
  obtain ⟨Fin2, D, hF2, _, KF2, hret2⟩ := D.inner hit hp1
  obtain ⟨qv2, rfl, _⟩ := hret2.form
  have hKz := KP.1
  have hFF2 : ∀ b, _ → F0 b ∨ h.size ≤ b := fun b hb => Or.elim hb (hFF b) (fun e => (hF2 b e).elim (fun e9 => hFF b (DFF b e9)) (fun e9 => Or.inr (by omega)))
  have KP := KP.trans KF2 hFF
  have hFF := hFF2
  have Bc := D.bc
  refine rs_v (v_nilCheck_ptr rfl) rfl ?_
  refine rs_v (v_fieldAddr fa_keyspan_DefragmentingIter_4 rfl) rfl ?_
  refine rs_w0 (w_put siz_p_keyspan_Span rfl rfl rfl rfl Bc rfl) ?_
  rintro _ h2 ⟨B2, K2⟩
  have hret1 := Ret.stab hret2 (K2.stab (A := Fin2) fun b hb => ⟨D.lo b (D.ff b hb), fun hm => D.di.fc (by rw [List.mem_singleton] at hm; subst hm; exact hb)⟩)
  have D := D.putC hit (sp' := .pointer qv2) (z' := z) K2 B2
  have KP := KP.trans (K2.kp hcF) (fun _ h => .inl h)
  have Bc := D.bc
  refine rs_nil ?_
  refine q_thn ?_
  refine tr_seq ?_
  refine tr_seq ?_
  refine tr_reg ?_
  refine rs_v (v_move rfl) rfl ?_
  refine rs_v (v_nilCheck_ptr rfl) rfl ?_
  refine rs_v (v_fieldAddr fa_keyspan_DefragmentingIter_4 rfl) rfl ?_
  refine rs_v (v_load one_p_keyspan_Span rfl (by exact Bc.cell _ rfl)) rfl ?_
  refine rs_v (v_peq u_p_keyspan_Span rfl rfl) rfl ?_
  refine rs_nil ?_
  refine q_thn ?_
  refine tr_if rfl (fun hif => ?_) (fun hif => ?_)
  · -- yes
    have hq := ret_gen (q := pGE W key) (P := geI W key < W.length) (i := (geI W key)) (q0 := .behind) (rfl) (fun h => h) (by simp [cur]) hret1
    rcases hq with ⟨rfl, hW⟩ | ⟨hW, hq, x2, o2, rfl, _, _⟩
    rotate_left
    · simp at hif
    refine tr_seq ?_
    refine tr_reg ?_
    refine rs_v (v_move rfl) rfl ?_
    refine rs_v (v_nilCheck_ptr rfl) rfl ?_
    refine rs_v (v_fieldAddr fa_keyspan_DefragmentingIter_5 rfl) rfl ?_
    refine rs_w0 (w_put siz_keyspan_iterPos rfl rfl rfl rfl Bc rfl) ?_
    rintro _ h3 ⟨B3, K3⟩
    have hret1 := Ret.stab hret1 (K3.stab (A := _) fun b hb => ⟨D.lo b (D.ff b hb), fun hm => D.di.fc (by rw [List.mem_singleton] at hm; subst hm; exact hb)⟩)
    have D := D.putC hit (sp' := .pointer none) (z' := 0) K3 B3
    have KP := KP.trans (K3.kp hcF) (fun _ h => .inl h)
    refine rs_nil ?_
    refine q_thn ?_
    refine tr_seq ?_
    refine tr_reg ?_
    refine rs_v (v_assign rfl) rfl ?_
    refine rs_nil ?_
    refine q_thn ?_
    refine tr_ret ?_
    refine q_thn_ret ?_
    refine q_ret (res_tmp rfl rfl) ?_
    rw [ge_none hW]
    exact di_post hlF hF0 hFc hcm Bq D hret1 (.inr (.inl ⟨rfl, (by simp only [pGE]; exact if_neg hW), rfl⟩)) KP hFF (by unfold Ret; rw [show cur (dfr W) .behind = none from rfl])
  -- no
  have hq := ret_gen (q := pGE W key) (P := geI W key < W.length) (i := (geI W key)) (q0 := .behind) (rfl) (fun h => h) (by simp [cur]) hret1
  rcases hq with ⟨rfl, hW⟩ | ⟨hW, hq, x2, o2, rfl, hFb2, hps2⟩
  · simp at hif
  have hil : (geI W key) < W.length := by exact hW
  rw [hq] at D hret1
  obtain ⟨ss, se, sk, _, hcs, r1, r2, r3⟩ := hps2
  obtain ⟨ka, kc, rfl⟩ := SlR.form2 r3
  have hne := (hgood (nth W (geI W key)) (nth_mem hil)).1
  have hne0 : decide (((nth W (geI W key)).ks.length : Int) = 0) = false := by simp; exact hne
  have Bq2 := KP.blk hcm Bq
  have hke := RBytes.by ((RBytes.lowen hkey).stab (fun b hb => KP.2 b hb.2 (fun h0 => hb.1 (hF0 b h0))))
  refine tr_seq ?_
  refine tr_reg ?_
  refine rs_v (v_move rfl) rfl ?_
  refine rs_v (v_nilCheck_ptr rfl) rfl ?_
  refine rs_v (v_fieldAddr fa_keyspan_DefragmentingIter_4 rfl) rfl ?_
  refine rs_v (v_load one_p_keyspan_Span rfl (by exact Bc.cell _ rfl)) rfl ?_
  refine rs_w (w_call (vs := [_]) ok_keyspan_Span_Empty rfl ⟨rfl, trivial⟩ (c_Empty χ _ _ _ ka _ kc (hcs.at 2 rfl))) rfl ?_
  rintro _ h4 ⟨rfl, hsame⟩; have hsame := hsame.symm; subst hsame
  refine rs_nil ?_
  refine q_thn ?_
  refine tr_if_f (lkb hne0) ?_
  refine tr_skip ?_
  refine q_thn ?_
  refine tr_seq ?_
  refine tr_seq ?_
  refine tr_quiet (by kernel_rfl) (by kernel_rfl) ?_
  refine rq_v (v_move rfl) ?_
  refine rq_v (v_nilCheck_ptr rfl) ?_
  refine rq_v (v_fieldAddr fa_keyspan_DefragmentingIter_1 rfl) ?_
  refine rq_v (v_load one_p_base_Comparer rfl (by exact Bc.cell _ rfl)) ?_
  refine rq_v (v_nilCheck_ptr rfl) ?_
  refine rq_v (v_fieldAddr fa_base_Comparer_0 rfl) ?_
  refine rq_v (v_load one_base_Compare rfl (by exact Bq2.cell _ rfl)) ?_
  refine rq_v (v_move rfl) ?_
  refine rq_v (v_nilCheck_ptr rfl) ?_
  refine rq_v (v_fieldAddr fa_keyspan_DefragmentingIter_4 rfl) ?_
  refine rq_v (v_load one_p_keyspan_Span rfl (by exact Bc.cell _ rfl)) ?_
  refine rq_v (v_nilCheck_ptr rfl) ?_
  refine rq_v (v_fieldAddr fa_keyspan_Span_0 rfl) ?_
  refine rq_v (v_load one_sl_uint8 rfl (by exact hcs.at 0 rfl)) ?_
  refine rq_v (v_move rfl) ?_
  refine rq_w (w_callv (first := []) (cap := []) (vs := [_, _]) ok_bytes_Compare rfl ⟨rfl, rfl, trivial⟩ (c_Compare χ _ _ _ (nth W (geI W key)).s key (RBytes.by r1) hke)) ?_
  refine rq_v (v_gt rfl rfl) ?_
  refine rm_end ?_; simp only [endM, hypF, ofE, argE]
  refine q_thn ?_
  refine tr_if rfl (fun hif => ?_) (fun hif => ?_)
  · -- yes
    simp only [decide_eq_true_eq, decide_eq_false_iff_not] at hif
    refine tr_seq ?_
    refine tr_reg ?_
    refine rs_v (v_move rfl) rfl ?_
    refine rs_w (w_call (vs := [_]) ok_keyspan_DefragmentingIter_defragmentForward rfl ⟨rfl, trivial⟩ (c_defragmentForward hit hgood D hil hret1)) rfl ?_
    rintro r5 h5 ⟨b3, Fin3, F3, sp3, sv3, ev3, kv3, a3, ksv3, kbv3, nk3, xk3, nb3, xb3, hrun3, hend3, D, hret, rfl, hps3, KP3, hF3⟩
    obtain ⟨qv3, rfl, _⟩ := hret.form
    have hKz := KP.1
    have KP := KP.trans KP3 hFF
    have hFF : ∀ b, F3 b → F0 b ∨ h.size ≤ b := fun b hb => (hF3 b hb).elim (hFF b) (fun e9 => Or.inr (by omega))
    have Bc := D.bc
    refine rs_v (v_assign rfl) rfl ?_
    refine rs_nil ?_
    refine q_thn ?_
    refine tr_ret ?_
    refine q_thn_ret ?_
    refine q_ret (res_tmp rfl rfl) ?_
    have hg : Grp W (geI W key) b3 := ⟨ge_beg hil (not_sle.1 (sle_no.2 hif)), hrun3, hend3⟩
    rw [ge_grp hO hg (Nat.le_refl _) hrun3.1]
    exact di_post hlF hF0 hFc hcm Bq D hret (.inr (.inr (.inr ⟨_, b3, rfl, hg, .inl ⟨rfl, rfl⟩⟩))) KP hFF (ret_grp hg D.fc hps3)
  -- no
  simp only [decide_eq_true_eq, decide_eq_false_iff_not] at hif
  refine tr_skip ?_
  refine q_thn ?_
  refine tr_seq ?_
  refine tr_reg ?_
  refine rs_v (v_move rfl) rfl ?_
  refine rs_w (w_call (vs := [_]) ok_keyspan_DefragmentingIter_defragmentBackward rfl ⟨rfl, trivial⟩ (c_defragmentBackward hit hgood D hil hret1)) rfl ?_
  rintro r6 h6 ⟨b3, Fin3, F3, sp3, sv3, ev3, kv3, a3, ksv3, kbv3, nk3, xk3, nb3, xb3, hrun3, hend3, D, hret, rfl, hps3, KP3, hF3⟩
  obtain ⟨qv3, rfl, _⟩ := hret.form
  have hKz := KP.1
  have KP := KP.trans KP3 hFF
  have hFF : ∀ b, F3 b → F0 b ∨ h.size ≤ b := fun b hb => (hF3 b hb).elim (hFF b) (fun e9 => Or.inr (by omega))
  have Bc := D.bc
  refine rs_nil ?_
  refine q_thn ?_
  refine tr_seq ?_
  refine tr_cut (fun E h' => h6 = h' ∧ E = [(0, .pointer (some ⟨c, 0, none⟩)), (67, .bool false)]) ?_ ?_
  ·
    have hqq := ret_prv (by have := hrun3.1; have := hrun3.2.1; omega) hret
    rcases hqq with ⟨rfl, _⟩ | ⟨_, x4, o4, rfl, _, _⟩
    · skip
      refine tr_reg ?_
      refine rs_v (v_move rfl) rfl ?_
      refine rs_v (v_nilCheck_ptr rfl) rfl ?_
      refine rs_v (v_fieldAddr fa_keyspan_DefragmentingIter_4 rfl) rfl ?_
      refine rs_v (v_load one_p_keyspan_Span rfl (by exact Bc.cell _ rfl)) rfl ?_
      refine rs_v (v_peq u_p_keyspan_Span rfl rfl) rfl ?_
      refine rs_v (v_move rfl) rfl ?_
      refine rs_gv rfl (rfl) (v_move rfl) rfl ?_
      refine rs_gv rfl (rfl) (v_nilCheck_ptr rfl) rfl ?_
      refine rs_gv rfl (rfl) (v_fieldAddr fa_keyspan_DefragmentingIter_3 rfl) rfl ?_
      refine rs_gv rfl (rfl) (v_load one_keyspan_FragmentIterator rfl (by exact Bc.cell _ rfl)) rfl ?_
      refine rs_gw rfl (rfl) (w_mcall (vs := []) (hit.err D.it) rfl trivial) rfl ?_
      rintro _ h7 ⟨rfl, hsame⟩; have hsame := hsame.symm; subst hsame
      refine rs_gv rfl (rfl) (v_ine_nil isi_error rfl rfl) rfl ?_
      refine rs_v (v_pick_t rfl rfl) rfl ?_
      refine rs_nil ?_
      exact q_cut [(0, _), (67, _)] ⟨rfl, rfl, trivial⟩ ⟨rfl, rfl⟩
    · skip
      refine tr_reg ?_
      refine rs_v (v_move rfl) rfl ?_
      refine rs_v (v_nilCheck_ptr rfl) rfl ?_
      refine rs_v (v_fieldAddr fa_keyspan_DefragmentingIter_4 rfl) rfl ?_
      refine rs_v (v_load one_p_keyspan_Span rfl (by exact Bc.cell _ rfl)) rfl ?_
      refine rs_v (v_peq u_p_keyspan_Span rfl rfl) rfl ?_
      refine rs_v (v_move rfl) rfl ?_
      refine rs_gs rfl (rfl) rfl rfl ?_
      refine rs_gs rfl (rfl) rfl rfl ?_
      refine rs_gs rfl (rfl) rfl rfl ?_
      refine rs_gs rfl (rfl) rfl rfl ?_
      refine rs_gs rfl (rfl) rfl rfl ?_
      refine rs_gs rfl (rfl) rfl rfl ?_
      refine rs_v (v_pick_f rfl rfl) rfl ?_
      refine rs_nil ?_
      exact q_cut [(0, _), (67, _)] ⟨rfl, rfl, trivial⟩ ⟨rfl, rfl⟩
  rintro E h99 ⟨hh, rfl⟩
  subst hh
  refine tr_if_f rfl ?_
  refine tr_skip ?_
  refine q_thn ?_
  refine tr_seq ?_
  refine tr_seq ?_
  refine tr_reg ?_
  refine rs_v (v_move rfl) rfl ?_
  refine rs_v (v_nilCheck_ptr rfl) rfl ?_
  refine rs_v (v_fieldAddr fa_keyspan_DefragmentingIter_5 rfl) rfl ?_
  refine rs_v (v_load one_keyspan_iterPos rfl (by exact Bc.cell _ rfl)) rfl ?_
  refine rs_v (v_eq rfl rfl) rfl ?_
  refine rs_nil ?_
  refine q_thn ?_
  refine tr_if_t rfl ?_
  refine tr_reg ?_
  refine rs_v (v_move rfl) rfl ?_
  refine rs_v (v_move rfl) rfl ?_
  refine rs_v (v_nilCheck_ptr rfl) rfl ?_
  refine rs_v (v_fieldAddr fa_keyspan_DefragmentingIter_3 rfl) rfl ?_
  refine rs_v (v_load one_keyspan_FragmentIterator rfl (by exact Bc.cell _ rfl)) rfl ?_
  refine rs_w (w_mcall (vs := []) (hit.next D.it (by unfold prvP; split <;> rfl)) rfl trivial) rfl ?_
  rintro r9 h9 hp9
  rw [next_prv (a := b3) (by have := hrun3.1; have := hrun3.2.1; omega)] at hp9
  have DFF := D.ff
  obtain ⟨Fin2, D, hF2, _, KF2, hret2⟩ := D.inner hit hp9
  obtain ⟨qv2, rfl, _⟩ := hret2.form
  have hKz := KP.1
  have hFF2 : ∀ b, _ → F0 b ∨ h.size ≤ b := fun b hb => Or.elim hb (hFF b) (fun e => (hF2 b e).elim (fun e9 => hFF b (DFF b e9)) (fun e9 => Or.inr (by omega)))
  have KP := KP.trans KF2 hFF
  have hFF := hFF2
  have Bc := D.bc
  refine rs_v (v_nilCheck_ptr rfl) rfl ?_
  refine rs_v (v_fieldAddr fa_keyspan_DefragmentingIter_4 rfl) rfl ?_
  refine rs_w0 (w_put siz_p_keyspan_Span rfl rfl rfl rfl Bc rfl) ?_
  rintro _ h10 ⟨B10, K10⟩
  have hret1 := Ret.stab hret2 (K10.stab (A := Fin2) fun b hb => ⟨D.lo b (D.ff b hb), fun hm => D.di.fc (by rw [List.mem_singleton] at hm; subst hm; exact hb)⟩)
  have D := D.putC hit (sp' := .pointer qv2) (z' := (-1)) K10 B10
  have KP := KP.trans (K10.kp hcF) (fun _ h => .inl h)
  have Bc := D.bc
  refine rs_nil ?_
  refine q_thn ?_
  refine tr_seq ?_
  refine tr_reg ?_
  refine rs_v (v_move rfl) rfl ?_
  refine rs_w (w_call (vs := [_]) ok_keyspan_DefragmentingIter_defragmentForward rfl ⟨rfl, trivial⟩ (c_defragmentForward hit hgood D (i := b3) (by have := hrun3.1; have := hrun3.2.1; omega) hret1)) rfl ?_
  rintro r11 h11 ⟨b9, Fin3, F3, sp3, sv3, ev3, kv3, a3, ksv3, kbv3, nk3, xk3, nb9, xb9, hrun9, hend9, D, hret, rfl, hps9, KP3, hF3⟩
  obtain ⟨qv3, rfl, _⟩ := hret.form
  have hKz := KP.1
  have KP := KP.trans KP3 hFF
  have hFF : ∀ b, F3 b → F0 b ∨ h.size ≤ b := fun b hb => (hF3 b hb).elim (hFF b) (fun e9 => Or.inr (by omega))
  have Bc := D.bc
  refine rs_v (v_assign rfl) rfl ?_
  refine rs_nil ?_
  refine q_thn ?_
  refine tr_ret ?_
  refine q_ret (res_tmp rfl rfl) ?_
  have hg : Grp W b3 b9 := ⟨hend3, hrun9, hend9⟩
  rw [ge_grp hO hg (by have := hrun3.1; omega) (grp_in hrun3 hrun9.1 hend9)]
  exact di_post hlF hF0 hFc hcm Bq D hret (.inr (.inr (.inr ⟨b3, b9, rfl, hg, .inl ⟨rfl, rfl⟩⟩))) KP hFF (ret_grp hg D.fc hps9)
theorem c_DiSeekLT (χ : Chi) {W : List SpanD} {I : ItI} {t : TypeId} {v0 : Value} {cmb c cb : Nat} {p : Pos} {F : Nat → Prop} {h : Heap} (hit : IterOK Try.prog χ W t v0 I) (hgood : GoodD W) (hI : DIt W I t v0 cmb c cb p F h) (hO : Tess.Ord W) {kv0 : Value} {key : ByteArray} (hkey : RBytes (fun b => ¬ F b) h kv0 key) :
    Cl Try.prog χ 148 #[.pointer (some ⟨c, 0, none⟩), kv0] h (ItPost (dfr W) (DIt W I t v0 cmb c cb) F h (pLT (dfr W) key)) := by
  obtain ⟨q, Fin, F0, sp, z, sv, ev, kv, a, ksv, kbv, nk, xk, nb, xb, s0, D, hret, hrel, hcm, hF0, hFc, hlF, Bq⟩ := hI
  have KP := KeepP.refl F0 h
  have hFF : ∀ b, F0 b → F0 b ∨ h.size ≤ b := fun b hb => .inl hb
  have hcF : ∀ x, x ∈ [c] → F0 x := fun x hx => by rw [List.mem_singleton] at hx; subst hx; exact D.fc
  have Bc := D.bc
  refine cl_intro Try.func148 rfl rfl rfl ?_
  have K : Keep [] h h := Keep.refl _ _
  refine tr_seq ?_
  refine tr_reg ?_
  refine rs_v (v_assign rfl) rfl ?_
  refine rs_nil ?_
  refine q_thn ?_
  refine tr_seq ?_
  refine tr_reg ?_
  refine rs_v (v_move rfl) rfl ?_
  refine rs_v (v_move rfl) rfl ?_
  refine rs_v (v_nilCheck_ptr rfl) rfl ?_
  refine rs_v (v_fieldAddr fa_keyspan_DefragmentingIter_3 rfl) rfl ?_
  refine rs_v (v_load one_keyspan_FragmentIterator rfl (by exact Bc.cell _ rfl)) rfl ?_
  refine rs_v (v_move rfl) rfl ?_
  refine rs_w (w_mcall (vs := [_]) (hit.lt D.it (hkey.mono (fun b hb hf => hb (hF0 b (D.ff b hf))))) rfl ⟨rfl, trivial⟩) rfl ?_
  rintro r1 h1 hp1
  skip
  have DFF := D.ff
  obtain ⟨Fin2, D, hF2, _, KF2, hret2⟩ := D.inner hit hp1
  obtain ⟨qv2, rfl, _⟩ := hret2.form
  have hKz := KP.1
  have hFF2 : ∀ b, _ → F0 b ∨ h.size ≤ b := fun b hb => Or.elim hb (hFF b) (fun e => (hF2 b e).elim (fun e9 => hFF b (DFF b e9)) (fun e9 => Or.inr (by omega)))
  have KP := KP.trans KF2 hFF
  have hFF := hFF2
  have Bc := D.bc
  refine rs_v (v_nilCheck_ptr rfl) rfl ?_
  refine rs_v (v_fieldAddr fa_keyspan_DefragmentingIter_4 rfl) rfl ?_
  refine rs_w0 (w_put siz_p_keyspan_Span rfl rfl rfl rfl Bc rfl) ?_
  rintro _ h2 ⟨B2, K2⟩
  have hret1 := Ret.stab hret2 (K2.stab (A := Fin2) fun b hb => ⟨D.lo b (D.ff b hb), fun hm => D.di.fc (by rw [List.mem_singleton] at hm; subst hm; exact hb)⟩)
  have D := D.putC hit (sp' := .pointer qv2) (z' := z) K2 B2
  have KP := KP.trans (K2.kp hcF) (fun _ h => .inl h)
  have Bc := D.bc
  refine rs_nil ?_
  refine q_thn ?_
  refine tr_seq ?_
  refine tr_seq ?_
  refine tr_reg ?_
  refine rs_v (v_move rfl) rfl ?_
  refine rs_v (v_nilCheck_ptr rfl) rfl ?_
  refine rs_v (v_fieldAddr fa_keyspan_DefragmentingIter_4 rfl) rfl ?_
  refine rs_v (v_load one_p_keyspan_Span rfl (by exact Bc.cell _ rfl)) rfl ?_
  refine rs_v (v_peq u_p_keyspan_Span rfl rfl) rfl ?_
  refine rs_nil ?_
  refine q_thn ?_
  refine tr_if rfl (fun hif => ?_) (fun hif => ?_)
  · -- yes
    have hq := ret_gen (q := pLT W key) (P := ¬ ltI W key = 0) (i := (ltI W key - 1)) (q0 := .ahead) (by simp only [pLT]; split <;> simp_all) (fun h => by have := ltI_le W key; omega) (by simp [cur]) hret1
    rcases hq with ⟨rfl, hW⟩ | ⟨hW, hq, x2, o2, rfl, _, _⟩
    rotate_left
    · simp at hif
    refine tr_seq ?_
    refine tr_reg ?_
    refine rs_v (v_move rfl) rfl ?_
    refine rs_v (v_nilCheck_ptr rfl) rfl ?_
    refine rs_v (v_fieldAddr fa_keyspan_DefragmentingIter_5 rfl) rfl ?_
    refine rs_w0 (w_put siz_keyspan_iterPos rfl rfl rfl rfl Bc rfl) ?_
    rintro _ h3 ⟨B3, K3⟩
    have hret1 := Ret.stab hret1 (K3.stab (A := _) fun b hb => ⟨D.lo b (D.ff b hb), fun hm => D.di.fc (by rw [List.mem_singleton] at hm; subst hm; exact hb)⟩)
    have D := D.putC hit (sp' := .pointer none) (z' := 0) K3 B3
    have KP := KP.trans (K3.kp hcF) (fun _ h => .inl h)
    refine rs_nil ?_
    refine q_thn ?_
    refine tr_seq ?_
    refine tr_reg ?_
    refine rs_v (v_assign rfl) rfl ?_
    refine rs_nil ?_
    refine q_thn ?_
    refine tr_ret ?_
    refine q_thn_ret ?_
    refine q_ret (res_tmp rfl rfl) ?_
    rw [lt_none (by omega)]
    exact di_post hlF hF0 hFc hcm Bq D hret1 (.inr (.inr (.inl ⟨rfl, (by simp only [pLT]; exact if_pos (by omega)), rfl⟩))) KP hFF (by unfold Ret; rw [show cur (dfr W) .ahead = none from rfl])
  -- no
  have hq := ret_gen (q := pLT W key) (P := ¬ ltI W key = 0) (i := (ltI W key - 1)) (q0 := .ahead) (by simp only [pLT]; split <;> simp_all) (fun h => by have := ltI_le W key; omega) (by simp [cur]) hret1
  rcases hq with ⟨rfl, hW⟩ | ⟨hW, hq, x2, o2, rfl, hFb2, hps2⟩
  · simp at hif
  have hil : (ltI W key - 1) < W.length := by have := ltI_le W key; omega
  rw [hq] at D hret1
  obtain ⟨ss, se, sk, _, hcs, r1, r2, r3⟩ := hps2
  obtain ⟨ka, kc, rfl⟩ := SlR.form2 r3
  have hne := (hgood (nth W (ltI W key - 1)) (nth_mem hil)).1
  have hne0 : decide (((nth W (ltI W key - 1)).ks.length : Int) = 0) = false := by simp; exact hne
  have Bq2 := KP.blk hcm Bq
  have hke := RBytes.by ((RBytes.lowen hkey).stab (fun b hb => KP.2 b hb.2 (fun h0 => hb.1 (hF0 b h0))))
  refine tr_seq ?_
  refine tr_reg ?_
  refine rs_v (v_move rfl) rfl ?_
  refine rs_v (v_nilCheck_ptr rfl) rfl ?_
  refine rs_v (v_fieldAddr fa_keyspan_DefragmentingIter_4 rfl) rfl ?_
  refine rs_v (v_load one_p_keyspan_Span rfl (by exact Bc.cell _ rfl)) rfl ?_
  refine rs_w (w_call (vs := [_]) ok_keyspan_Span_Empty rfl ⟨rfl, trivial⟩ (c_Empty χ _ _ _ ka _ kc (hcs.at 2 rfl))) rfl ?_
  rintro _ h4 ⟨rfl, hsame⟩; have hsame := hsame.symm; subst hsame
  refine rs_nil ?_
  refine q_thn ?_
  refine tr_if_f (lkb hne0) ?_
  refine tr_skip ?_
  refine q_thn ?_
  refine tr_seq ?_
  refine tr_seq ?_
  refine tr_quiet (by kernel_rfl) (by kernel_rfl) ?_
  refine rq_v (v_move rfl) ?_
  refine rq_v (v_nilCheck_ptr rfl) ?_
  refine rq_v (v_fieldAddr fa_keyspan_DefragmentingIter_1 rfl) ?_
  refine rq_v (v_load one_p_base_Comparer rfl (by exact Bc.cell _ rfl)) ?_
  refine rq_v (v_nilCheck_ptr rfl) ?_
  refine rq_v (v_fieldAddr fa_base_Comparer_0 rfl) ?_
  refine rq_v (v_load one_base_Compare rfl (by exact Bq2.cell _ rfl)) ?_
  refine rq_v (v_move rfl) ?_
  refine rq_v (v_nilCheck_ptr rfl) ?_
  refine rq_v (v_fieldAddr fa_keyspan_DefragmentingIter_4 rfl) ?_
  refine rq_v (v_load one_p_keyspan_Span rfl (by exact Bc.cell _ rfl)) ?_
  refine rq_v (v_nilCheck_ptr rfl) ?_
  refine rq_v (v_fieldAddr fa_keyspan_Span_1 rfl) ?_
  refine rq_v (v_load one_sl_uint8 rfl (by exact hcs.at 1 rfl)) ?_
  refine rq_v (v_move rfl) ?_
  refine rq_w (w_callv (first := []) (cap := []) (vs := [_, _]) ok_bytes_Compare rfl ⟨rfl, rfl, trivial⟩ (c_Compare χ _ _ _ (nth W (ltI W key - 1)).e key (RBytes.by r2) hke)) ?_
  refine rq_v (v_lt rfl rfl) ?_
  refine rm_end ?_; simp only [endM, hypF, ofE, argE]
  refine q_thn ?_
  refine tr_if rfl (fun hif => ?_) (fun hif => ?_)
  · -- yes
    simp only [decide_eq_true_eq, decide_eq_false_iff_not] at hif
    refine tr_seq ?_
    refine tr_reg ?_
    refine rs_v (v_move rfl) rfl ?_
    refine rs_w (w_call (vs := [_]) ok_keyspan_DefragmentingIter_defragmentBackward rfl ⟨rfl, trivial⟩ (c_defragmentBackward hit hgood D hil hret1)) rfl ?_
    rintro r5 h5 ⟨b3, Fin3, F3, sp3, sv3, ev3, kv3, a3, ksv3, kbv3, nk3, xk3, nb3, xb3, hrun3, hend3, D, hret, rfl, hps3, KP3, hF3⟩
    obtain ⟨qv3, rfl, _⟩ := hret.form
    have hKz := KP.1
    have KP := KP.trans KP3 hFF
    have hFF : ∀ b, F3 b → F0 b ∨ h.size ≤ b := fun b hb => (hF3 b hb).elim (hFF b) (fun e9 => Or.inr (by omega))
    have Bc := D.bc
    refine rs_v (v_assign rfl) rfl ?_
    refine rs_nil ?_
    refine q_thn ?_
    refine tr_ret ?_
    refine q_thn_ret ?_
    refine q_ret (res_tmp rfl rfl) ?_
    have hi1 : ltI W key - 1 + 1 = ltI W key := by omega
    rw [hi1] at hrun3 hps3
    have hg : Grp W b3 (ltI W key) := ⟨hend3, hrun3, lt_end (by omega) (slt_iff.2 hif)⟩
    rw [lt_grp hO hg hrun3.1 (Nat.le_refl _)]
    exact di_post hlF hF0 hFc hcm Bq D hret (.inr (.inr (.inr ⟨b3, _, rfl, hg, .inr ⟨rfl, rfl⟩⟩))) KP hFF (ret_grp hg D.fc hps3)
  -- no
  simp only [decide_eq_true_eq, decide_eq_false_iff_not] at hif
  refine tr_skip ?_
  refine q_thn ?_
  refine tr_seq ?_
  refine tr_reg ?_
  refine rs_v (v_move rfl) rfl ?_
  refine rs_w (w_call (vs := [_]) ok_keyspan_DefragmentingIter_defragmentForward rfl ⟨rfl, trivial⟩ (c_defragmentForward hit hgood D hil hret1)) rfl ?_
  rintro r6 h6 ⟨b3, Fin3, F3, sp3, sv3, ev3, kv3, a3, ksv3, kbv3, nk3, xk3, nb3, xb3, hrun3, hend3, D, hret, rfl, hps3, KP3, hF3⟩
  obtain ⟨qv3, rfl, _⟩ := hret.form
  have hKz := KP.1
  have KP := KP.trans KP3 hFF
  have hFF : ∀ b, F3 b → F0 b ∨ h.size ≤ b := fun b hb => (hF3 b hb).elim (hFF b) (fun e9 => Or.inr (by omega))
  have Bc := D.bc
  refine rs_nil ?_
  refine q_thn ?_
  refine tr_seq ?_
  refine tr_cut (fun E h' => h6 = h' ∧ E = [(0, .pointer (some ⟨c, 0, none⟩)), (67, .bool false)]) ?_ ?_
  ·
    have hqq := ret_nxt hret
    rcases hqq with ⟨rfl, _⟩ | ⟨_, x4, o4, rfl, _, _⟩
    · skip
      refine tr_reg ?_
      refine rs_v (v_move rfl) rfl ?_
      refine rs_v (v_nilCheck_ptr rfl) rfl ?_
      refine rs_v (v_fieldAddr fa_keyspan_DefragmentingIter_4 rfl) rfl ?_
      refine rs_v (v_load one_p_keyspan_Span rfl (by exact Bc.cell _ rfl)) rfl ?_
      refine rs_v (v_peq u_p_keyspan_Span rfl rfl) rfl ?_
      refine rs_v (v_move rfl) rfl ?_
      refine rs_gv rfl (rfl) (v_move rfl) rfl ?_
      refine rs_gv rfl (rfl) (v_nilCheck_ptr rfl) rfl ?_
      refine rs_gv rfl (rfl) (v_fieldAddr fa_keyspan_DefragmentingIter_3 rfl) rfl ?_
      refine rs_gv rfl (rfl) (v_load one_keyspan_FragmentIterator rfl (by exact Bc.cell _ rfl)) rfl ?_
      refine rs_gw rfl (rfl) (w_mcall (vs := []) (hit.err D.it) rfl trivial) rfl ?_
      rintro _ h7 ⟨rfl, hsame⟩; have hsame := hsame.symm; subst hsame
      refine rs_gv rfl (rfl) (v_ine_nil isi_error rfl rfl) rfl ?_
      refine rs_v (v_pick_t rfl rfl) rfl ?_
      refine rs_nil ?_
      exact q_cut [(0, _), (67, _)] ⟨rfl, rfl, trivial⟩ ⟨rfl, rfl⟩
    · skip
      refine tr_reg ?_
      refine rs_v (v_move rfl) rfl ?_
      refine rs_v (v_nilCheck_ptr rfl) rfl ?_
      refine rs_v (v_fieldAddr fa_keyspan_DefragmentingIter_4 rfl) rfl ?_
      refine rs_v (v_load one_p_keyspan_Span rfl (by exact Bc.cell _ rfl)) rfl ?_
      refine rs_v (v_peq u_p_keyspan_Span rfl rfl) rfl ?_
      refine rs_v (v_move rfl) rfl ?_
      refine rs_gs rfl (rfl) rfl rfl ?_
      refine rs_gs rfl (rfl) rfl rfl ?_
      refine rs_gs rfl (rfl) rfl rfl ?_
      refine rs_gs rfl (rfl) rfl rfl ?_
      refine rs_gs rfl (rfl) rfl rfl ?_
      refine rs_gs rfl (rfl) rfl rfl ?_
      refine rs_v (v_pick_f rfl rfl) rfl ?_
      refine rs_nil ?_
      exact q_cut [(0, _), (67, _)] ⟨rfl, rfl, trivial⟩ ⟨rfl, rfl⟩
  rintro E h99 ⟨hh, rfl⟩
  subst hh
  refine tr_if_f rfl ?_
  refine tr_skip ?_
  refine q_thn ?_
  refine tr_seq ?_
  refine tr_seq ?_
  refine tr_reg ?_
  refine rs_v (v_move rfl) rfl ?_
  refine rs_v (v_nilCheck_ptr rfl) rfl ?_
  refine rs_v (v_fieldAddr fa_keyspan_DefragmentingIter_5 rfl) rfl ?_
  refine rs_v (v_load one_keyspan_iterPos rfl (by exact Bc.cell _ rfl)) rfl ?_
  refine rs_v (v_eq rfl rfl) rfl ?_
  refine rs_nil ?_
  refine q_thn ?_
  refine tr_if_t rfl ?_
  refine tr_reg ?_
  refine rs_v (v_move rfl) rfl ?_
  refine rs_v (v_move rfl) rfl ?_
  refine rs_v (v_nilCheck_ptr rfl) rfl ?_
  refine rs_v (v_fieldAddr fa_keyspan_DefragmentingIter_3 rfl) rfl ?_
  refine rs_v (v_load one_keyspan_FragmentIterator rfl (by exact Bc.cell _ rfl)) rfl ?_
  refine rs_w (w_mcall (vs := []) (hit.prev D.it (by unfold nxtP; split <;> rfl)) rfl trivial) rfl ?_
  rintro r9 h9 hp9
  rw [prev_nxt (b := b3) (by have := hrun3.1; omega) hrun3.2.1] at hp9
  have DFF := D.ff
  obtain ⟨Fin2, D, hF2, _, KF2, hret2⟩ := D.inner hit hp9
  obtain ⟨qv2, rfl, _⟩ := hret2.form
  have hKz := KP.1
  have hFF2 : ∀ b, _ → F0 b ∨ h.size ≤ b := fun b hb => Or.elim hb (hFF b) (fun e => (hF2 b e).elim (fun e9 => hFF b (DFF b e9)) (fun e9 => Or.inr (by omega)))
  have KP := KP.trans KF2 hFF
  have hFF := hFF2
  have Bc := D.bc
  refine rs_v (v_nilCheck_ptr rfl) rfl ?_
  refine rs_v (v_fieldAddr fa_keyspan_DefragmentingIter_4 rfl) rfl ?_
  refine rs_w0 (w_put siz_p_keyspan_Span rfl rfl rfl rfl Bc rfl) ?_
  rintro _ h10 ⟨B10, K10⟩
  have hret1 := Ret.stab hret2 (K10.stab (A := Fin2) fun b hb => ⟨D.lo b (D.ff b hb), fun hm => D.di.fc (by rw [List.mem_singleton] at hm; subst hm; exact hb)⟩)
  have D := D.putC hit (sp' := .pointer qv2) (z' := 1) K10 B10
  have KP := KP.trans (K10.kp hcF) (fun _ h => .inl h)
  have Bc := D.bc
  refine rs_nil ?_
  refine q_thn ?_
  refine tr_seq ?_
  refine tr_reg ?_
  refine rs_v (v_move rfl) rfl ?_
  refine rs_w (w_call (vs := [_]) ok_keyspan_DefragmentingIter_defragmentBackward rfl ⟨rfl, trivial⟩ (c_defragmentBackward hit hgood D (i := (b3 - 1)) (by have := hrun3.1; have := hrun3.2.1; omega) hret1)) rfl ?_
  rintro r11 h11 ⟨b9, Fin3, F3, sp3, sv3, ev3, kv3, a3, ksv3, kbv3, nk3, xk3, nb9, xb9, hrun9, hend9, D, hret, rfl, hps9, KP3, hF3⟩
  obtain ⟨qv3, rfl, _⟩ := hret.form
  have hKz := KP.1
  have KP := KP.trans KP3 hFF
  have hFF : ∀ b, F3 b → F0 b ∨ h.size ≤ b := fun b hb => (hF3 b hb).elim (hFF b) (fun e9 => Or.inr (by omega))
  have Bc := D.bc
  refine rs_v (v_assign rfl) rfl ?_
  refine rs_nil ?_
  refine q_thn ?_
  refine tr_ret ?_
  refine q_ret (res_tmp rfl rfl) ?_
  have hb31 : b3 - 1 + 1 = b3 := by have := hrun3.1; omega
  rw [hb31] at hrun9 hps9
  have hg : Grp W b9 b3 := ⟨hend9, hrun9, hend3⟩
  have hb9 := grp_in2 hrun3 hrun9.1 hend9
  rw [lt_grp hO hg (by omega) (by have := hrun3.1; omega)]
  exact di_post hlF hF0 hFc hcm Bq D hret (.inr (.inr (.inr ⟨b9, b3, rfl, hg, .inr ⟨rfl, rfl⟩⟩))) KP hFF (ret_grp hg D.fc hps9)
theorem di_ok {χ : Chi} {W : List SpanD} {I : ItI} {t : TypeId} {v0 : Value} (cmb c cb : Nat) (hit : IterOK Try.prog χ W t v0 I) (hgood : GoodD W) (hO : Tess.Ord W) :
    IterOK Try.prog χ (dfr W) 165 (.pointer (some ⟨c, 0, none⟩)) (DIt W I t v0 cmb c cb) where
  low := fun hI => by obtain ⟨q, Fin, F0, sp, z, sv, ev, kv, a, ksv, kbv, nk, xk, nb, xb, s0, D, hret, hrel, hcm, hF0, hFc, hlF, Bq⟩ := hI; exact hlF
  stab := fun {p F h h'} hI hs hz => by
    obtain ⟨q, Fin, F0, sp, z, sv, ev, kv, a, ksv, kbv, nk, xk, nb, xb, s0, D, hret, hrel, hcm, hF0, hFc, hlF, Bq⟩ := hI
    have sF : Stab Fin h h' := fun b hb => hs b (hF0 b (D.ff b hb))
    have own : ∀ {e : TypeId} {size : Nat} {v : Value} {n : Nat} {xs : List Value}, Own h 0 e size v n xs → (∀ x, x ∈ v.ownBlock.toList → F0 x) → Own h' 0 e size v n xs := fun ho hx => by
      refine ⟨ho.1, ?_⟩
      rcases ho.2 with hn | ⟨g, cap, cur, rfl, hb, hgg, rest⟩
      · exact .inl hn
      · exact .inr ⟨g, cap, cur, rfl, hb, (hs g (hF0 g (hx g (by simp [Value.ownBlock])))).trans hgg, rest⟩
    have hA : Aren h' a := by
      rcases D.ar with e | ⟨g, n, c', cs, e, q1, q2, q3, B⟩
      · exact .inl e
      · exact .inr ⟨g, n, c', cs, e, q1, q2, q3, (hs g (hF0 g (D.fa g (by rw [e]; simp [Value.ownBlock])))).trans B⟩
    exact ⟨q, Fin, F0, sp, z, sv, ev, kv, a, ksv, kbv, nk, xk, nb, xb, s0, ⟨hit.stab D.it sF hz, (hs c (hF0 c D.fc)).trans D.bc, (hs cb (hF0 cb D.fb)).trans D.bb, hA, own D.ok D.fk, own D.ob D.fo, D.di, D.ff, D.fc, D.fb, D.fa, D.fk, D.fo, D.lo.mono hz⟩, Ret.stab hret sF, hrel, hcm, hF0, hFc, hlF.mono hz, (hs cmb hFc).trans Bq⟩
  first := fun hI => ⟨_, _, ok_keyspan_DefragmentingIter_First, m_DiFirst _, c_DiFirst χ hit hgood hI⟩
  last := fun hI => ⟨_, _, ok_keyspan_DefragmentingIter_Last, m_DiLast _, c_DiLast χ hit hgood hI⟩
  next := fun hI hc => ⟨_, _, ok_keyspan_DefragmentingIter_Next, m_DiNext _, c_DiNext χ hit hgood hI hc⟩
  prev := fun hI hc => ⟨_, _, ok_keyspan_DefragmentingIter_Prev, m_DiPrev _, c_DiPrev χ hit hgood hI hc⟩
  ge := fun hI hk => ⟨_, _, ok_keyspan_DefragmentingIter_SeekGE, m_DiSeekGE _, c_DiSeekGE χ hit hgood hI hO hk⟩
  lt := fun hI hk => ⟨_, _, ok_keyspan_DefragmentingIter_SeekLT, m_DiSeekLT _, c_DiSeekLT χ hit hgood hI hO hk⟩
  err := fun hI => ⟨_, _, ok_keyspan_DefragmentingIter_Error, m_DiError _, c_DiError χ hit hI⟩
end Go.Proofs.Ytgebfbnndgjkiaa
namespace Go.Proofs.Ytgebfbnndgjkiaa
open Go.Tess Go.RowKit
set_option maxRecDepth 100000
set_option maxHeartbeats 1000000
theorem v_makeIfaceF {P : Program} {χ : Chi} {ρ : Operand → Option Value} {h : Heap} {dst : Option Tmp} {ty : TypeId} {pos : String} {after : Array Edge} {guard : Option (Nat × Bool)} {x : Operand} {t : TypeId} {v : Value} (ht : Tess.IsFunc P t) (hx : ρ x = some v) : OpV P χ ⟨dst, .makeInterface t x, ty, pos, after, guard⟩ ρ h (.iface t v) := by
  intro r d hr
  have e1 := hr x (by simp [Op.operands]) _ hx
  unfold Tess.IsFunc at ht
  cases hu : P.underlying t with
  | none => rw [hu] at ht; simp at ht
  | some d' =>
    rw [hu] at ht
    cases d' <;> first | (simp at ht; done) | skip
    simp [execOp, e1, Instr.makeInterface, run_underlying hu]
/-- A block of slices holds no part of a span. -/
theorem SlR.nea {α : Type} {h : Heap} {A A' : Nat → Prop} {sz : Nat} {R R' : Heap → Nat → Nat → α → Prop} {v : Value} {xs : List α} (hr : SlR h A sz R v xs) (hR : ∀ b o x, A b → R h b o x → A' b ∧ R' h b o x) : SlR h A' sz R' v xs := by
  obtain ⟨hl, a, c, e, hx⟩ := hr
  exact ⟨hl, a, c, e, fun i x hi => by obtain ⟨b, o, e1, e2, e3⟩ := hx i x hi; exact ⟨b, o, e1, (hR b _ x e2 e3).1, (hR b _ x e2 e3).2⟩⟩
theorem cell_blk {h : Heap} {b o : Nat} {cs : List Value} {T : TypeId} (B : Blk h b cs T) {v : Value} (hc : cellH h b o = some v) : v ∈ cs := by
  unfold cellH at hc; unfold Blk at B
  rw [B] at hc
  have : cs[o]? = some v := by simpa using hc
  exact List.mem_of_getElem? this
section
variable {A : Nat → Prop} {h : Heap} {v : Value} {cb : Nat} {cs : List Value} {T : TypeId}
theorem RBytes.nes {s : ByteArray} (B : Blk h cb cs T) (hs : ∀ x, x ∈ cs → ∃ a n c, x = Value.slice a n c) (hr : RBytes A h v s) : RBytes (fun b => A b ∧ b ≠ cb) h v s :=
  SlR.nea hr fun b o x hb hc => ⟨⟨⟨hb.1, fun e => by
    subst e
    obtain ⟨a, n, c, e⟩ := hs _ (cell_blk B hc)
    cases e⟩, hb.2⟩, hc⟩
theorem PKeys.nes {ks : List KeyD} (B : Blk h cb cs T) (hs : ∀ x, x ∈ cs → ∃ a n c, x = Value.slice a n c) (hr : PKeys A h v ks) : PKeys (fun b => A b ∧ b ≠ cb) h v ks :=
  SlR.nea hr fun b o x hb hc => by
    obtain ⟨sv, vv, h1, h2, h3⟩ := hc
    refine ⟨⟨hb, fun e => ?_⟩, sv, vv, h1, RBytes.nes B hs h2, RBytes.nes B hs h3⟩
    subst e
    obtain ⟨a, n, c, e⟩ := hs _ (cell_blk B (h1.at 0 rfl))
    cases e
theorem PSpans.nes {W : List SpanD} (B : Blk h cb cs T) (hs : ∀ x, x ∈ cs → ∃ a n c, x = Value.slice a n c) (hr : PSpans A h v W) : PSpans (fun b => A b ∧ b ≠ cb) h v W :=
  SlR.nea hr fun b o x hb hc => by
    obtain ⟨sv, ev, kv, kk, h1, h2, h3, h4⟩ := hc
    refine ⟨⟨hb, fun e => ?_⟩, sv, ev, kv, kk, h1, RBytes.nes B hs h2, RBytes.nes B hs h3, PKeys.nes B hs h4⟩
    subst e
    obtain ⟨a, n, c, e⟩ := hs _ (cell_blk B (h1.at 3 rfl))
    cases e
end
theorem dfr_mem {W : List SpanD} {x : SpanD} (h : x ∈ dfr W) : (∃ t, t ∈ W ∧ x.s = t.s) ∧ (∃ t, t ∈ W ∧ x.e = t.e) ∧ ∃ t, t ∈ W ∧ x.ks = t.ks := by
  cases W with
  | nil => simp [dfr] at h
  | cons s r => exact joinF_mem r s x h
abbrev bufZ : List Value := [.slice none 0 0, .slice none 0 0, .slice none 0 0]
theorem bufZ_sl : ∀ x, x ∈ bufZ → ∃ a n c, x = Value.slice a n c := by
  intro x hx
  simp only [List.mem_cons, List.not_mem_nil, or_false] at hx
  rcases hx with rfl | rfl | rfl <;> exact ⟨_, _, _, rfl⟩

theorem c_DiInit (χ : Chi) (h : Heap) (c cmb cb : Nat) (t : TypeId) (v0 : Value) (s : ByteArray) (y0 y1 y2 y3 y4 y5 y6 y7 y8 y9 y10 y11 : Value) (Bq : Blk h cmb (cmpL s) 119) (Bc : Blk h c [y0, y1, y2, y3, y4, y5, y6, y7, y8, y9, y10, y11] dfT) :
    Cl Try.prog χ 66 #[.pointer (some ⟨c, 0, none⟩), .pointer (some ⟨cmb, 0, none⟩), .iface t v0, mthV, redF, .pointer (some ⟨cb, 0, none⟩)] h (fun r h' => r = .tuple #[] ∧ Blk h' c (dL cb (.pointer (some ⟨cmb, 0, none⟩)) eqF (.iface t v0) (.pointer none) 0 (.slice none 0 0) (.slice none 0 0) (.slice none 0 0) mthV redF) dfT ∧ Keep [c] h h') := by
  unfold eqF mthV redF defF
  refine cl_intro Try.func66 rfl rfl rfl ?_
  have K : Keep [c] h h := Keep.refl _ _
  refine tr_reg ?_
  refine rs_v (v_move rfl) rfl ?_
  refine rs_v (v_move rfl) rfl ?_
  refine rs_v (v_move rfl) rfl ?_
  refine rs_v (v_move rfl) rfl ?_
  refine rs_v (v_nilCheck_ptr rfl) rfl ?_
  refine rs_v (v_fieldAddr fa_base_Comparer_1 rfl) rfl ?_
  refine rs_v (v_load one_base_Equal rfl (by exact Bq.cell _ rfl)) rfl ?_
  refine rs_v (v_move rfl) rfl ?_
  refine rs_v (v_move rfl) rfl ?_
  refine rs_v (v_move rfl) rfl ?_
  refine rs_v (v_buildN (us := [_, _, _, _, _, _]) ⟨rfl, rfl, rfl, rfl, rfl, rfl, trivial⟩ (bld_keyspan_DefragmentingIter_0_1_2_3_7_8 _ _ _ _ _ _ _ _ _ _ _ _)) rfl ?_
  refine rs_v (v_nilCheck_ptr rfl) rfl ?_
  refine rs_w0 (w_put siz_keyspan_DefragmentingIter rfl rfl rfl rfl Bc rfl) ?_
  rintro _ h1 ⟨B1, K1⟩
  have Bc := B1; have K := K.new1 K1 (by first | (right; omega) | (left; simp; done)); have Z1 := K1.1
  refine rs_nil ?_
  refine q_end (res_none rfl) ?_
  exact ⟨rfl, Bc, K⟩
theorem c_implSpanDefragmented (χ : Chi) (h : Heap) (A : Nat → Prop) (hA : Low A h) (v sv : Value) (W : List SpanD) (steps : List StepD) (hW : RSpans A h v W) (hn : W.length ≤ 100000) (hm : ∀ s, s ∈ W → SpanD.small s) (hO : Tess.Ord W) (hgood : GoodD W)
    (hS : RSteps A h sv steps) (hsn : steps.length ≤ 1000) (hz : ∀ s, s ∈ steps → s.key.size ≤ 9223372036854775807) :
    Cl Try.prog χ 33 #[v, sv] h (fun r h' => RAnss (Up N0 h h') h' r (walkP (dfr W) .nowhere steps) ∧ Keep [] h h') := by
  refine cl_intro Try.func33 rfl rfl rfl ?_
  have K : Keep [] h h := Keep.refl _ _
  refine tr_seq ?_
  refine tr_reg ?_
  refine rs_v (v_assign rfl) rfl ?_
  refine rs_nil ?_
  refine q_thn ?_
  refine tr_seq ?_
  refine tr_reg ?_
  refine rs_w (w_call (vs := []) ok_base_DefaultComparer rfl trivial (c_DefaultComparer2 χ _)) rfl ?_
  rintro _ h1 ⟨rfl, ⟨s9, Bq⟩, K1⟩
  have hBql := Bq.lt
  have K := K.new0 K1; have Z1 := K1.1
  refine rs_v (v_assign rfl) rfl ?_
  refine rs_nil ?_
  refine q_thn ?_
  refine tr_seq ?_
  refine tr_reg ?_
  refine rs_w (w_new zero_keyspan_DefragmentingIter) rfl ?_
  rintro _ h2 ⟨rfl, B2, K2, Z2⟩
  try have Bq := (K2).blk (by first | (simp; done) | (simp; omega)) Bq
  have S2 := K.1; have K := K.new0 K2
  refine rs_nil ?_
  refine q_thn ?_
  refine tr_seq ?_
  refine tr_draw [(true, 11), (false, 1)] _ (by kernel_rfl) (by kernel_rfl) (by kernel_rfl) ?_
  refine rx_any (Keep []) (keep_pre _) ?_
  refine rm_v (keep_pre _) (fun h' hk => v_move rfl) ?_
  refine rm_v (keep_pre _) (fun h' hk => v_move rfl) ?_
  refine rm_v (keep_pre _) (fun h' hk => v_nilCheck_ptr rfl) ?_
  refine rm_v (keep_pre _) (fun h' hk => v_fieldAddr fa_base_Comparer_0 rfl) ?_
  refine rm_v (keep_pre _) (fun h' hk => v_load one_base_Compare rfl (Blk.cell (hk.blk (by simp) Bq) _ rfl)) ?_
  refine rm_v (keep_pre _) (fun h' hk => v_move rfl) ?_
  refine rm_w (fun v h' => PSpans (Up N0 h2 h') h' v W) (fun v _ _ k1 k2 hr => (hr.stab (k2.st ((n0low _).up k1.1))).mono (Up.grow k2.1)) (fun h' hk => OpW.mono (w_call (vs := [_]) ok_impl_spans rfl ⟨rfl, trivial⟩ (c_spans χ h' A (hA.mono (K.new0 hk).1) _ W (hW.stab ((K.new0 hk).st hA)) hn hm)) (fun v h'' hv => ⟨hv.2, hv.1.mono (Up.trans2 hk.1 (Nat.le_refl _))⟩)) ?_
  refine rm_o 14 (fun v h' => ∃ b a c, v = .pointer (some ⟨b, 0, none⟩) ∧ h2.size ≤ b ∧ Blk h' b (itL (.slice a W.length c) (-1)) 187 ∧ PSpans (fun x => h2.size ≤ x ∧ x < b) h' (.slice a W.length c) W) rfl (by kernel_rfl) (fun v _ _ k1 k2 hr => by obtain ⟨b, a, c, e, hb, B, hp⟩ := hr; exact ⟨b, a, c, e, hb, k2.blk (by simp) B, hp.stab (k2.stab fun x hx => ⟨by have := B.lt; have := hx.2; omega, by simp⟩)⟩) (fun u h' hk hu => by
    obtain ⟨a, c, rfl⟩ := SlR.form2 hu
    exact OpW.mono (w_call (vs := [_, _]) ok_keyspan_NewIter rfl ⟨rfl, rfl, trivial⟩ (c_NewIter χ h' a W.length c)) (fun v h'' hv => by
      obtain ⟨e, B, Kn⟩ := hv
      exact ⟨Kn, _, a, c, e, hk.1, B, (PSpans.stab hu (Kn.st ((n0low _).up hk.1))).mono (fun x hx => hx.elim (fun e => e.elim) id)⟩)) ?_
  refine rm_o 15 (fun v h' => ∃ b a c, v = .iface 136 (.pointer (some ⟨b, 0, none⟩)) ∧ h2.size ≤ b ∧ Blk h' b (itL (.slice a W.length c) (-1)) 187 ∧ PSpans (fun x => h2.size ≤ x ∧ x < b) h' (.slice a W.length c) W) rfl (by kernel_rfl) (fun v _ _ k1 k2 hr => by obtain ⟨b, a, c, e, hb, B, hp⟩ := hr; exact ⟨b, a, c, e, hb, k2.blk (by simp) B, hp.stab (k2.stab fun x hx => ⟨by have := B.lt; have := hx.2; omega, by simp⟩)⟩) (fun u h' hk hu => by
    obtain ⟨b, a, c, rfl, hb, B, hp⟩ := hu
    exact (v_makeIface u_p_keyspan_Iter rfl).w.mono (fun _ _ e => by obtain ⟨e1, e2⟩ := e; subst e1; subst e2; exact ⟨Keep.refl _ _, b, a, c, rfl, hb, B, hp⟩)) ?_
  refine rm_v (keep_pre _) (fun h' hk => v_makeIfaceF isf_keyspan_DefragmentMethodFunc rfl) ?_
  refine rm_w (fun v h' => ∃ b, v = .pointer (some ⟨b, 0, none⟩) ∧ h2.size ≤ b ∧ Blk h' b bufZ bufT) (fun v _ _ k1 k2 hr => by obtain ⟨b, e, hb, B⟩ := hr; exact ⟨b, e, hb, k2.blk (by simp) B⟩) (fun h' hk => OpW.mono (w_new zero_keyspan_DefragmentingBuffers) (fun v h'' hv => by
    obtain ⟨e, B, Kn, _⟩ := hv
    exact ⟨Kn, _, e, hk.1, B⟩)) ?_
  refine rm_end ?_; intro ha Ka; simp only [endM, hypF, ofE, argE, List.nil_append]
  intro v18 h18 v16 h16 v15 _ v14 _
  obtain ⟨bi, wa, wc, rfl, hbi, Bi, hPW⟩ := h16
  obtain ⟨cb, rfl, hcb, Bb⟩ := h18
  have hPW := PSpans.nes Bb bufZ_sl hPW
  have hib : bi ≠ cb := fun e => by subst e; have := blk_inj Bi Bb; simp [itL] at this
  have B2 := Ka.blk (by simp) B2
  have Bq := Ka.blk (by simp) Bq
  have K := K.new0 Ka; have Za := Ka.1
  have hbl := Bi.lt; have hcl := Bb.lt
  refine rx_seq ?_
  refine rs_w (w_call (vs := [_, _, _, _, _, _]) ok_keyspan_DefragmentingIter_Init rfl ⟨rfl, rfl, rfl, rfl, rfl, rfl, trivial⟩ (c_DiInit χ _ _ _ _ _ _ _ _ _ _ _ _ _ _ _ _ _ _ _ Bq B2)) rfl ?_
  rintro _ h3 ⟨rfl, Bc, K3⟩
  have Z3 := K3.1
  have hne3 : ∀ x, h2.size ≤ x → x ∉ [h1.size] := fun x hx hm => by rw [List.mem_singleton] at hm; omega
  have Bi := K3.blk (hne3 _ hbi) Bi
  have Bb := K3.blk (hne3 _ hcb) Bb
  have Bq := K3.blk (by simp; omega) Bq
  have hPW := hPW.stab (K3.stab fun x hx => ⟨by have := hx.1.2; omega, hne3 _ hx.1.1⟩)
  have K := K.new1 K3 (.inr (by omega))
  refine rs_nil ?_
  refine q_con ?_
  refine rx_nil ?_
  refine q_thn ?_
  refine tr_seq ?_
  refine tr_reg ?_
  refine rs_v (v_makeIface u_p_keyspan_DefragmentingIter rfl) rfl ?_
  refine rs_v (v_move rfl) rfl ?_
  refine rs_w (w_call (vs := [_, _]) ok_impl_walkSpans rfl ⟨rfl, rfl, trivial⟩ (c_walkSpans χ h3 A (hA.mono K.1) (dfr W) _ _ _
    (di_ok h.size h1.size cb (itB_ok χ bi wa wc W 187 hn hO) hgood hO)
    (fun b => h.size ≤ b ∧ b < h3.size)
    ⟨.nowhere, (fun x => h2.size ≤ x ∧ x < h3.size ∧ x ≠ cb), (fun x => h1.size ≤ x ∧ x < h3.size), .pointer none, 0, _, _, _, .slice none 0 0, .slice none 0 0, .slice none 0 0, 0, [], 0, [], s9,
      ⟨⟨_, (fun x => (h2.size ≤ x ∧ x < bi) ∧ x ≠ cb), Bi, trivial, hPW, (fun x hx => ⟨⟨hx.1.1, by have := hx.1.2; omega, hx.2⟩, by have := hx.1.2; omega⟩), ⟨hbi, by omega, hib⟩, (fun x hx => hx.2.1)⟩,
       Bc, Bb, .inl rfl, Own.nil _ _ _ _, Own.nil _ _ _ _, ⟨by omega, (fun hx => by have := hx.1; omega), (fun hx => hx.2.2 rfl), (by simp [Value.ownBlock]), (by simp [Value.ownBlock]), (by simp [Value.ownBlock])⟩,
       (fun x hx => ⟨by have := hx.1; omega, hx.2.1⟩), ⟨by omega, by omega⟩, ⟨by omega, by omega⟩, (by simp [Value.ownBlock]), (by simp [Value.ownBlock]), (by simp [Value.ownBlock]), (fun x hx => hx.2)⟩,
      rfl, .inl rfl, (fun hx => by have := hx.1; omega), (fun x hx => ⟨by have := hx.1; omega, hx.2⟩), ⟨by omega, by omega⟩, (fun x hx => hx.2), Bq⟩
    (fun b hb hf => by have := hA b hb; have := hf.1; omega) sv steps (hS.stab (K.st hA)) hsn hz (fun s hs => by obtain ⟨_, _, t, ht, e⟩ := dfr_mem hs; rw [e]; exact (hm t ht).2.2.1))) rfl ?_
  rintro r9 h4 ⟨hans, KP⟩
  refine rs_v (v_assign rfl) rfl ?_
  refine rs_nil ?_
  refine q_thn ?_
  refine tr_ret ?_
  refine q_ret (res_tmp rfl rfl) ?_
  have h60 := K.1
  exact ⟨hans.mono (n0up h60 (Nat.le_refl _)), keep_of_p K KP (fun b hb => hb.1)⟩
end Go.Proofs.Ytgebfbnndgjkiaa
namespace Go.Proofs.Ytgebfbnndgjkiaa
open Go.Tess Go.RowKit
set_option maxRecDepth 100000
set_option maxHeartbeats 1000000
theorem dfr_len (l : List SpanD) : (dfr l).length ≤ l.length := by
  have : ∀ (L : List SpanD) (c : SpanD), (joinF c L).length ≤ L.length + 1 := by
    intro L
    induction L with
    | nil => intro c; simp [joinF]
    | cons x r ih =>
      intro c
      simp only [joinF, List.length_cons]
      split
      · have := ih ⟨c.s, x.e, c.ks⟩; omega
      · have := ih x; simp only [List.length_cons]; omega
  cases l with
  | nil => simp [dfr]
  | cons x r => simpa [dfr] using this r x
end Go.Proofs.Ytgebfbnndgjkiaa
namespace Go.Proofs.Ytgebfbnndgjkiaa
open Go.Tess Go.RowKit
set_option maxRecDepth 100000
set_option maxHeartbeats 1000000
theorem descB_map {l m : List KeyD} (h : l.map (·.tr) = m.map (·.tr)) (hd : descB l = true) : descB m = true := by
  have h1 := (desc_pair l).1 hd
  have h2 : (l.map (·.tr)).Pairwise (fun a b => b ≤ a) := List.pairwise_map.2 h1
  rw [h] at h2
  exact (desc_pair m).2 (List.pairwise_map.1 h2)
theorem swapAt_tr {l : List KeyD} {j : Nat} (h : lessAt l (j + 1) = true) (hd : descB l = true) : (swapAt l j).map (·.tr) = l.map (·.tr) := by
  simp only [lessAt] at h
  cases ha : l[j + 1]? with
  | none => rw [ha] at h; cases h
  | some a =>
    cases hb : l[j]? with
    | none => rw [ha, hb] at h; cases h
    | some b =>
      rw [ha, hb] at h
      simp only at h
      have h1 : b.tr ≤ a.tr := by
        unfold keyLess at h
        split at h
        · omega
        · simp at h; omega
      have h2 : a.tr ≤ b.tr := by
        have hp := (desc_pair l).1 hd
        have := List.pairwise_iff_getElem.1 hp j (j + 1) (List.getElem?_eq_some_iff.1 hb).1 (List.getElem?_eq_some_iff.1 ha).1 (by omega)
        rw [(List.getElem?_eq_some_iff.1 hb).2, (List.getElem?_eq_some_iff.1 ha).2] at this
        exact this
      have e : a.tr = b.tr := by omega
      have es : swapAt l j = (l.set (j + 1) b).set j a := by simp [swapAt, ha, hb]
      rw [es, List.map_set, List.map_set]
      refine List.ext_getElem? fun i => ?_
      rw [List.getElem?_set, List.getElem?_set]
      simp only [List.length_set, List.length_map, List.getElem?_map]
      have hl1 := (List.getElem?_eq_some_iff.1 hb).1
      have hl2 := (List.getElem?_eq_some_iff.1 ha).1
      by_cases e1 : j = i
      · subst e1; simp [hl1, hb, e]; rw [(List.getElem?_eq_some_iff.1 hb).2]
      · by_cases e2 : j + 1 = i
        · subst e2; simp [ha, hl2, e]; rw [(List.getElem?_eq_some_iff.1 ha).2, e]
        · simp [e1, e2]
theorem insW_tr : ∀ (j : Nat) (l : List KeyD), descB l = true → (insW l j).map (·.tr) = l.map (·.tr)
  | 0, l, _ => rfl
  | j + 1, l, hd => by
    simp only [insW]
    split
    · rename_i h
      have e := swapAt_tr h hd
      rw [insW_tr j _ (descB_map e.symm hd), e]
    · rfl
theorem descB_take {l : List KeyD} (h : descB l = true) (k : Nat) : descB (l.take k) = true :=
  (desc_pair _).2 (((desc_pair _).1 h).sublist (List.take_sublist k l))
theorem canonF_tr {ks : List KeyD} (hd : descB ks = true) : ∀ k, k ≤ ks.length → (canonF (ks.take k)).map (·.tr) = (ks.take k).map (·.tr)
  | 0, _ => rfl
  | k + 1, hk => by
    obtain ⟨x, hx⟩ := ex_get (L := ks) (k := k) (by omega)
    rw [take_snoc' hx, canonF_snoc]
    have e : (canonF (ks.take k) ++ [x]).map (·.tr) = (ks.take k ++ [x]).map (·.tr) := by rw [List.map_append, List.map_append, canonF_tr hd k (by omega)]
    rw [insW_tr _ _ (descB_map e.symm (by rw [← take_snoc' hx]; exact descB_take hd _)), e]
theorem canonF_desc {ks : List KeyD} (hd : descB ks = true) : descB (canonF ks) = true := by
  have := canonF_tr hd ks.length (Nat.le_refl _)
  rw [List.take_length] at this
  exact descB_map this.symm hd
theorem swapAt_mem {l : List KeyD} {j : Nat} {x : KeyD} (h : x ∈ swapAt l j) : x ∈ l := by
  unfold swapAt at h
  split at h
  · rename_i a b ha hb
    rcases List.mem_or_eq_of_mem_set h with h | rfl
    · rcases List.mem_or_eq_of_mem_set h with h | rfl
      · exact h
      · exact List.mem_of_getElem? hb
    · exact List.mem_of_getElem? ha
  · exact h
theorem insW_mem : ∀ (j : Nat) (l : List KeyD) (x : KeyD), x ∈ insW l j → x ∈ l
  | 0, l, x, h => h
  | j + 1, l, x, h => by
    simp only [insW] at h
    split at h
    · exact swapAt_mem (insW_mem j _ x h)
    · exact h
theorem canonF_mem {ks : List KeyD} {x : KeyD} : ∀ k, k ≤ ks.length → x ∈ canonF (ks.take k) → x ∈ ks
  | 0, _, h => by simp [canonF] at h
  | k + 1, hk, h => by
    obtain ⟨y, hy⟩ := ex_get (L := ks) (k := k) (by omega)
    rw [take_snoc' hy, canonF_snoc] at h
    rcases List.mem_append.1 (insW_mem _ _ x h) with h | h
    · exact canonF_mem k (by omega) h
    · simp at h; subst h; exact List.mem_of_getElem? hy
theorem canonF_sub {ks : List KeyD} {x : KeyD} (h : x ∈ canonF ks) : x ∈ ks := by
  have := canonF_mem (ks := ks) (x := x) ks.length (Nat.le_refl _)
  rw [List.take_length] at this
  exact this h
theorem canon_small {s : SpanD} (h : SpanD.small s) : SpanD.small (canonS s) :=
  ⟨h.1, h.2.1, by show (canonF s.ks).length ≤ _; rw [canonF_len]; exact h.2.2.1, fun k hk => h.2.2.2 k (canonF_sub hk)⟩
theorem canon_sm {s : SpanD} (h : SmS s) : SmS (canonS s) :=
  ⟨h.1, h.2.1, by show (canonF s.ks).length ≤ _; rw [canonF_len]; exact h.2.2.1, fun k hk => h.2.2.2 k (canonF_sub hk)⟩
theorem canon_good {W : List SpanD} (h : Good W) : Good (W.map canonS) where
  len := by rw [List.length_map]; exact h.len
  full := fun s hs => by
    obtain ⟨t, ht, rfl⟩ := List.mem_map.1 hs
    obtain ⟨h1, h2, h3, h4⟩ := h.full t ht
    refine ⟨h1, fun e => ?_, canonF_desc h3, by show (canonF t.ks).length ≤ _; rw [canonF_len]; exact h4⟩
    have : (canonF t.ks).length = 0 := by rw [show canonF t.ks = [] from e]; rfl
    rw [canonF_len] at this
    exact h2 (List.eq_nil_of_length_eq_zero this)
  small := fun s hs => by
    obtain ⟨t, ht, rfl⟩ := List.mem_map.1 hs
    exact canon_small (h.small t ht)
  ord := ⟨fun s hs => by
    obtain ⟨t, ht, rfl⟩ := List.mem_map.1 hs
    exact h.ord.1 t ht, fun i a b ha hb => by
    rw [List.getElem?_map] at ha hb
    cases hx : W[i]? with
    | none => rw [hx] at ha; cases ha
    | some x =>
      cases hy : W[i + 1]? with
      | none => rw [hy] at hb; cases hb
      | some y =>
        rw [hx] at ha; rw [hy] at hb
        cases ha; cases hb
        exact h.ord.2 i x y hx hy⟩
theorem sms_of {W : List SpanD} (hG : Good W) (h4 : fit4 W = true) : ∀ s, s ∈ W → SmS s := fun s hs => by
  simp only [fit4, Bool.and_eq_true, List.all_eq_true, decide_eq_true_eq] at h4
  have h5 := h4.2 s hs
  simp only [fit5, fit6, Bool.and_eq_true, List.all_eq_true, decide_eq_true_eq, MX] at h5
  refine ⟨h5.1.1, h5.1.2, by have := (hG.full s hs).2.2.2; omega, fun k hk => ?_⟩
  have h7 := h5.2.2 k hk
  simp only [fit7, Bool.and_eq_true, decide_eq_true_eq, MX] at h7
  exact h7
theorem canon_goodD {W : List SpanD} (hG : Good W) (h4 : fit4 W = true) : GoodD (W.map canonS) := fun s hs =>
  ⟨((canon_good hG).full s hs).2.1, by
    obtain ⟨t, ht, rfl⟩ := List.mem_map.1 hs
    exact canon_sm (sms_of hG h4 t ht)⟩
theorem dfr_desc {W : List SpanD} (h : ∀ s, s ∈ W → descB s.ks = true ∧ few s) : ∀ s, s ∈ dfr W → descB s.ks = true ∧ few s := fun s hs => by
  obtain ⟨_, _, t, ht, e⟩ := dfr_mem hs
  have := h t ht
  exact ⟨by rw [e]; exact this.1, by unfold few; rw [e]; exact this.2⟩
theorem good_df {W : List SpanD} (h : Good W) : ∀ s, s ∈ W → descB s.ks = true ∧ few s := fun s hs => ⟨(h.full s hs).2.2.1, h.few s hs⟩
end Go.Proofs.Ytgebfbnndgjkiaa
namespace Go.Proofs.Ytgebfbnndgjkiaa
open Go.Tess Go.RowKit
set_option maxRecDepth 100000
set_option maxHeartbeats 1000000
/-- A list of strings. -/
def RStr (h : Heap) (b o : Nat) (s : ByteArray) : Prop := cellH h b o = some (.string s)
def RStrs (A : Nat → Prop) (h : Heap) (v : Value) (l : List ByteArray) : Prop := SlR h A 1 RStr v l
theorem RStrs.stab {A : Nat → Prop} {h h' : Heap} {v : Value} {l : List ByteArray} (hr : RStrs A h v l) (k : Stab A h h') : RStrs A h' v l := SlR.stab hr fun b _ _ hb hc => by unfold RStr cellH at *; rw [k b hb]; exact hc
theorem RStrs.mono {A A' : Nat → Prop} {h : Heap} {v : Value} {l : List ByteArray} (hr : RStrs A h v l) (hA : ∀ b, A b → A' b) : RStrs A' h v l := SlR.mono hr hA fun _ _ _ _ hc => hc
/-- The first cut behind a place, ahead of an end. -/
def atF (a e : ByteArray) (keys : List ByteArray) : ByteArray := keys.foldl (fun t k => if slt a k && slt k t then k else t) e
/-- Spans one behind the other, from a place on. -/
def OrdF : ByteArray → List SpanD → Prop
  | _, [] => True
  | lo, s :: r => sle lo s.s = true ∧ slt s.s s.e = true ∧ OrdF s.e r
theorem ord_ordF : ∀ (r : List SpanD) (s : SpanD), Tess.Ord (s :: r) ↔ slt s.s s.e = true ∧ OrdF s.e r
  | [], s => ⟨fun h => ⟨h.1 s (by simp), trivial⟩, fun h => ⟨by intro x hx; simp at hx; subst hx; exact h.1, by intro i a b _ hb; simp at hb⟩⟩
  | t :: r, s => by
    constructor
    · intro h
      refine ⟨h.1 s (by simp), h.2 0 s t rfl rfl, ?_⟩
      exact (ord_ordF r t).1 ⟨fun x hx => h.1 x (by simp [hx]), fun i a b ha hb => h.2 (i + 1) a b (by simpa using ha) (by simpa using hb)⟩
    · rintro ⟨h1, h2, h3⟩
      have ht := (ord_ordF r t).2 h3
      refine ⟨fun x hx => ?_, fun i a b ha hb => ?_⟩
      · rcases List.mem_cons.1 hx with e | e
        · rw [e]; exact h1
        · exact ht.1 x e
      · cases i with
        | zero => simp at ha hb; subst ha; subst hb; exact h2
        | succ i => exact ht.2 i a b (by simpa using ha) (by simpa using hb)
theorem OrdF.lo {a b : ByteArray} {L : List SpanD} (h : OrdF b L) (hab : sle a b = true) : OrdF a L := by
  cases L with
  | nil => trivial
  | cons s r => exact ⟨sle_trans hab h.1, h.2⟩
theorem ord_of_ordF {lo : ByteArray} {L : List SpanD} (h : OrdF lo L) : Tess.Ord L := by
  cases L with
  | nil => exact ⟨by simp, by intro i a b ha _; simp at ha⟩
  | cons s r => exact (ord_ordF r s).2 h.2
theorem ordF_of_ord {W : List SpanD} (h : Tess.Ord W) : ∃ lo, OrdF lo W := by
  cases W with
  | nil => exact ⟨ByteArray.empty, trivial⟩
  | cons s r => exact ⟨s.s, sle_refl _, (ord_ordF r s).1 h⟩
theorem jn_of {a b : SpanD} (h1 : a.e = b.s) (h2 : a.ks = b.ks) : jn a b = true := jn_iff.2 ⟨h1, h2⟩
end Go.Proofs.Ytgebfbnndgjkiaa
namespace Go.Proofs.Ytgebfbnndgjkiaa
open Go.Tess Go.RowKit
set_option maxRecDepth 100000
set_option maxHeartbeats 2000000
theorem sm_small {s : SpanD} (h : SmS s) : SpanD.small s := ⟨by have := h.1; omega, by have := h.2.1; omega, h.2.2.1, fun k hk => ⟨by have := (h.2.2.2 k hk).1; omega, by have := (h.2.2.2 k hk).2; omega⟩⟩
end Go.Proofs.Ytgebfbnndgjkiaa
