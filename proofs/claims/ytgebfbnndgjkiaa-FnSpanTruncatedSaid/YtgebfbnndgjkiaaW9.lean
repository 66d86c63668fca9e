/- Walks, ninth part: the package's spans out of plain ones, and plain ones out of them. Conditions: those that each theorem names. -/
import Derived.Test.YtgebfbnndgjkiaaW8
set_option linter.unusedVariables false
set_option linter.unusedSimpArgs false
namespace Go.Proofs.Ytgebfbnndgjkiaa
open Go.Tess Go.RowKit
set_option maxRecDepth 100000
def KeyD.small (k : KeyD) : Prop := k.suf.size ≤ 9223372036854775807 ∧ k.val.size ≤ 9223372036854775807
def SpanD.small (s : SpanD) : Prop := s.s.size ≤ 9223372036854775807 ∧ s.e.size ≤ 9223372036854775807 ∧ s.ks.length ≤ 100000 ∧ ∀ k, k ∈ s.ks → KeyD.small k
abbrev N0 : Nat → Prop := fun _ => False
theorem n0low (h : Heap) : Low N0 h := fun _ hb => hb.elim
theorem n0up {A : Nat → Prop} {h0 h1 h h' : Heap} (k0 : h0.size ≤ h.size) (k1 : h'.size ≤ h1.size) : ∀ b, Up N0 h h' b → Up A h0 h1 b := fun _ hb => by
  rcases hb with hb | hb
  · exact hb.elim
  · exact .inr ⟨Nat.le_trans k0 hb.1, Nat.lt_of_lt_of_le hb.2 k1⟩
theorem upb {A : Nat → Prop} {h h1 h2 : Heap} {v : Value} {s : ByteArray} (hA : Low A h) (k0 : h.size ≤ h1.size) (hr : RBytes (Up A h h1) h1 v s) (K : Keep [] h1 h2) : RBytes (Up A h h2) h2 v s :=
  (hr.stab (K.st (hA.up k0))).mono (Up.grow K.1)
theorem upp {A : Nat → Prop} {h h1 h2 : Heap} {v : Value} {s : List KeyD} (hA : Low A h) (k0 : h.size ≤ h1.size) (hr : PKeys (Up A h h1) h1 v s) (K : Keep [] h1 h2) : PKeys (Up A h h2) h2 v s :=
  (hr.stab (K.st (hA.up k0))).mono (Up.grow K.1)
theorem seq'_eq {a b : ByteArray} : seq' a b = true ↔ a = b := by
  simp only [seq', Lib.toList_data, beq_iff_eq]
  constructor
  · intro e
    cases a; cases b
    rename_i x y
    congr 1
    exact Array.ext' e
  · rintro rfl; rfl
theorem RBytes.form2 {A : Nat → Prop} {h : Heap} {v : Value} {s : ByteArray} (hr : RBytes A h v s) : ∃ a n c, v = .slice a n c := by
  obtain ⟨a, c, e⟩ := SlR.form2 hr
  exact ⟨a, _, c, e⟩
theorem PKeys.form2 {A : Nat → Prop} {h : Heap} {v : Value} {s : List KeyD} (hr : PKeys A h v s) : ∃ a n c, v = .slice a n c := by
  obtain ⟨a, c, e⟩ := SlR.form2 hr
  exact ⟨a, _, c, e⟩
theorem RBytes.empty (A : Nat → Prop) (h : Heap) : RBytes A h (.slice none 0 0) ByteArray.empty := SlR.nil _ _ _ _

theorem c_maybe (χ : Chi) (h : Heap) (s : ByteArray) (hs : s.size ≤ 9223372036854775807) :
    Cl Try.prog χ 101 #[.string s] h (fun r h' => RBytes (Up N0 h h') h' r s ∧ Keep [] h h') := by
  refine cl_intro Try.func101 rfl rfl rfl ?_
  have K : Keep [] h h := Keep.refl _ _
  refine tr_seq ?_
  refine tr_reg ?_
  refine rs_v (v_assign rfl) rfl ?_
  refine rs_nil ?_
  refine q_thn ?_
  refine tr_seq ?_
  refine tr_seq ?_
  refine tr_reg ?_
  refine rs_v (v_move rfl) rfl ?_
  refine rs_v (v_seq rfl rfl) rfl ?_
  refine rs_nil ?_
  refine q_thn ?_
  refine tr_if rfl (fun hif => ?_) (fun hif => ?_)
  · -- yes
    skip
    refine tr_seq ?_
    refine tr_reg ?_
    refine rs_v (v_assign rfl) rfl ?_
    refine rs_nil ?_
    refine q_thn ?_
    refine tr_ret ?_
    refine q_thn_ret ?_
    refine q_ret (res_tmp rfl rfl) ?_
    have e := seq'_eq.1 hif
    subst e
    exact ⟨RBytes.empty _ _, K⟩
  -- no
  skip
  refine tr_skip ?_
  refine q_thn ?_
  refine tr_seq ?_
  refine tr_reg ?_
  refine rs_v (v_move rfl) rfl ?_
  refine rs_w (w_bytes u_string u_sl_uint8 u_uint8 rfl (by omega)) rfl ?_
  rintro _ h1 ⟨c1, rfl, K1, hb1⟩
  have K := K.new0 K1; have Z1 := K1.1
  refine rs_v (v_assign rfl) rfl ?_
  refine rs_nil ?_
  refine q_thn ?_
  refine tr_ret ?_
  refine q_ret (res_tmp rfl rfl) ?_
  exact ⟨hb1.mono (fun b hb => .inr hb), K⟩
theorem c_spanKeys (χ : Chi) (h : Heap) (A : Nat → Prop) (hA : Low A h) (kv : Value) (ks : List KeyD) (hk : RKeys A h kv ks) (hn : ks.length ≤ 100000) (hm : ∀ k, k ∈ ks → KeyD.small k) :
    Cl Try.prog χ 99 #[kv] h (fun r h' => PKeys (Up N0 h h') h' r ks ∧ Keep [] h h') := by
  obtain ⟨hlen, a, c, rfl, hx⟩ := hk.form
  refine cl_intro Try.func99 rfl rfl rfl ?_
  have K : Keep [] h h := Keep.refl _ _
  refine tr_seq ?_
  refine tr_reg ?_
  refine rs_v (v_assign rfl) rfl ?_
  refine rs_nil ?_
  refine q_thn ?_
  refine tr_seq ?_
  refine tr_reg ?_
  refine rs_v (v_assign rfl) rfl ?_
  refine rs_nil ?_
  refine q_thn ?_
  refine tr_seq ?_
  refine tr_seq ?_
  refine tr_reg ?_
  refine rs_v (v_move rfl) rfl ?_
  refine rs_v (v_len u_sl_impl_SpanKey rfl) rfl ?_
  refine rs_v (v_move rfl) rfl ?_
  refine rs_nil ?_
  refine q_thn ?_
  refine tr_block ?_
  refine tr_loop (fun m E h' => ∃ k v n, k ≤ ks.length ∧ m = ks.length - k ∧ E = [(3, v), (6, .slice a ks.length c), (7, .int .i64 (ks.length : Int)), (8, .int .i64 (k : Int))] ∧ Keep [] h h' ∧ n = (ks.take k).length ∧ OutR N0 h h' h.size 130 3 cPKey v n (ks.take k)) ks.length [(3, _), (6, _), (7, _), (8, _)] ⟨rfl, rfl, rfl, rfl, trivial⟩ ⟨0, _, 0, Nat.zero_le _, rfl, rfl, K, rfl, OutR.nil _ _ _ _ _ _ _⟩ ?_
  rintro m E hL1 ⟨k, v, n, hk, rfl, rfl, K, hn, hout⟩
  have hout0 := hout
  obtain ⟨xs, F, O, hrow, hF⟩ := hout
  have hob := own_ne O; have KL := Keep.refl [] hL1
  refine tr_seq ?_
  refine tr_reg ?_
  refine rs_v (v_lt rfl rfl) rfl ?_
  refine rs_nil ?_
  refine q_thn ?_
  refine tr_seq ?_
  refine tr_ifn rfl (fun hif => ?_) (fun hif => ?_)
  · -- no
    simp only [decide_eq_true_eq, decide_eq_false_iff_not] at hif
    have hkk : k = ks.length := by omega
    subst hkk
    refine tr_exit ?_
    refine q_thn_exit ?_
    refine q_lp_exit ?_
    refine q_blk_hit ?_
    refine q_thn ?_
    refine tr_seq ?_
    refine tr_reg ?_
    refine rs_v (v_move rfl) rfl ?_
    refine rs_v (v_assign rfl) rfl ?_
    refine rs_nil ?_
    refine q_thn ?_
    refine tr_ret ?_
    refine q_ret (res_tmp rfl rfl) ?_
    rw [List.take_length] at hout0 hn
    exact ⟨hout0.fin cPKey_st hn (Nat.le_refl _) cPKey_r, K⟩
  -- yes
  simp only [decide_eq_true_eq, decide_eq_false_iff_not] at hif
  rcases hx with rfl | ⟨b, o, rfl, hAb, hR⟩
  · simp at hif; omega
  obtain ⟨x, hsk⟩ := ex_get (L := ks) (k := k) (by omega)
  have hkl : k < ks.length := (List.getElem?_eq_some_iff.1 hsk).1
  have KL0 := K.1
  have hnk : n = k := by rw [hn, List.length_take]; omega
  have hcells := K.cells (by simp) (hR k x hsk)
  refine tr_skip ?_
  refine q_thn ?_
  refine tr_seq ?_
  refine tr_block ?_
  refine tr_seq ?_
  refine tr_reg ?_
  refine rs_v (v_indexAddrN u_sl_impl_SpanKey siz_impl_SpanKey rfl rfl (by omega)) rfl ?_
  refine rs_v (v_loadAgg (vs := [_, _, _]) many_impl_SpanKey rfl (by exact hcells)) rfl ?_
  refine rs_w (w_new zero_impl_SpanKey) rfl ?_
  rintro _ h2 ⟨rfl, B2, K2, Z2⟩
  have O := O.keep2 K2 (fun x hm => by have := hob x hm; simp; try omega)
  have S2 := K.1; have K := K.new0 K2; have KL := KL.new0 K2
  refine rs_w0 (w_put siz_impl_SpanKey rfl rfl rfl rfl B2 rfl) ?_
  rintro _ h3 ⟨B3, K3⟩
  have O := O.keep2 K3 (fun x hm => by have := hob x hm; simp; try omega)
  have B2 := B3; have K := K.new1 K3 (by first | (right; omega) | (left; simp; done)); have Z3 := K3.1; have KL := KL.new1 K3 (.inr (by omega))
  refine rs_nil ?_
  refine q_thn ?_
  have S0 : hL1.size ≤ h3.size := KL.1
  obtain ⟨hz1, hz2⟩ := hm x (List.mem_of_getElem? hsk)
  refine tr_draw [(true, 11), (false, 2)] _ (by kernel_rfl) (by kernel_rfl) (by kernel_rfl) ?_
  refine rx_any (Keep []) (keep_pre _) ?_
  refine rm_v (keep_pre _) (fun h' hk => v_move rfl) ?_
  refine rm_v (keep_pre _) (fun h' hk => v_fieldAddr fa_impl_SpanKey_0 rfl) ?_
  refine rm_v (keep_pre _) (fun h' hk => v_load one_uint64 rfl (Blk.cell (hk.blk (by simp) B2) _ rfl)) ?_
  refine rm_v (keep_pre _) (fun h' hk => v_fieldAddr fa_impl_SpanKey_1 rfl) ?_
  refine rm_v (keep_pre _) (fun h' hk => v_load one_string rfl (Blk.cell (hk.blk (by simp) B2) _ rfl)) ?_
  refine rm_w (fun v h' => RBytes (Up N0 h3 h') h' v x.suf) (fun v _ _ k1 k2 hr => upb (n0low _) k1.1 hr k2) (fun h' hk => OpW.mono (w_call (vs := [_]) ok_impl_maybe rfl ⟨rfl, trivial⟩ (c_maybe χ h' x.suf hz1)) (fun v h'' hv => ⟨hv.2, hv.1.mono (n0up hk.1 (Nat.le_refl _))⟩)) ?_
  refine rm_v (keep_pre _) (fun h' hk => v_fieldAddr fa_impl_SpanKey_2 rfl) ?_
  refine rm_v (keep_pre _) (fun h' hk => v_load one_string rfl (Blk.cell (hk.blk (by simp) B2) _ rfl)) ?_
  refine rm_w (fun v h' => RBytes (Up N0 h3 h') h' v x.val) (fun v _ _ k1 k2 hr => upb (n0low _) k1.1 hr k2) (fun h' hk => OpW.mono (w_call (vs := [_]) ok_impl_maybe rfl ⟨rfl, trivial⟩ (c_maybe χ h' x.val hz2)) (fun v h'' hv => ⟨hv.2, hv.1.mono (n0up hk.1 (Nat.le_refl _))⟩)) ?_
  refine rm_o2 17 20 (fun v h' => ∃ sv vv, v = .agg #[.int .u64 x.tr, sv, vv] ∧ RBytes (Up N0 h3 h') h' sv x.suf ∧ RBytes (Up N0 h3 h') h' vv x.val) rfl rfl rfl (by kernel_rfl) (by kernel_rfl)
    (fun v _ _ k1 k2 hr => by obtain ⟨sv, vv, e, r1, r2⟩ := hr; exact ⟨sv, vv, e, upb (n0low _) k1.1 r1 k2, upb (n0low _) k1.1 r2 k2⟩)
    (fun u u2 h' hk hu hu2 => by
      obtain ⟨a1, n1, c1, rfl⟩ := hu.form2
      obtain ⟨a2, n2, c2, rfl⟩ := hu2.form2
      exact (v_build3 rfl rfl rfl (bld_keyspan_Key_0_1_2 _ _ _ _ _ _ _)).w.mono (fun _ _ e => by obtain ⟨e1, e2⟩ := e; subst e1; subst e2; exact ⟨Keep.refl _ _, _, _, rfl, hu, hu2⟩)) ?_
  refine rm_o 21 (fun v h' => ∃ g sv vv, v = .slice (some ⟨g, 0, none⟩) 1 1 ∧ Blk h' g [.int .u64 x.tr, sv, vv] 130 ∧ RBytes (Up N0 h3 h') h' sv x.suf ∧ RBytes (Up N0 h3 h') h' vv x.val) rfl (by kernel_rfl)
    (fun v _ _ k1 k2 hr => by obtain ⟨g, sv, vv, e, B, r1, r2⟩ := hr; exact ⟨g, sv, vv, e, k2.blk (by simp) B, upb (n0low _) k1.1 r1 k2, upb (n0low _) k1.1 r2 k2⟩)
    (fun u h' hk hu => by
      obtain ⟨sv, vv, rfl, r1, r2⟩ := hu
      exact OpW.mono (w_new1 u_sl_keyspan_Key siz_keyspan_Key zero_keyspan_Key rfl rfl rfl rfl rfl) (fun v h'' hv => by
        obtain ⟨e, B, K', _⟩ := hv
        exact ⟨K', _, _, _, e, B, upb (n0low _) hk.1 r1 K', upb (n0low _) hk.1 r2 K'⟩)) ?_
  refine rm_end ?_; intro ha Ka; simp only [endM, hypF, ofE, argE, List.nil_append]
  intro v22 hv22 v21 _ v20 _ v17 _
  obtain ⟨g, sv, vv, rfl, Bg, r1, r2⟩ := hv22
  obtain ⟨a1, n1, c1, rfl⟩ := r1.form2
  obtain ⟨a2, n2, c2, rfl⟩ := r2.form2
  have O := O.keep2 Ka (by simp)
  have K := K.new0 Ka; have Za := Ka.1
  have KL := KL.new0 Ka
  refine rx_seq ?_
  refine rs_w (w_app1 u_sl_keyspan_Key info_keyspan_Key rfl rfl rfl O rfl rfl Bg rfl (by omega) (by omega) (by omega)) rfl ?_
  rintro v4 h4 ⟨O4, K4, N4, F4⟩
  have K := K.newX K4 (fun x hm => .inr (by have := hob x hm; omega)); have Z4 := K4.1
  refine rs_v (v_assign rfl) rfl ?_
  refine rs_nil ?_
  refine q_con ?_
  refine rx_nil ?_
  refine q_blk_n ?_
  refine q_thn ?_
  refine tr_reg ?_
  refine rs_v (v_add rfl rfl (by omega) (by omega)) rfl ?_
  refine rs_v (v_move rfl) rfl ?_
  refine rs_nil ?_
  refine q_lp (ks.length - (k + 1)) [(3, _), (6, _), (7, _), (8, _)] (by omega) ⟨rfl, rfl, rfl, rfl, trivial⟩ ⟨k + 1, v4, n + 1, by omega, rfl, rfl, K, ?_, ?_⟩
  · rw [take_snoc' hsk]; rw [List.length_append, ← hn]; rfl
  · rw [take_snoc' hsk]
    exact OutR.snoc cPKey_st (n0low h) (by omega) hob hrow hF KL0 KL O4 K4 F4 rfl (⟨_, _, rfl, r1.mono (n0up S0 (Nat.le_refl _)), r2.mono (n0up S0 (Nat.le_refl _))⟩)
theorem c_plainKeys (χ : Chi) (h : Heap) (A : Nat → Prop) (hA : Low A h) (kv : Value) (ks : List KeyD) (hk : PKeys A h kv ks) (hn : ks.length ≤ 100000) :
    Cl Try.prog χ 98 #[kv] h (fun r h' => RKeys (Up N0 h h') h' r ks ∧ Keep [] h h') := by
  obtain ⟨hlen, a, c, rfl, hx⟩ := hk.form
  refine cl_intro Try.func98 rfl rfl rfl ?_
  have K : Keep [] h h := Keep.refl _ _
  refine tr_seq ?_
  refine tr_reg ?_
  refine rs_v (v_assign rfl) rfl ?_
  refine rs_nil ?_
  refine q_thn ?_
  refine tr_seq ?_
  refine tr_reg ?_
  refine rs_v (v_assign rfl) rfl ?_
  refine rs_nil ?_
  refine q_thn ?_
  refine tr_seq ?_
  refine tr_seq ?_
  refine tr_reg ?_
  refine rs_v (v_move rfl) rfl ?_
  refine rs_v (v_len u_sl_keyspan_Key rfl) rfl ?_
  refine rs_v (v_move rfl) rfl ?_
  refine rs_nil ?_
  refine q_thn ?_
  refine tr_block ?_
  refine tr_loop (fun m E h' => ∃ k v n, k ≤ ks.length ∧ m = ks.length - k ∧ E = [(3, v), (6, .slice a ks.length c), (7, .int .i64 (ks.length : Int)), (8, .int .i64 (k : Int))] ∧ Keep [] h h' ∧ n = (ks.take k).length ∧ OutR N0 h h' h.size 58 3 cKey v n (ks.take k)) ks.length [(3, _), (6, _), (7, _), (8, _)] ⟨rfl, rfl, rfl, rfl, trivial⟩ ⟨0, _, 0, Nat.zero_le _, rfl, rfl, K, rfl, OutR.nil _ _ _ _ _ _ _⟩ ?_
  rintro m E hL1 ⟨k, v, n, hk, rfl, rfl, K, hn, hout⟩
  have hout0 := hout
  obtain ⟨xs, F, O, hrow, hF⟩ := hout
  have hob := own_ne O; have KL := Keep.refl [] hL1
  refine tr_seq ?_
  refine tr_reg ?_
  refine rs_v (v_lt rfl rfl) rfl ?_
  refine rs_nil ?_
  refine q_thn ?_
  refine tr_seq ?_
  refine tr_ifn rfl (fun hif => ?_) (fun hif => ?_)
  · -- no
    simp only [decide_eq_true_eq, decide_eq_false_iff_not] at hif
    have hkk : k = ks.length := by omega
    subst hkk
    refine tr_exit ?_
    refine q_thn_exit ?_
    refine q_lp_exit ?_
    refine q_blk_hit ?_
    refine q_thn ?_
    refine tr_seq ?_
    refine tr_reg ?_
    refine rs_v (v_move rfl) rfl ?_
    refine rs_v (v_assign rfl) rfl ?_
    refine rs_nil ?_
    refine q_thn ?_
    refine tr_ret ?_
    refine q_ret (res_tmp rfl rfl) ?_
    rw [List.take_length] at hout0 hn
    exact ⟨hout0.fin cKey_st hn (Nat.le_refl _) cKey_r, K⟩
  -- yes
  simp only [decide_eq_true_eq, decide_eq_false_iff_not] at hif
  rcases hx with rfl | ⟨b, o, rfl, hAb, hR⟩
  · simp at hif; omega
  obtain ⟨x, hsk⟩ := ex_get (L := ks) (k := k) (by omega)
  have hkl : k < ks.length := (List.getElem?_eq_some_iff.1 hsk).1
  have KL0 := K.1
  have hnk : n = k := by rw [hn, List.length_take]; omega
  obtain ⟨sv, vv, hcc, r1, r2⟩ := hR k x hsk
  obtain ⟨a1, n1, c1, rfl⟩ := r1.form2
  obtain ⟨a2, n2, c2, rfl⟩ := r2.form2
  have hcells := K.cells (by simp) hcc
  refine tr_skip ?_
  refine q_thn ?_
  refine tr_seq ?_
  refine tr_block ?_
  refine tr_seq ?_
  refine tr_reg ?_
  refine rs_v (v_indexAddrN u_sl_keyspan_Key siz_keyspan_Key rfl rfl (by omega)) rfl ?_
  refine rs_v (v_loadAgg (vs := [_, _, _]) many_keyspan_Key rfl (by exact hcells)) rfl ?_
  refine rs_w (w_new zero_keyspan_Key) rfl ?_
  rintro _ h2 ⟨rfl, B2, K2, Z2⟩
  have O := O.keep2 K2 (fun x hm => by have := hob x hm; simp; try omega)
  have S2 := K.1; have K := K.new0 K2; have KL := KL.new0 K2
  refine rs_w0 (w_put siz_keyspan_Key rfl rfl rfl rfl B2 rfl) ?_
  rintro _ h3 ⟨B3, K3⟩
  have O := O.keep2 K3 (fun x hm => by have := hob x hm; simp; try omega)
  have B2 := B3; have K := K.new1 K3 (by first | (right; omega) | (left; simp; done)); have Z3 := K3.1; have KL := KL.new1 K3 (.inr (by omega))
  refine rs_nil ?_
  refine q_thn ?_
  refine tr_reg ?_
  refine rs_v (v_move rfl) rfl ?_
  refine rs_v (v_fieldAddr fa_keyspan_Key_0 rfl) rfl ?_
  refine rs_v (v_load one_uint64 rfl (by exact B2.cell _ rfl)) rfl ?_
  refine rs_v (v_fieldAddr fa_keyspan_Key_1 rfl) rfl ?_
  refine rs_v (v_load one_sl_uint8 rfl (by exact B2.cell _ rfl)) rfl ?_
  refine rs_v (v_toStr u_sl_uint8 u_uint8 u_string rfl (RBytes.by (r1.stab (K.st hA)))) rfl ?_
  refine rs_v (v_fieldAddr fa_keyspan_Key_2 rfl) rfl ?_
  refine rs_v (v_load one_sl_uint8 rfl (by exact B2.cell _ rfl)) rfl ?_
  refine rs_v (v_toStr u_sl_uint8 u_uint8 u_string rfl (RBytes.by (r2.stab (K.st hA)))) rfl ?_
  refine rs_v (v_build3 rfl rfl rfl (bld_impl_SpanKey_0_1_2 _ _ _)) rfl ?_
  refine rs_w (w_new1 u_sl_impl_SpanKey siz_impl_SpanKey zero_impl_SpanKey rfl rfl rfl rfl rfl) rfl ?_
  rintro _ h4 ⟨rfl, B4, K4, Z4⟩
  have B2 := K4.blk (by simp) B2
  have O := O.keep2 K4 (fun x hm => by have := hob x hm; simp; try omega)
  have S4 := K.1; have K := K.new0 K4; have KL := KL.new0 K4
  refine rs_w (w_app1 u_sl_impl_SpanKey info_impl_SpanKey rfl rfl rfl O rfl rfl B4 rfl (by omega) (by omega) (by omega)) rfl ?_
  rintro v5 h5 ⟨O5, K5, N5, F5⟩
  have K := K.newX K5 (fun x hm => .inr (by have := hob x hm; omega)); have Z5 := K5.1
  have B2 := K5.blk (fun hm => by have := hob _ hm; omega) B2
  have B4 := K5.blk (fun hm => by have := hob _ hm; omega) B4
  refine rs_v (v_assign rfl) rfl ?_
  refine rs_nil ?_
  refine q_blk_n ?_
  refine q_thn ?_
  refine tr_reg ?_
  refine rs_v (v_add rfl rfl (by omega) (by omega)) rfl ?_
  refine rs_v (v_move rfl) rfl ?_
  refine rs_nil ?_
  refine q_lp (ks.length - (k + 1)) [(3, _), (6, _), (7, _), (8, _)] (by omega) ⟨rfl, rfl, rfl, rfl, trivial⟩ ⟨k + 1, v5, n + 1, by omega, rfl, rfl, K, ?_, ?_⟩
  · rw [take_snoc' hsk]; rw [List.length_append, ← hn]; rfl
  · rw [take_snoc' hsk]
    exact OutR.snoc cKey_st (n0low h) (by omega) hob hrow hF KL0 KL O5 K5 F5 rfl (show _ = _ from rfl)
end Go.Proofs.Ytgebfbnndgjkiaa
