/- Seventeenth part: what a filter's function does; the one of SpanFiltered. Conditions: those that each theorem names. -/
import Derived.Test.YtgebfbnndgjkiaaW16
set_option linter.unusedVariables false
set_option linter.unusedSimpArgs false
namespace Go.Proofs.Ytgebfbnndgjkiaa
open Go.Tess Go.RowKit
set_option maxRecDepth 100000
set_option maxHeartbeats 1000000
def passK (low high : Int) (k : KeyD) : Bool := decide (low ≤ k.tr) && decide (k.tr ≤ high)
/-- A row's beginning is a row. -/
theorem Own.cut0 {h : Heap} {base : Nat} {e : TypeId} {sz : Nat} {a : Option Addr} {m c n : Nat} {xs : List Value} (ho : Own h base e sz (.slice a m c) n xs) : Own h base e sz (.slice a 0 c) 0 [] := by
  refine ⟨by simp, ?_⟩
  rcases ho.2 with ⟨hv, hn⟩ | ⟨g, cap, cur, hv, hb, hg, hn, hc, hs, _⟩
  · cases hv; exact .inl ⟨rfl, rfl⟩
  · cases hv; exact .inr ⟨g, _, cur, rfl, hb, hg, by omega, hc, hs, by simp⟩
theorem Own.form3 {h : Heap} {base : Nat} {e : TypeId} {sz : Nat} {v : Value} {n : Nat} {xs : List Value} (ho : Own h base e sz v n xs) : ∃ a c, v = .slice a n c := by
  rcases ho.form with ⟨rfl, rfl, _⟩ | ⟨g, cap, rfl, _⟩
  · exact ⟨none, 0, rfl⟩
  · exact ⟨_, _, rfl⟩
theorem own_block0 {a : Option Addr} {m c m2 c2 : Nat} : (Value.slice a m c).ownBlock = (Value.slice a m2 c2).ownBlock := by cases a <;> rfl
theorem filter_snoc {α : Type} {f : α → Bool} {l : List α} {x : α} : (l ++ [x]).filter f = if f x then l.filter f ++ [x] else l.filter f := by
  rw [List.filter_append]
  by_cases h : f x = true
  · simp [h]
  · simp [h]
/-- What a filter's function leaves in the place for its span. -/
def FnPost (ff : SpanD → Option SpanD) (s : SpanD) (G : Nat → Prop) (c : Nat) (x0 x1 x2 : Value) (kk : Int) (X : List Nat) (h : Heap) (r : Value) (h' : Heap) : Prop :=
  r = .bool (ff s).isSome ∧ ∃ sv ev kv n xs, Blk h' c [x0, x1, x2, sv, ev, kv, .int .i8 kk] 185 ∧ Own h' 0 130 3 kv n xs ∧ Keep (c :: X) h h' ∧
    (∀ x, x ∈ kv.ownBlock.toList → (x ∈ X ∨ h.size ≤ x) ∧ x ≠ c) ∧ ∀ s', ff s = some s' → RBytes G h' sv s'.s ∧ RBytes G h' ev s'.e ∧ n = s'.ks.length ∧ RowsR 3 (cPKey G h') xs s'.ks
def ffS (low high : Int) (s : SpanD) : Option SpanD := if s.ks.filter (passK low high) = [] then none else some ⟨s.s, s.e, s.ks.filter (passK low high)⟩

theorem c_fnS (χ : Chi) (h : Heap) (Fin : Nat → Prop) (hlow : Low Fin h) (s : SpanD) (bi oi : Nat) (hin : PSpan Fin h bi oi s) (hbi : Fin bi) (c : Nat) (x0 x1 x2 sv0 ev0 kv0 : Value) (kk : Int) (Bc : Blk h c [x0, x1, x2, sv0, ev0, kv0, .int .i8 kk] 185)
    (hcF : ¬ Fin c) (n0 : Nat) (xs0 : List Value) (O : Own h 0 130 3 kv0 n0 xs0) (bl bh : Nat) (low high : Int) (hob0 : ∀ x, x ∈ kv0.ownBlock.toList → x ≠ c ∧ ¬ Fin x ∧ x ≠ bl ∧ x ≠ bh) (BL : Blk h bl [.int .u64 low] 23) (BH : Blk h bh [.int .u64 high] 23) (hlc : bl ≠ c) (hhc : bh ≠ c) (hn : s.ks.length ≤ 100000) :
    Cl Try.prog χ 55 #[.pointer (some ⟨bi, oi, none⟩), .pointer (some ⟨c, 3, none⟩), .pointer (some ⟨bl, 0, none⟩), .pointer (some ⟨bh, 0, none⟩)] h (FnPost (ffS low high) s Fin c x0 x1 x2 kk kv0.ownBlock.toList h) := by
  obtain ⟨a0, c0, rfl⟩ := Own.form3 O
  obtain ⟨sv1, ev1, kv1, kk1, hcell, r1, r2, r3⟩ := hin
  obtain ⟨as1, cs1, rfl⟩ := r1.form2
  obtain ⟨ae1, ce1, rfl⟩ := r2.form2
  obtain ⟨hlen, a, cc, rfl, hx⟩ := r3.form
  have hbc : bi ≠ c := fun e => hcF (e ▸ hbi)
  have hFX : ∀ b, Fin b → b ∉ (c :: (Value.slice a0 n0 c0).ownBlock.toList) := fun b hb hm => by
    rcases List.mem_cons.1 hm with e | e
    · subst e; exact hcF hb
    · exact (hob0 b e).2.1 hb
  have hclt := Bc.lt
  refine cl_intro Try.func55 rfl rfl rfl ?_
  have K : Keep (c :: (Value.slice a0 n0 c0).ownBlock.toList) h h := Keep.refl _ _
  refine tr_seq ?_
  refine tr_reg ?_
  refine rs_v (v_assign rfl) rfl ?_
  refine rs_nil ?_
  refine q_thn ?_
  refine tr_seq ?_
  refine tr_draw [(true, 13), (false, 3)] _ (by kernel_rfl) (by kernel_rfl) (by kernel_rfl) ?_
  refine rx_any (KeepB c [x0, x1, x2, .slice as1 s.s.data.toList.length cs1, ev0, .slice a0 n0 c0, .int .i8 kk] 185) (keepB_pre _ _ _) ?_
  refine rm_v (keepB_pre _ _ _) (fun h' hk => v_move rfl) ?_
  refine rm_v (keepB_pre _ _ _) (fun h' hk => v_move rfl) ?_
  refine rm_v (keepB_pre _ _ _) (fun h' hk => v_move rfl) ?_
  refine rm_v (keepB_pre _ _ _) (fun h' hk => v_nilCheck_ptr rfl) ?_
  refine rm_v (keepB_pre _ _ _) (fun h' hk => v_fieldAddr fa_keyspan_Span_0 rfl) ?_
  refine rm_v (keepB_pre _ _ _) (fun h' hk => v_load one_sl_uint8 rfl ((hk.1.cells (by simpa using hbc) hcell).at 0 rfl)) ?_
  refine rm_v (keepB_pre _ _ _) (fun h' hk => v_move rfl) ?_
  refine rm_v (keepB_pre _ _ _) (fun h' hk => v_nilCheck_ptr rfl) ?_
  refine rm_v (keepB_pre _ _ _) (fun h' hk => v_fieldAddr fa_keyspan_Span_1 rfl) ?_
  refine rm_v (keepB_pre _ _ _) (fun h' hk => v_load one_sl_uint8 rfl ((hk.1.cells (by simpa using hbc) hcell).at 1 rfl)) ?_
  refine rm_v (keepB_pre _ _ _) (fun h' hk => v_nilCheck_ptr rfl) ?_
  refine rm_v (keepB_pre _ _ _) (fun h' hk => v_fieldAddr fa_keyspan_Span_0 rfl) ?_
  refine rm_w0 _ keepB_stab (fun h' hk => w_putB siz_sl_uint8 rfl rfl rfl rfl Bc hk rfl rfl rfl rfl) ?_
  refine rm_end ?_; intro ha Ka; simp only [endM, hypF, ofE, argE, List.nil_append]; intro Bc
  have K := K.new1 Ka.1 (by left; simp); have Za := Ka.1.1
  have O := O.keep2 Ka.1 (fun x hx hm => (hob0 x hx).1 (by simpa using hm))
  refine rx_seq ?_
  refine rs_v (v_nilCheck_ptr rfl) rfl ?_
  refine rs_v (v_fieldAddr fa_keyspan_Span_1 rfl) rfl ?_
  refine rs_w0 (w_put siz_sl_uint8 rfl rfl rfl rfl Bc rfl) ?_
  rintro _ h1 ⟨B1, K1⟩
  have Bc := B1; have K := K.new1 K1 (by left; simp); have Z1 := K1.1
  have O := O.keep2 K1 (fun x hx hm => (hob0 x hx).1 (by simpa using hm))
  refine rs_nil ?_
  refine q_con ?_
  refine rx_nil ?_
  refine q_thn ?_
  refine tr_seq ?_
  refine tr_reg ?_
  refine rs_v (v_move rfl) rfl ?_
  refine rs_v (v_move rfl) rfl ?_
  refine rs_v (v_nilCheck_ptr rfl) rfl ?_
  refine rs_v (v_fieldAddr fa_keyspan_Span_2 rfl) rfl ?_
  refine rs_v (v_load one_sl_keyspan_Key rfl (by exact Bc.cell _ rfl)) rfl ?_
  refine rs_v (v_slice_h u_sl_keyspan_Key siz_keyspan_Key (i := 0) rfl rfl rfl (by omega)) rfl ?_
  refine rs_v (v_nilCheck_ptr rfl) rfl ?_
  refine rs_v (v_fieldAddr fa_keyspan_Span_2 rfl) rfl ?_
  refine rs_w0 (w_put siz_sl_keyspan_Key rfl rfl rfl rfl Bc rfl) ?_
  rintro _ h2 ⟨B2, K2⟩
  have Bc := B2; have K := K.new1 K2 (by first | (right; omega) | (left; simp; done)); have Z2 := K2.1
  refine rs_nil ?_
  refine q_thn ?_
  refine tr_seq ?_
  refine tr_seq ?_
  refine tr_reg ?_
  refine rs_v (v_move rfl) rfl ?_
  refine rs_v (v_nilCheck_ptr rfl) rfl ?_
  refine rs_v (v_fieldAddr fa_keyspan_Span_2 rfl) rfl ?_
  refine rs_v (v_load one_sl_keyspan_Key rfl (by exact (K.cells (hFX _ hbi) hcell).at 2 rfl)) rfl ?_
  refine rs_v (v_len u_sl_keyspan_Key rfl) rfl ?_
  refine rs_v (v_move rfl) rfl ?_
  refine rs_nil ?_
  refine q_thn ?_
  refine tr_block ?_
  refine tr_loop (fun m E h' => ∃ k kv n xs, k ≤ s.ks.length ∧ m = s.ks.length - k ∧ E = [(0, .pointer (some ⟨bi, oi, none⟩)), (1, .pointer (some ⟨c, 3, none⟩)), (2, .pointer (some ⟨bl, 0, none⟩)), (3, .pointer (some ⟨bh, 0, none⟩)), (34, .slice a s.ks.length cc), (35, .int .i64 (s.ks.length : Int)), (36, .int .i64 (k : Int))] ∧ Keep (c :: (Value.slice a0 n0 c0).ownBlock.toList) h h' ∧ Blk h' c [x0, x1, x2, .slice as1 s.s.data.toList.length cs1, .slice ae1 s.e.data.toList.length ce1, kv, .int .i8 kk] 185 ∧ n = ((s.ks.take k).filter (passK low high)).length ∧ Own h' 0 130 3 kv n xs ∧ RowsR 3 (cPKey Fin h) xs ((s.ks.take k).filter (passK low high)) ∧ (∀ x, x ∈ kv.ownBlock.toList → (x ∈ (Value.slice a0 n0 c0).ownBlock.toList ∨ h.size ≤ x) ∧ x ≠ c)) s.ks.length [(0, _), (1, _), (2, _), (3, _), (34, _), (35, _), (36, _)] ⟨rfl, rfl, rfl, rfl, rfl, rfl, rfl, trivial⟩ ⟨0, _, 0, [], Nat.zero_le _, rfl, rfl, K, Bc, rfl, Own.cut0 (O.keep2 K2 (fun x hx hm => (hob0 x hx).1 (by simpa using hm))), RowsR.nil _ _, fun x hx => by rw [own_block0 (m2 := n0) (c2 := c0)] at hx; exact ⟨.inl hx, (hob0 x hx).1⟩⟩ ?_
  rintro m E hL3 ⟨k, kv, n, xs, hk, rfl, rfl, K, Bc, hn, O, hrow, hmem⟩
  obtain ⟨a8, c8, rfl⟩ := Own.form3 O
  have hclt2 := Bc.lt
  have hKz := K.1
  have BL := K.blk (fun hm => by rcases List.mem_cons.1 hm with e | e; exact hlc e; exact (hob0 _ e).2.2.1 rfl) BL
  have BH := K.blk (fun hm => by rcases List.mem_cons.1 hm with e | e; exact hhc e; exact (hob0 _ e).2.2.2 rfl) BH
  have hblt := BL.lt
  have hbht := BH.lt
  have hob := own_ne O; have KL := Keep.refl [] hL3
  refine tr_seq ?_
  refine tr_reg ?_
  refine rs_v (v_lt rfl rfl) rfl ?_
  refine rs_nil ?_
  refine q_thn ?_
  refine tr_seq ?_
  refine tr_ifn rfl (fun hif => ?_) (fun hif => ?_)
  · -- no
    simp only [decide_eq_true_eq, decide_eq_false_iff_not] at hif
    have hkk : k = s.ks.length := by omega
    subst hkk
    refine tr_exit ?_
    refine q_thn_exit ?_
    refine q_lp_exit ?_
    refine q_blk_hit ?_
    refine q_thn ?_
    refine tr_seq ?_
    refine tr_reg ?_
    refine rs_v (v_move rfl) rfl ?_
    refine rs_v (v_nilCheck_ptr rfl) rfl ?_
    refine rs_v (v_fieldAddr fa_keyspan_Span_2 rfl) rfl ?_
    refine rs_v (v_load one_sl_keyspan_Key rfl (by exact Bc.cell _ rfl)) rfl ?_
    refine rs_v (v_len u_sl_keyspan_Key rfl) rfl ?_
    refine rs_v (v_gt rfl rfl) rfl ?_
    refine rs_v (v_assign rfl) rfl ?_
    refine rs_nil ?_
    refine q_thn ?_
    refine tr_ret ?_
    refine q_ret (res_tmp rfl rfl) ?_
    rw [List.take_length] at hn hrow
    have hS : Stab Fin h hL3 := K.stab fun b hb => ⟨hlow b hb, hFX b hb⟩
    refine ⟨?_, _, _, _, _, _, Bc, O, K, hmem, fun s' hs' => ?_⟩
    · rw [hn, ffS]
      by_cases e : s.ks.filter (passK low high) = []
      · rw [if_pos e, e]; rfl
      · rw [if_neg e]
        have : 0 < (s.ks.filter (passK low high)).length := List.length_pos_iff.2 e
        simp [this]
    · rw [ffS] at hs'
      split at hs'
      · cases hs'
      · cases hs'
        exact ⟨r1.stab hS, r2.stab hS, hn, hrow.mono fun c a hr => cPKey_st.stab _ _ _ _ _ hS hr⟩
  -- yes
  simp only [decide_eq_true_eq, decide_eq_false_iff_not] at hif
  rcases hx with e | ⟨b, o, rfl, hAb, hR⟩
  · rw [e] at hif; simp at hif; omega
  obtain ⟨y, hsk⟩ := ex_get (L := s.ks) (k := k) (by omega)
  have hkl : k < s.ks.length := (List.getElem?_eq_some_iff.1 hsk).1
  obtain ⟨sv2, vv2, hcell2, q1, q2⟩ := hR k y hsk
  obtain ⟨b1, d1, rfl⟩ := q1.form2
  obtain ⟨b2, d2, rfl⟩ := q2.form2
  have hcells := K.cells (hFX _ hAb) hcell2
  have hnk : n ≤ k := by rw [hn]; exact Nat.le_trans (List.length_filter_le _ _) (by rw [List.length_take]; omega)
  refine tr_skip ?_
  refine q_thn ?_
  refine tr_seq ?_
  refine tr_block ?_
  refine tr_seq ?_
  refine tr_reg ?_
  refine rs_v (v_indexAddrN u_sl_keyspan_Key siz_keyspan_Key rfl rfl (by omega)) rfl ?_
  refine rs_v (v_loadAgg (vs := [_, _, _]) many_keyspan_Key rfl (by exact hcells)) rfl ?_
  refine rs_w (w_new zero_keyspan_Key) rfl ?_
  rintro _ h4 ⟨rfl, B4, K4, Z4⟩
  have Bc := K4.blk (by simp) Bc
  have BL := K4.blk (by simp) BL
  have BH := K4.blk (by simp) BH
  have O := O.keep2 K4 (fun x hm => by have := hob x hm; simp; try omega)
  have S4 := K.1; have K := K.new0 K4
  refine rs_w0 (w_put siz_keyspan_Key rfl rfl rfl rfl B4 rfl) ?_
  rintro _ h5 ⟨B5, K5⟩
  have Bc := K5.blk (by simp; omega) Bc
  have BL := K5.blk (by simp; omega) BL
  have BH := K5.blk (by simp; omega) BH
  have O := O.keep2 K5 (fun x hm => by have := hob x hm; simp; try omega)
  have B4 := B5; have K := K.new1 K5 (by first | (right; omega) | (left; simp; done)); have Z5 := K5.1
  refine rs_nil ?_
  refine q_thn ?_
  refine tr_cut (fun E h' => h5 = h' ∧ E = [(0, .pointer (some ⟨bi, oi, none⟩)), (1, .pointer (some ⟨c, 3, none⟩)), (2, .pointer (some ⟨bl, 0, none⟩)), (3, .pointer (some ⟨bh, 0, none⟩)), (8, .pointer (some ⟨hL3.size, 0, none⟩)), (34, .slice (some ⟨b, o, none⟩) s.ks.length cc), (35, .int .i64 (s.ks.length : Int)), (36, .int .i64 (k : Int)), (49, .bool (passK low high y))]) ?_ ?_
  ·
    rcases Bool.eq_false_or_eq_true (decide (low ≤ y.tr)) with g0 | g0
    · skip
      refine tr_reg ?_
      refine rs_v (v_load one_uint64 rfl (by exact BL.cell _ rfl)) rfl ?_
      refine rs_v (v_fieldAddr fa_keyspan_Key_0 rfl) rfl ?_
      refine rs_v (v_load one_uint64 rfl (by exact B4.cell _ rfl)) rfl ?_
      refine rs_v (v_le rfl rfl) rfl ?_
      refine rs_v (v_move rfl) rfl ?_
      refine rs_gv rfl (lkb g0) (v_fieldAddr fa_keyspan_Key_0 rfl) rfl ?_
      refine rs_gv rfl (lkb g0) (v_load one_uint64 rfl (by exact B4.cell _ rfl)) rfl ?_
      refine rs_gv rfl (lkb g0) (v_load one_uint64 rfl (by exact BH.cell _ rfl)) rfl ?_
      refine rs_gv rfl (lkb g0) (v_le rfl rfl) rfl ?_
      refine rs_v (v_pick_t (lkb g0) rfl) rfl ?_
      refine rs_nil ?_
      refine q_cut [(0, _), (1, _), (2, _), (3, _), (8, _), (34, _), (35, _), (36, _), (49, _)] ⟨rfl, rfl, rfl, rfl, rfl, rfl, rfl, rfl, rfl, trivial⟩ ⟨rfl, ?_⟩
      rw [show passK low high y = decide (y.tr ≤ high) from by simp only [passK, g0, Bool.true_and, Bool.false_and]]
    · skip
      refine tr_reg ?_
      refine rs_v (v_load one_uint64 rfl (by exact BL.cell _ rfl)) rfl ?_
      refine rs_v (v_fieldAddr fa_keyspan_Key_0 rfl) rfl ?_
      refine rs_v (v_load one_uint64 rfl (by exact B4.cell _ rfl)) rfl ?_
      refine rs_v (v_le rfl rfl) rfl ?_
      refine rs_v (v_move rfl) rfl ?_
      refine rs_gs rfl (lkb g0) rfl rfl ?_
      refine rs_gs rfl (lkb g0) rfl rfl ?_
      refine rs_gs rfl (lkb g0) rfl rfl ?_
      refine rs_gs rfl (lkb g0) rfl rfl ?_
      refine rs_v (v_pick_f (lkb g0) rfl) rfl ?_
      refine rs_nil ?_
      refine q_cut [(0, _), (1, _), (2, _), (3, _), (8, _), (34, _), (35, _), (36, _), (49, _)] ⟨rfl, rfl, rfl, rfl, rfl, rfl, rfl, rfl, rfl, trivial⟩ ⟨rfl, ?_⟩
      rw [show passK low high y = false from by simp only [passK, g0, Bool.true_and, Bool.false_and]]
  rintro E h9 ⟨hh, rfl⟩
  subst hh
  refine tr_if rfl (fun hif => ?_) (fun hif => ?_)
  · -- yes
    skip
    have hce : c ∉ (Value.slice a8 n c8).ownBlock.toList := fun hm => (hmem c hm).2 rfl
    refine tr_draw [(true, 8), (false, 3)] _ (by kernel_rfl) (by kernel_rfl) (by kernel_rfl) ?_
    refine rx_big (Keep []) (Keep (Value.slice a8 n c8).ownBlock.toList) (keep_pre _) (keep_pre _) (fun _ _ k => k.any) ?_
    refine rb_v (keep_pre _) (fun h' hk => v_move rfl) ?_
    refine rb_v (keep_pre _) (fun h' hk => v_move rfl) ?_
    refine rb_v (keep_pre _) (fun h' hk => v_nilCheck_ptr rfl) ?_
    refine rb_v (keep_pre _) (fun h' hk => v_fieldAddr fa_keyspan_Span_2 rfl) ?_
    refine rb_v (keep_pre _) (fun h' hk => v_load one_sl_keyspan_Key rfl (Blk.cell (hk.blk hce Bc) _ rfl)) ?_
    refine rb_v (keep_pre _) (fun h' hk => v_loadAgg (vs := [_, _, _]) many_keyspan_Key rfl (Blk.sub (hk.blk (fun hm => by have := (hob _ hm).2; omega) B4) 0 3 rfl)) ?_
    refine rb_w (fun v h' => ∃ g, v = .slice (some ⟨g, 0, none⟩) 1 1 ∧ Blk h' g [.int .u64 y.tr, .slice b1 y.suf.data.toList.length d1, .slice b2 y.val.data.toList.length d2] 130 ∧ h5.size ≤ g)
      (fun v _ _ k1 k2 hr => by obtain ⟨g, e, B, hg⟩ := hr; exact ⟨g, e, k2.blk (fun hm => by have := (hob _ hm).2; omega) B, hg⟩)
      (fun h' hk => OpW.mono (w_new1 u_sl_keyspan_Key siz_keyspan_Key zero_keyspan_Key rfl rfl rfl rfl rfl) (fun v h'' hv => by
        obtain ⟨e, B, K', _⟩ := hv
        exact ⟨K', _, e, B, hk.1⟩)) ?_
    refine rb_bigO 56 (fun v h' => Own h' 0 130 3 v (n + 1) (xs ++ [.int .u64 y.tr, .slice b1 y.suf.data.toList.length d1, .slice b2 y.val.data.toList.length d2]) ∧ ∀ x, x ∈ v.ownBlock.toList → x ∈ (Value.slice a8 n c8).ownBlock.toList ∨ h5.size ≤ x) rfl (by kernel_rfl)
      (fun v _ _ k1 k2 hr => ⟨hr.1.keep2 k2 (by simp), hr.2⟩)
      (fun u h' hk hu => by
        obtain ⟨g, rfl, B, hg⟩ := hu
        exact OpW.mono (w_app1 u_sl_keyspan_Key info_keyspan_Key rfl rfl rfl (O.keep2 hk (by simp)) rfl rfl B rfl (by omega) (by omega) (by omega)) (fun v h'' hv => by
          obtain ⟨e1, e2, _, e4⟩ := hv
          refine ⟨e2, e1, fun x hx => ?_⟩
          rcases e4 with e4 | e4
          · rw [e4] at hx; exact .inl hx
          · rw [e4] at hx; simp at hx; exact .inr (by have := hk.1; omega))) ?_
    refine rb_end ?_; intro ha Ka; simp only [endM, hypF, ofE, argE, List.nil_append]
    intro v57 hv57 v56 _
    obtain ⟨O, hfr⟩ := hv57
    obtain ⟨a9, c9, rfl⟩ := Own.form3 O
    have Bc := Ka.blk hce Bc
    have K := K.newX Ka (fun x hm => (hmem x hm).1.imp (fun h9 => List.mem_cons_of_mem _ h9) id); have Za := Ka.1
    refine rx_seq ?_
    refine rs_v (v_nilCheck_ptr rfl) rfl ?_
    refine rs_v (v_fieldAddr fa_keyspan_Span_2 rfl) rfl ?_
    refine rs_w0 (w_put siz_sl_keyspan_Key rfl rfl rfl rfl Bc rfl) ?_
    rintro _ h7 ⟨B7, K7⟩
    have hfc : ∀ x, x ∈ (Value.slice a9 (n + 1) c9).ownBlock.toList → (x ∈ (Value.slice a0 n0 c0).ownBlock.toList ∨ h.size ≤ x) ∧ x ≠ c := fun x hx => by
      rcases hfr x hx with h9 | h9
      · exact hmem x h9
      · exact ⟨.inr (by omega), by omega⟩
    have Bc := B7; have K := K.new1 K7 (by left; simp); have Z7 := K7.1
    have O := O.keep2 K7 (fun x hx hm => (hfc x hx).2 (by simpa using hm))
    refine rs_nil ?_
    refine q_con ?_
    refine rx_nil ?_
    refine q_blk_n ?_
    refine q_thn ?_
    refine tr_reg ?_
    refine rs_v (v_add rfl rfl (by omega) (by omega)) rfl ?_
    refine rs_v (v_move rfl) rfl ?_
    refine rs_nil ?_
    refine q_lp (s.ks.length - (k + 1)) [(0, _), (1, _), (2, _), (3, _), (34, _), (35, _), (36, _)] (by omega) ⟨rfl, rfl, rfl, rfl, rfl, rfl, rfl, trivial⟩ ⟨k + 1, _, n + 1, _, by omega, rfl, rfl, K, Bc, ?_, O, ?_, hfc⟩
    · rw [take_snoc' hsk, filter_snoc, if_pos hif, List.length_append, ← hn]; rfl
    · rw [take_snoc' hsk, filter_snoc, if_pos hif]
      exact hrow.snoc rfl ⟨_, _, rfl, q1, q2⟩
  -- no
  skip
  refine tr_skip ?_
  refine q_blk_n ?_
  refine q_thn ?_
  refine tr_reg ?_
  refine rs_v (v_add rfl rfl (by omega) (by omega)) rfl ?_
  refine rs_v (v_move rfl) rfl ?_
  refine rs_nil ?_
  refine q_lp (s.ks.length - (k + 1)) [(0, _), (1, _), (2, _), (3, _), (34, _), (35, _), (36, _)] (by omega) ⟨rfl, rfl, rfl, rfl, rfl, rfl, rfl, trivial⟩ ⟨k + 1, _, n, xs, by omega, rfl, rfl, K, Bc, ?_, O, ?_, hmem⟩
  · rw [take_snoc' hsk, filter_snoc, if_neg (by rw [hif]; decide)]; exact hn
  · rw [take_snoc' hsk, filter_snoc, if_neg (by rw [hif]; decide)]; exact hrow
end Go.Proofs.Ytgebfbnndgjkiaa
