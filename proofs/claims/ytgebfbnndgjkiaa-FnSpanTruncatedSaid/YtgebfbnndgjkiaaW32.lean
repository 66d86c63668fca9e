/- Thirty-second part: the function of Truncate's filter. Conditions: those that each theorem names. -/
import Derived.Test.YtgebfbnndgjkiaaW31
set_option linter.unusedVariables false
set_option linter.unusedSimpArgs false
namespace Go.Proofs.Ytgebfbnndgjkiaa
open Go.Tess Go.RowKit
set_option maxRecDepth 100000
set_option maxHeartbeats 1000000
/-- A span that lies wholly ahead of the first internal key, behind the second one. -/
def stB (st : Option ByteArray) (s : SpanD) : Bool := match st with | none => false | some k => sle s.e k
def enB (en : Option ByteArray) (s : SpanD) : Bool := match en with | none => false | some k => slt k s.s
def cutLo (lo : ByteArray) (s : SpanD) : ByteArray := if slt s.s lo then lo else s.s
def cutUp (up : ByteArray) (s : SpanD) : ByteArray := if slt up s.e then up else s.e
def ffT (st en : Option ByteArray) (lo up : ByteArray) (s : SpanD) : Option SpanD :=
  if stB st s then none else if enB en s then none else if slt (cutLo lo s) (cutUp up s) then some ⟨cutLo lo s, cutUp up s, s.ks⟩ else none
/-- An internal key behind a pointer, or none. -/
def PBnd (G : Nat → Prop) (h : Heap) (p : Option Addr) (k : Option ByteArray) : Prop := match k with
  | none => p = none
  | some k => ∃ b o kv tr, p = some ⟨b, o, none⟩ ∧ G b ∧ CellsAt h b o [kv, tr] ∧ RBytes G h kv k
structure EnvT (bst bcm ben blo bup bpn : Nat) (st en : Option ByteArray) (lo up : ByteArray) (G : Nat → Prop) (h : Heap) : Prop where
  low : Low G h
  g : G bst ∧ G bcm ∧ G ben ∧ G blo ∧ G bup ∧ G bpn
  bs : ∃ p, Blk h bst [.pointer p] 171 ∧ PBnd G h p st
  bc : Blk h bcm [cmpF] 104
  be : ∃ p, Blk h ben [.pointer p] 171 ∧ PBnd G h p en
  bl : ∃ v, Blk h blo [v] 123 ∧ RBytes G h v lo
  bu : ∃ v, Blk h bup [v] 123 ∧ RBytes G h v up
  bp : Blk h bpn [.bool false] 4
theorem PBnd.stab {G : Nat → Prop} {h h' : Heap} {p : Option Addr} {k : Option ByteArray} (hp : PBnd G h p k) (s : Stab G h h') : PBnd G h' p k := by
  cases k with
  | none => exact hp
  | some k =>
    obtain ⟨b, o, kv, tr, e, h1, h2, h3⟩ := hp
    exact ⟨b, o, kv, tr, e, h1, s.cells h1 h2, h3.stab s⟩
section
variable {bst bcm ben blo bup bpn : Nat} {st en : Option ByteArray} {lo up : ByteArray} {G : Nat → Prop} {h h' : Heap}
theorem EnvT.stab (hE : EnvT bst bcm ben blo bup bpn st en lo up G h) (s : Stab G h h') (hz : h.size ≤ h'.size) : EnvT bst bcm ben blo bup bpn st en lo up G h' where
  low := hE.low.mono hz
  g := hE.g
  bs := by obtain ⟨p, h1, h2⟩ := hE.bs; exact ⟨p, (s _ hE.g.1).trans h1, h2.stab s⟩
  bc := (s _ hE.g.2.1).trans hE.bc
  be := by obtain ⟨p, h1, h2⟩ := hE.be; exact ⟨p, (s _ hE.g.2.2.1).trans h1, h2.stab s⟩
  bl := by obtain ⟨p, h1, h2⟩ := hE.bl; exact ⟨p, (s _ hE.g.2.2.2.1).trans h1, h2.stab s⟩
  bu := by obtain ⟨p, h1, h2⟩ := hE.bu; exact ⟨p, (s _ hE.g.2.2.2.2.1).trans h1, h2.stab s⟩
  bp := (s _ hE.g.2.2.2.2.2).trans hE.bp
end
theorem cPKey_one (G : Nat → Prop) (h : Heap) (c : List Value) (k : KeyD) (hc : cPKey G h c k) : c.all (fun u => u.oneCell') = true := by
  obtain ⟨sv, vv, rfl, h1, h2⟩ := hc
  obtain ⟨_, _, rfl⟩ := h1.form2
  obtain ⟨_, _, rfl⟩ := h2.form2
  rfl

theorem c_Empty (χ : Chi) (h : Heap) (b o : Nat) (a : Option Addr) (n cc : Nat) (hc : cellH h b (o + 2) = some (.slice a n cc)) :
    Cl Try.prog χ 92 #[.pointer (some ⟨b, o, none⟩)] h (fun r h' => r = .bool (decide ((n : Int) = 0)) ∧ h' = h) := by
  refine cl_intro Try.func92 rfl rfl rfl ?_
  have K : Keep [] h h := Keep.refl _ _
  refine tr_seq ?_
  refine tr_reg ?_
  refine rs_v (v_assign rfl) rfl ?_
  refine rs_nil ?_
  refine q_thn ?_
  refine tr_seq ?_
  refine tr_reg ?_
  refine rs_v (v_move rfl) rfl ?_
  refine rs_v (v_peq u_p_keyspan_Span rfl rfl) rfl ?_
  refine rs_v (v_move rfl) rfl ?_
  refine rs_gv rfl (rfl) (v_move rfl) rfl ?_
  refine rs_gv rfl (rfl) (v_nilCheck_ptr rfl) rfl ?_
  refine rs_gv rfl (rfl) (v_fieldAddr fa_keyspan_Span_2 rfl) rfl ?_
  refine rs_gv rfl (rfl) (v_load one_sl_keyspan_Key rfl (by exact hc)) rfl ?_
  refine rs_gv rfl (rfl) (v_len u_sl_keyspan_Key rfl) rfl ?_
  refine rs_gv rfl (rfl) (v_eq rfl rfl) rfl ?_
  refine rs_v (v_pick_f rfl rfl) rfl ?_
  refine rs_v (v_assign rfl) rfl ?_
  refine rs_nil ?_
  refine q_thn ?_
  refine tr_ret ?_
  refine q_ret (res_tmp rfl rfl) ?_
  exact ⟨rfl, rfl⟩
theorem c_fnT (χ : Chi) (h : Heap) (Fin : Nat → Prop) (hlow : Low Fin h) (s : SpanD) (bi oi : Nat) (hin : PSpan Fin h bi oi s) (hbi : Fin bi) (c : Nat) (x0 x1 x2 sv0 ev0 kv0 : Value) (kk : Int) (Bc : Blk h c [x0, x1, x2, sv0, ev0, kv0, .int .i8 kk] 185)
    (hcF : ¬ Fin c) (n0 : Nat) (xs0 : List Value) (O : Own h 0 130 3 kv0 n0 xs0) (bst bcm ben blo bup bpn : Nat) (st en : Option ByteArray) (lo up : ByteArray) (G : Nat → Prop) (hE : EnvT bst bcm ben blo bup bpn st en lo up G h)
    (hob0 : ∀ x, x ∈ kv0.ownBlock.toList → x ≠ c ∧ ¬ Fin x ∧ ¬ G x) (hcG : ¬ G c) (hn : s.ks.length ≤ 100000) (hne : s.ks ≠ []) (hen : en ≠ some s.s) :
    Cl Try.prog χ 91 #[.pointer (some ⟨bi, oi, none⟩), .pointer (some ⟨c, 3, none⟩), .pointer (some ⟨bst, 0, none⟩), .pointer (some ⟨bcm, 0, none⟩), .pointer (some ⟨ben, 0, none⟩), .pointer (some ⟨blo, 0, none⟩), .pointer (some ⟨bup, 0, none⟩), .pointer (some ⟨bpn, 0, none⟩)] h (FnPost (ffT st en lo up) s (fun b => Fin b ∨ G b) c x0 x1 x2 kk kv0.ownBlock.toList h) := by
  obtain ⟨a0, c0, rfl⟩ := Own.form3 O
  obtain ⟨sv1, ev1, kv1, kk1, hcell, r1, r2, r3⟩ := hin
  obtain ⟨as1, cs1, rfl⟩ := r1.form2
  obtain ⟨ae1, ce1, rfl⟩ := r2.form2
  obtain ⟨hlen, a, cc, rfl, hx⟩ := r3.form
  rcases hx with hx | ⟨b, o, rfl, hAb, hR⟩
  · exact absurd hx hne
  have hbc : bi ≠ c := fun e => hcF (e ▸ hbi)
  have hFX : ∀ b, Fin b → b ∉ (c :: (Value.slice a0 n0 c0).ownBlock.toList) := fun b hb hm => by
    rcases List.mem_cons.1 hm with e | e
    · subst e; exact hcF hb
    · exact (hob0 b e).2.1 hb
  have hGX : ∀ b, G b → b ∉ (c :: (Value.slice a0 n0 c0).ownBlock.toList) := fun b hb hm => by
    rcases List.mem_cons.1 hm with e | e
    · subst e; exact hcG hb
    · exact (hob0 b e).2.2 hb
  have hclt := Bc.lt
  refine cl_intro Try.func91 rfl rfl rfl ?_
  have K : Keep (c :: (Value.slice a0 n0 c0).ownBlock.toList) h h := Keep.refl _ _
  refine tr_seq ?_
  refine tr_reg ?_
  refine rs_v (v_assign rfl) rfl ?_
  refine rs_nil ?_
  refine q_thn ?_
  refine tr_seq ?_
  refine tr_draw [(true, 13), (false, 3)] _ (by kernel_rfl) (by kernel_rfl) (by kernel_rfl) ?_
  refine rx_any (KeepB c [x0, x1, x2, .slice as1 s.s.data.toList.length cs1, ev0, .slice a0 n0 c0, .int .i8 kk] 185) (keepB_pre _ _ _) ?_
  refine rm_v (keepB_pre _ _ _) (fun h' hk => v_move rfl) ?_
  refine rm_v (keepB_pre _ _ _) (fun h' hk => v_move rfl) ?_
  refine rm_v (keepB_pre _ _ _) (fun h' hk => v_move rfl) ?_
  refine rm_v (keepB_pre _ _ _) (fun h' hk => v_nilCheck_ptr rfl) ?_
  refine rm_v (keepB_pre _ _ _) (fun h' hk => v_fieldAddr fa_keyspan_Span_0 rfl) ?_
  refine rm_v (keepB_pre _ _ _) (fun h' hk => v_load one_sl_uint8 rfl ((hk.1.cells (by simpa using hbc) hcell).at 0 rfl)) ?_
  refine rm_v (keepB_pre _ _ _) (fun h' hk => v_move rfl) ?_
  refine rm_v (keepB_pre _ _ _) (fun h' hk => v_nilCheck_ptr rfl) ?_
  refine rm_v (keepB_pre _ _ _) (fun h' hk => v_fieldAddr fa_keyspan_Span_1 rfl) ?_
  refine rm_v (keepB_pre _ _ _) (fun h' hk => v_load one_sl_uint8 rfl ((hk.1.cells (by simpa using hbc) hcell).at 1 rfl)) ?_
  refine rm_v (keepB_pre _ _ _) (fun h' hk => v_nilCheck_ptr rfl) ?_
  refine rm_v (keepB_pre _ _ _) (fun h' hk => v_fieldAddr fa_keyspan_Span_0 rfl) ?_
  refine rm_w0 _ keepB_stab (fun h' hk => w_putB siz_sl_uint8 rfl rfl rfl rfl Bc hk rfl rfl rfl rfl) ?_
  refine rm_end ?_; intro ha Ka; simp only [endM, hypF, ofE, argE, List.nil_append]; intro Bc
  have K := K.new1 Ka.1 (by left; simp); have Za := Ka.1.1
  have O := O.keep2 Ka.1 (fun x hx hm => (hob0 x hx).1 (by simpa using hm))
  refine rx_seq ?_
  refine rs_v (v_nilCheck_ptr rfl) rfl ?_
  refine rs_v (v_fieldAddr fa_keyspan_Span_1 rfl) rfl ?_
  refine rs_w0 (w_put siz_sl_uint8 rfl rfl rfl rfl Bc rfl) ?_
  rintro _ h1 ⟨B1, K1⟩
  have Bc := B1; have K := K.new1 K1 (by left; simp); have Z1 := K1.1
  have O := O.keep2 K1 (fun x hx hm => (hob0 x hx).1 (by simpa using hm))
  refine rs_nil ?_
  refine q_con ?_
  refine rx_nil ?_
  refine q_thn ?_
  refine tr_seq ?_
  have O0 := Own.cut0 O
  have hcell1 := K.cells (hFX _ hbi) hcell
  obtain ⟨news, hnc, hnr⟩ := rows_of (sz := 3) (R := cPKey Fin h) (fun i x hi => by
    obtain ⟨sv9, vv9, g1, g2, g3⟩ := hR i x hi
    exact ⟨_, rfl, K.cells (hFX _ hAb) g1, sv9, vv9, rfl, g2, g3⟩) (by omega)
  have hn1 := hnr.all1 (fun c k hc => cPKey_one _ _ c k hc)
  have hnl := hnr.len
  refine tr_draw [(true, 11), (false, 3)] _ (by kernel_rfl) (by kernel_rfl) (by kernel_rfl) ?_
  refine rx_one 10 ?_
  refine re_a rfl (fun h' => v_move rfl) ?_
  refine re_v rfl (by kernel_rfl) (v_move rfl) ?_
  refine re_v rfl (by kernel_rfl) (v_nilCheck_ptr rfl) ?_
  refine re_v rfl (by kernel_rfl) (v_fieldAddr fa_keyspan_Span_2 rfl) ?_
  refine re_v rfl (by kernel_rfl) (v_load one_sl_keyspan_Key rfl (Bc.cell _ rfl)) ?_
  refine re_v rfl (by kernel_rfl) (v_slice_h u_sl_keyspan_Key siz_keyspan_Key (i := 0) rfl rfl rfl (by omega)) ?_
  refine re_v rfl (by kernel_rfl) (v_move rfl) ?_
  refine re_v rfl (by kernel_rfl) (v_nilCheck_ptr rfl) ?_
  refine re_v rfl (by kernel_rfl) (v_fieldAddr fa_keyspan_Span_2 rfl) ?_
  refine re_v rfl (by kernel_rfl) (v_load one_sl_keyspan_Key rfl (hcell1.at 2 rfl)) ?_
  refine re_w _ rfl (w_appN u_sl_keyspan_Key info_keyspan_Key rfl rfl rfl O0 rfl hnl hnc hn1 (by omega) (by omega) (by omega)) ?_
  refine re_end ?_; intro hb _; simp only [endM, hypF, ofE, argE, List.nil_append]; rintro v38 ⟨O, Kb, Fb⟩
  obtain ⟨a9, c9, rfl⟩ := Own.form3 O
  rw [own_block0 (a := a0) (m := 0) (m2 := n0) (c2 := c0)] at Kb Fb
  have hclt1 := Bc.lt
  have Bc := Kb.blk (fun hm => (hob0 c hm).1 rfl) Bc
  have hK1 := K.1
  have K := K.newX Kb (fun x hm => .inl (List.mem_cons_of_mem _ hm)); have Zb := Kb.1
  have hfc : ∀ x, x ∈ (Value.slice a9 (0 + s.ks.length) c9).ownBlock.toList → (x ∈ (Value.slice a0 n0 c0).ownBlock.toList ∨ h.size ≤ x) ∧ x ≠ c := fun x hx => by
    rcases Fb with e | e
    · rw [e] at hx; exact ⟨.inl hx, (hob0 x hx).1⟩
    · rw [e] at hx; simp at hx; exact ⟨.inr (by omega), by omega⟩
  refine rx_seq ?_
  refine rs_v (v_nilCheck_ptr rfl) rfl ?_
  refine rs_v (v_fieldAddr fa_keyspan_Span_2 rfl) rfl ?_
  refine rs_w0 (w_put siz_sl_keyspan_Key rfl rfl rfl rfl Bc rfl) ?_
  rintro _ h2 ⟨B2, K2⟩
  have Bc := B2; have K := K.new1 K2 (by left; simp); have Z2 := K2.1
  have O := O.keep2 K2 (fun x hx hm => (hfc x hx).2 (by simpa using hm))
  rw [Nat.zero_add s.ks.length] at O hfc Bc
  have hSF : Stab Fin h h2 := K.stab fun b hb => ⟨hlow b hb, hFX b hb⟩
  have hFc : ∀ b, Fin b → b < (h2).size ∧ b ∉ [c] := fun b hb => ⟨Nat.lt_of_lt_of_le (hlow b hb) K.1, fun hm => hcF (by rw [List.mem_singleton] at hm; rw [← hm]; exact hb)⟩
  have hGc : ∀ b, G b → b < (h2).size ∧ b ∉ [c] := fun b hb => ⟨Nat.lt_of_lt_of_le (hE.low b hb) K.1, fun hm => hcG (by rw [List.mem_singleton] at hm; rw [← hm]; exact hb)⟩
  have hFGc : ∀ b, (Fin b ∨ G b) → b < (h2).size ∧ b ∉ [c] := fun b hb => hb.elim (hFc b) (hGc b)
  have hE2 := hE.stab (K.stab fun b hb => ⟨hE.low b hb, hGX b hb⟩) K.1
  have hg := hE.g
  obtain ⟨ps, BS, hps⟩ := hE2.bs
  obtain ⟨pe, BE, hpe⟩ := hE2.be
  obtain ⟨vl, BL, hvl⟩ := hE2.bl
  obtain ⟨vu, BU, hvu⟩ := hE2.bu
  have BC := hE2.bc
  have BP := hE2.bp
  obtain ⟨al, cl, rfl⟩ := hvl.form2
  obtain ⟨au, cu, rfl⟩ := hvu.form2
  have hcell2 := K.cells (hFX _ hbi) hcell
  have q1 := r1.stab hSF
  have q2 := r2.stab hSF
  refine rs_nil ?_
  refine q_con ?_
  refine rx_nil ?_
  refine q_thn ?_
  refine tr_seq ?_
  refine tr_cut (fun E h' => h2 = h' ∧ E = [(0, .pointer (some ⟨bi, oi, none⟩)), (1, .pointer (some ⟨c, 3, none⟩)), (2, .pointer (some ⟨bst, 0, none⟩)), (3, .pointer (some ⟨bcm, 0, none⟩)), (4, .pointer (some ⟨ben, 0, none⟩)), (5, .pointer (some ⟨blo, 0, none⟩)), (6, .pointer (some ⟨bup, 0, none⟩)), (7, .pointer (some ⟨bpn, 0, none⟩)), (55, .bool (stB st s))]) ?_ ?_
  ·
    rcases st with _ | k
    · have hps0 : ps = none := hps
      subst hps0
      refine tr_quiet (by kernel_rfl) (by kernel_rfl) ?_
      refine rq_v (v_load one_p_base_InternalKey rfl (by exact BS.cell _ rfl)) ?_
      refine rq_v (v_pne u_p_base_InternalKey rfl rfl) ?_
      refine rq_v (v_move rfl) ?_
      refine rm_gs same_pre rfl rfl rfl ?_
      refine rm_gs same_pre rfl rfl rfl ?_
      refine rm_gs same_pre rfl rfl rfl ?_
      refine rm_gs same_pre rfl rfl rfl ?_
      refine rm_gs same_pre rfl rfl rfl ?_
      refine rm_gs same_pre rfl rfl rfl ?_
      refine rm_gs same_pre rfl rfl rfl ?_
      refine rm_gs same_pre rfl rfl rfl ?_
      refine rm_gs same_pre rfl rfl rfl ?_
      refine rm_gs same_pre rfl rfl rfl ?_
      refine rm_gs same_pre rfl rfl rfl ?_
      refine rq_v (v_pick_f rfl rfl) ?_
      refine rm_end ?_; simp only [endM, hypF, ofE, argE]
      exact q_cut [(0, _), (1, _), (2, _), (3, _), (4, _), (5, _), (6, _), (7, _), (55, _)] ⟨rfl, rfl, rfl, rfl, rfl, rfl, rfl, rfl, rfl, trivial⟩ ⟨rfl, rfl⟩
    · obtain ⟨bk, ok, kvk, trk, rfl, hgk, hck, hrk⟩ := hps
      refine tr_quiet (by kernel_rfl) (by kernel_rfl) ?_
      refine rq_v (v_load one_p_base_InternalKey rfl (by exact BS.cell _ rfl)) ?_
      refine rq_v (v_pne u_p_base_InternalKey rfl rfl) ?_
      refine rq_v (v_move rfl) ?_
      refine rq_gv rfl rfl (v_load one_base_Compare rfl (by exact BC.cell _ rfl)) ?_
      refine rq_gv rfl rfl (v_move rfl) ?_
      refine rq_gv rfl rfl (v_nilCheck_ptr rfl) ?_
      refine rq_gv rfl rfl (v_fieldAddr fa_keyspan_Span_1 rfl) ?_
      refine rq_gv rfl rfl (v_load one_sl_uint8 rfl (by exact hcell2.at 1 rfl)) ?_
      refine rq_gv rfl rfl (v_load one_p_base_InternalKey rfl (by exact BS.cell _ rfl)) ?_
      refine rq_gv rfl rfl (v_nilCheck_ptr rfl) ?_
      refine rq_gv rfl rfl (v_fieldAddr fa_base_InternalKey_0 rfl) ?_
      refine rq_gv rfl rfl (v_load one_sl_uint8 rfl (by exact hck.at 0 rfl)) ?_
      refine rq_gw rfl rfl (w_callv (first := []) (cap := []) (vs := [_, _]) ok_bytes_Compare rfl ⟨rfl, rfl, trivial⟩ (c_Compare χ _ _ _ s.e k (RBytes.by q2) (RBytes.by hrk))) ?_
      refine rq_gv rfl rfl (v_le rfl rfl) ?_
      refine rq_v (v_pick_t rfl rfl) ?_
      refine rm_end ?_; simp only [endM, hypF, ofE, argE]
      refine q_cut [(0, _), (1, _), (2, _), (3, _), (4, _), (5, _), (6, _), (7, _), (55, _)] ⟨rfl, rfl, rfl, rfl, rfl, rfl, rfl, rfl, rfl, trivial⟩ ⟨rfl, ?_⟩
      rw [show stB (some k) s = decide (cmpB s.e k ≤ 0) from sle_cmp _ _]
  rintro E h9 ⟨hh, rfl⟩
  subst hh
  refine tr_if rfl (fun hif => ?_) (fun hif => ?_)
  · -- yes
    skip
    refine tr_seq ?_
    refine tr_reg ?_
    refine rs_v (v_assign rfl) rfl ?_
    refine rs_nil ?_
    refine q_thn ?_
    refine tr_ret ?_
    refine q_thn_ret ?_
    refine q_ret (res_tmp rfl rfl) ?_
    have hnone : ffT st en lo up s = none := by simp [ffT, hif]
    exact ⟨by rw [hnone]; rfl, _, _, _, _, _, Bc, O, K, hfc, fun s' hs' => by rw [hnone] at hs'; cases hs'⟩
  -- no
  have hst0 := hif
  refine tr_skip ?_
  refine q_thn ?_
  refine tr_cut (fun E h' => h2 = h' ∧ enB en s = false ∧ E = [(0, .pointer (some ⟨bi, oi, none⟩)), (1, .pointer (some ⟨c, 3, none⟩)), (2, .pointer (some ⟨bst, 0, none⟩)), (3, .pointer (some ⟨bcm, 0, none⟩)), (4, .pointer (some ⟨ben, 0, none⟩)), (5, .pointer (some ⟨blo, 0, none⟩)), (6, .pointer (some ⟨bup, 0, none⟩)), (7, .pointer (some ⟨bpn, 0, none⟩))]) ?_ ?_
  ·
    refine tr_seq ?_
    refine tr_reg ?_
    refine rs_v (v_load one_p_base_InternalKey rfl (by exact BE.cell _ rfl)) rfl ?_
    refine rs_v (v_pne u_p_base_InternalKey rfl rfl) rfl ?_
    refine rs_nil ?_
    refine q_thn ?_
    refine tr_if rfl (fun hif => ?_) (fun hif => ?_)
    · -- yes
      rcases en with _ | ke
      · have hpe0 : pe = none := hpe
        subst hpe0; cases hif
      obtain ⟨bk, ok, kvk, trk, rfl, hgk, hck, hrk⟩ := hpe
      refine tr_seq ?_
      refine tr_quiet (by kernel_rfl) (by kernel_rfl) ?_
      refine rq_v (v_load one_base_Compare rfl (by exact BC.cell _ rfl)) ?_
      refine rq_v (v_move rfl) ?_
      refine rq_v (v_nilCheck_ptr rfl) ?_
      refine rq_v (v_fieldAddr fa_keyspan_Span_0 rfl) ?_
      refine rq_v (v_load one_sl_uint8 rfl (by exact hcell2.at 0 rfl)) ?_
      refine rq_v (v_load one_p_base_InternalKey rfl (by exact BE.cell _ rfl)) ?_
      refine rq_v (v_nilCheck_ptr rfl) ?_
      refine rq_v (v_fieldAddr fa_base_InternalKey_0 rfl) ?_
      refine rq_v (v_load one_sl_uint8 rfl (by exact hck.at 0 rfl)) ?_
      refine rq_w (w_callv (first := []) (cap := []) (vs := [_, _]) ok_bytes_Compare rfl ⟨rfl, rfl, trivial⟩ (c_Compare χ _ _ _ s.s ke (RBytes.by q1) (RBytes.by hrk))) ?_
      refine rq_v (v_assign rfl) ?_
      refine rm_end ?_; simp only [endM, hypF, ofE, argE]
      refine q_thn ?_
      refine tr_block ?_
      refine tr_seq ?_
      refine tr_reg ?_
      refine rs_v (v_move rfl) rfl ?_
      refine rs_v (v_gt rfl rfl) rfl ?_
      refine rs_v (v_assign rfl) rfl ?_
      refine rs_nil ?_
      refine q_thn ?_
      refine tr_if rfl (fun hif => ?_) (fun hif => ?_)
      · -- yes
        have h9 : enB (some ke) s = true := by
          simp only [enB]
          rw [slt_cmp, cmpB_anti s.s ke]
          have := of_decide_eq_true hif
          simp; omega
        refine tr_seq ?_
        refine tr_reg ?_
        refine rs_v (v_assign rfl) rfl ?_
        refine rs_nil ?_
        refine q_thn ?_
        refine tr_ret ?_
        refine q_blk_ret ?_
        refine q_cut_ret ?_
        refine q_ret (res_tmp rfl rfl) ?_
        have hnone : ffT st (some ke) lo up s = none := by simp [ffT, h9]
        exact ⟨by rw [hnone]; rfl, _, _, _, _, _, Bc, O, K, hfc, fun s' hs' => by rw [hnone] at hs'; cases hs'⟩
      -- no
      have hgt := hif
      have hne0 : ¬ cmpB s.s ke = 0 := fun e => hen (by rw [show s.s = ke from seq'_eq.1 (by rw [seq_cmp]; exact decide_eq_true e)])
      refine tr_seq ?_
      refine tr_reg ?_
      refine rs_v (v_move rfl) rfl ?_
      refine rs_v (v_eq rfl rfl) rfl ?_
      refine rs_v (v_assign rfl) rfl ?_
      refine rs_nil ?_
      refine q_thn ?_
      refine tr_if_f (lkb (decide_eq_false hne0)) ?_
      refine tr_skip ?_
      refine q_blk_n ?_
      exact q_cut [(0, _), (1, _), (2, _), (3, _), (4, _), (5, _), (6, _), (7, _)] ⟨rfl, rfl, rfl, rfl, rfl, rfl, rfl, rfl, trivial⟩ ⟨rfl, by have := of_decide_eq_false hgt; simp only [enB]; rw [slt_cmp, cmpB_anti s.s ke]; simp; omega, rfl⟩
    -- no
    rcases en with _ | ke
    rotate_left
    · obtain ⟨bk, ok, kvk, trk, rfl, hgk, hck, hrk⟩ := hpe
      cases hif
    refine tr_skip ?_
    exact q_cut [(0, _), (1, _), (2, _), (3, _), (4, _), (5, _), (6, _), (7, _)] ⟨rfl, rfl, rfl, rfl, rfl, rfl, rfl, rfl, trivial⟩ ⟨rfl, rfl, rfl⟩
  rintro E h9 ⟨hh, hen0, rfl⟩
  subst hh
  refine tr_seq ?_
  refine tr_reg ?_
  refine rs_v (v_assign rfl) rfl ?_
  refine rs_nil ?_
  refine q_thn ?_
  refine tr_cut (fun E h' => ∃ sv sn sc, E = [(0, .pointer (some ⟨bi, oi, none⟩)), (1, .pointer (some ⟨c, 3, none⟩)), (2, .pointer (some ⟨bst, 0, none⟩)), (3, .pointer (some ⟨bcm, 0, none⟩)), (4, .pointer (some ⟨ben, 0, none⟩)), (5, .pointer (some ⟨blo, 0, none⟩)), (6, .pointer (some ⟨bup, 0, none⟩)), (7, .pointer (some ⟨bpn, 0, none⟩)), (13, .bool false)] ∧ Blk h' c [x0, x1, x2, .slice sv sn sc, .slice ae1 s.e.data.toList.length ce1, .slice a9 s.ks.length c9, .int .i8 kk] 185 ∧ Keep (c :: (Value.slice a0 n0 c0).ownBlock.toList) h h' ∧ Keep [c] h2 h' ∧ RBytes (fun b => Fin b ∨ G b) h2 (.slice sv sn sc) (cutLo lo s)) ?_ ?_
  ·
    refine tr_seq ?_
    refine tr_quiet (by kernel_rfl) (by kernel_rfl) ?_
    refine rq_v (v_load one_base_Compare rfl (by exact BC.cell _ rfl)) ?_
    refine rq_v (v_move rfl) ?_
    refine rq_v (v_nilCheck_ptr rfl) ?_
    refine rq_v (v_fieldAddr fa_keyspan_Span_0 rfl) ?_
    refine rq_v (v_load one_sl_uint8 rfl (by exact hcell2.at 0 rfl)) ?_
    refine rq_v (v_load one_sl_uint8 rfl (by exact BL.cell _ rfl)) ?_
    refine rq_w (w_callv (first := []) (cap := []) (vs := [_, _]) ok_bytes_Compare rfl ⟨rfl, rfl, trivial⟩ (c_Compare χ _ _ _ s.s lo (RBytes.by q1) (RBytes.by hvl))) ?_
    refine rq_v (v_lt rfl rfl) ?_
    refine rm_end ?_; simp only [endM, hypF, ofE, argE]
    refine q_thn ?_
    refine tr_if rfl (fun hif => ?_) (fun hif => ?_)
    · -- yes
      have hlo : slt s.s lo = true := by rw [slt_cmp]; exact hif
      refine tr_reg ?_
      refine rs_v (v_move rfl) rfl ?_
      refine rs_v (v_load one_sl_uint8 rfl (by exact BL.cell _ rfl)) rfl ?_
      refine rs_v (v_nilCheck_ptr rfl) rfl ?_
      refine rs_v (v_fieldAddr fa_keyspan_Span_0 rfl) rfl ?_
      refine rs_w0 (w_put siz_sl_uint8 rfl rfl rfl rfl Bc rfl) ?_
      rintro _ h5 ⟨B5, K5⟩
      have Bc := B5; have K := K.new1 K5 (by first | (right; omega) | (left; simp; done)); have Z5 := K5.1
      refine rs_nil ?_
      exact q_cut [(0, _), (1, _), (2, _), (3, _), (4, _), (5, _), (6, _), (7, _), (13, _)] ⟨rfl, rfl, rfl, rfl, rfl, rfl, rfl, rfl, rfl, trivial⟩ ⟨_, _, _, rfl, Bc, K, K5, by rw [show cutLo lo s = lo from if_pos hlo]; exact hvl.mono (fun b hb => .inr hb)⟩
    -- no
    have hlo : ¬ slt s.s lo = true := by rw [slt_cmp, hif]; decide
    refine tr_skip ?_
    exact q_cut [(0, _), (1, _), (2, _), (3, _), (4, _), (5, _), (6, _), (7, _), (13, _)] ⟨rfl, rfl, rfl, rfl, rfl, rfl, rfl, rfl, rfl, trivial⟩ ⟨_, _, _, rfl, Bc, K, Keep.refl _ _, by rw [show cutLo lo s = s.s from if_neg hlo]; exact q1.mono (fun b hb => .inl hb)⟩
  rintro E h17 ⟨sv, sn, sc, rfl, Bc, K, K2, hs1⟩
  have Z17 := K2.1
  have BC := K2.blk (fun hm => hcG (by rw [List.mem_singleton] at hm; rw [← hm]; exact hg.2.1)) BC
  have BU := K2.blk (fun hm => hcG (by rw [List.mem_singleton] at hm; rw [← hm]; exact hg.2.2.2.2.1)) BU
  have BP := K2.blk (fun hm => hcG (by rw [List.mem_singleton] at hm; rw [← hm]; exact hg.2.2.2.2.2)) BP
  have hcell2 := K2.cells (by simpa using hbc) hcell2
  have q2b := q2.stab (K2.stab hFc)
  have hvu2 := hvu.stab (K2.stab hGc)
  refine tr_cut (fun E h' => ∃ tb ev en' ec, E = [(0, .pointer (some ⟨bi, oi, none⟩)), (1, .pointer (some ⟨c, 3, none⟩)), (2, .pointer (some ⟨bst, 0, none⟩)), (3, .pointer (some ⟨bcm, 0, none⟩)), (4, .pointer (some ⟨ben, 0, none⟩)), (5, .pointer (some ⟨blo, 0, none⟩)), (6, .pointer (some ⟨bup, 0, none⟩)), (7, .pointer (some ⟨bpn, 0, none⟩)), (13, .bool tb)] ∧ Blk h' c [x0, x1, x2, .slice sv sn sc, .slice ev en' ec, .slice a9 s.ks.length c9, .int .i8 kk] 185 ∧ Keep (c :: (Value.slice a0 n0 c0).ownBlock.toList) h h' ∧ Keep [c] h2 h' ∧ RBytes (fun b => Fin b ∨ G b) h2 (.slice ev en' ec) (cutUp up s)) ?_ ?_
  ·
    refine tr_seq ?_
    refine tr_quiet (by kernel_rfl) (by kernel_rfl) ?_
    refine rq_v (v_load one_base_Compare rfl (by exact BC.cell _ rfl)) ?_
    refine rq_v (v_move rfl) ?_
    refine rq_v (v_nilCheck_ptr rfl) ?_
    refine rq_v (v_fieldAddr fa_keyspan_Span_1 rfl) ?_
    refine rq_v (v_load one_sl_uint8 rfl (by exact hcell2.at 1 rfl)) ?_
    refine rq_v (v_load one_sl_uint8 rfl (by exact BU.cell _ rfl)) ?_
    refine rq_w (w_callv (first := []) (cap := []) (vs := [_, _]) ok_bytes_Compare rfl ⟨rfl, rfl, trivial⟩ (c_Compare χ _ _ _ s.e up (RBytes.by q2b) (RBytes.by hvu2))) ?_
    refine rq_v (v_gt rfl rfl) ?_
    refine rm_end ?_; simp only [endM, hypF, ofE, argE]
    refine q_thn ?_
    refine tr_if rfl (fun hif => ?_) (fun hif => ?_)
    · -- yes
      have hup : slt up s.e = true := by rw [slt_cmp, cmpB_anti s.e up]; exact decide_eq_true (by have := of_decide_eq_true hif; omega)
      refine tr_seq ?_
      refine tr_reg ?_
      refine rs_v (v_assign rfl) rfl ?_
      refine rs_nil ?_
      refine q_thn ?_
      refine tr_reg ?_
      refine rs_v (v_move rfl) rfl ?_
      refine rs_v (v_load one_sl_uint8 rfl (by exact BU.cell _ rfl)) rfl ?_
      refine rs_v (v_nilCheck_ptr rfl) rfl ?_
      refine rs_v (v_fieldAddr fa_keyspan_Span_1 rfl) rfl ?_
      refine rs_w0 (w_put siz_sl_uint8 rfl rfl rfl rfl Bc rfl) ?_
      rintro _ h7 ⟨B7, K7⟩
      have Bc := B7; have K := K.new1 K7 (by first | (right; omega) | (left; simp; done)); have Z7 := K7.1
      refine rs_nil ?_
      exact q_cut [(0, _), (1, _), (2, _), (3, _), (4, _), (5, _), (6, _), (7, _), (13, _)] ⟨rfl, rfl, rfl, rfl, rfl, rfl, rfl, rfl, rfl, trivial⟩ ⟨_, _, _, _, rfl, Bc, K, K2.trans K7, by rw [show cutUp up s = up from if_pos hup]; exact hvu.mono (fun b hb => .inr hb)⟩
    -- no
    have hup : ¬ slt up s.e = true := by rw [slt_cmp, cmpB_anti s.e up]; have := of_decide_eq_false hif; simp; omega
    refine tr_skip ?_
    exact q_cut [(0, _), (1, _), (2, _), (3, _), (4, _), (5, _), (6, _), (7, _), (13, _)] ⟨rfl, rfl, rfl, rfl, rfl, rfl, rfl, rfl, rfl, trivial⟩ ⟨_, _, _, _, rfl, Bc, K, K2, by rw [show cutUp up s = s.e from if_neg hup]; exact q2.mono (fun b hb => .inl hb)⟩
  rintro E h19 ⟨tb, ev, en9, ec, rfl, Bc, K, K2, hs2⟩
  have Z19 := K2.1
  have BC := hE2.bc
  have BP := hE2.bp
  have BC := K2.blk (fun hm => hcG (by rw [List.mem_singleton] at hm; rw [← hm]; exact hg.2.1)) BC
  have BP := K2.blk (fun hm => hcG (by rw [List.mem_singleton] at hm; rw [← hm]; exact hg.2.2.2.2.2)) BP
  have O := O.keep2 K2 (fun x hx hm => (hfc x hx).2 (by simpa using hm))
  have SFG := K2.stab hFGc
  have hs1 := hs1.stab SFG
  have hs2 := hs2.stab SFG
  have g1 : (!decide ((s.ks.length : Int) = 0)) = true := by have := List.length_pos_iff.2 hne; simp; omega
  refine tr_seq ?_
  refine tr_seq ?_
  refine tr_reg ?_
  refine rs_v (v_load one_bool rfl (by exact BP.cell _ rfl)) rfl ?_
  refine rs_v (v_move rfl) rfl ?_
  refine rs_gs rfl (rfl) rfl rfl ?_
  refine rs_v (v_pick_f rfl rfl) rfl ?_
  refine rs_nil ?_
  refine q_thn ?_
  refine tr_if_f rfl ?_
  refine tr_skip ?_
  refine q_thn ?_
  refine tr_seq ?_
  refine tr_quiet (by kernel_rfl) (by kernel_rfl) ?_
  refine rq_v (v_move rfl) ?_
  refine rq_w (w_call (vs := [_]) ok_keyspan_Span_Empty rfl ⟨rfl, trivial⟩ (c_Empty χ _ c 3 a9 s.ks.length c9 (Bc.cell _ rfl))) ?_
  refine rq_v (v_not rfl) ?_
  refine rq_v (v_move rfl) ?_
  refine rq_gv rfl (lkm g1) (v_load one_base_Compare rfl (by exact BC.cell _ rfl)) ?_
  refine rq_gv rfl (lkm g1) (v_move rfl) ?_
  refine rq_gv rfl (lkm g1) (v_nilCheck_ptr rfl) ?_
  refine rq_gv rfl (lkm g1) (v_fieldAddr fa_keyspan_Span_0 rfl) ?_
  refine rq_gv rfl (lkm g1) (v_load one_sl_uint8 rfl (by exact Bc.cell _ rfl)) ?_
  refine rq_gv rfl (lkm g1) (v_move rfl) ?_
  refine rq_gv rfl (lkm g1) (v_nilCheck_ptr rfl) ?_
  refine rq_gv rfl (lkm g1) (v_fieldAddr fa_keyspan_Span_1 rfl) ?_
  refine rq_gv rfl (lkm g1) (v_load one_sl_uint8 rfl (by exact Bc.cell _ rfl)) ?_
  refine rq_gw rfl (lkm g1) (w_callv (first := []) (cap := []) (vs := [_, _]) ok_bytes_Compare rfl ⟨rfl, rfl, trivial⟩ (c_Compare χ _ _ _ (cutLo lo s) (cutUp up s) (RBytes.by hs1) (RBytes.by hs2))) ?_
  refine rq_gv rfl (lkm g1) (v_lt rfl rfl) ?_
  refine rq_v (v_pick_t (lkb g1) rfl) ?_
  refine rq_v (v_assign rfl) ?_
  refine rm_end ?_; simp only [endM, hypF, ofE, argE]
  refine q_thn ?_
  refine tr_ret ?_
  refine q_ret (res_tmp rfl rfl) ?_
  have hsl := slt_cmp (cutLo lo s) (cutUp up s)
  refine ⟨?_, _, _, _, _, _, Bc, O, K, hfc, fun s' hs' => ?_⟩
  · rw [← hsl]; unfold ffT; rw [hst0, hen0]
    cases slt (cutLo lo s) (cutUp up s) <;> rfl
  · unfold ffT at hs'; rw [hst0, hen0] at hs'
    simp only [Bool.false_eq_true, if_false] at hs'
    split at hs'
    · cases hs'
      exact ⟨hs1, hs2, rfl, hnr.mono fun c a hr => cPKey_st.stab _ _ _ _ _ SFG (cPKey_st.mono _ _ _ _ _ (fun b hb => .inl hb) (cPKey_st.stab _ _ _ _ _ hSF hr))⟩
    · cases hs'
end Go.Proofs.Ytgebfbnndgjkiaa
