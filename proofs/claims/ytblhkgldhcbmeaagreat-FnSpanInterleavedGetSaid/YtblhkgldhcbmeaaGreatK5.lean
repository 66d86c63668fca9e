/- Texts W158 to W176, as far as the statement reaches them, laid together by a program of ours. Conditions: those that each theorem names. -/
import Derived.Test.YtblhkgldhcbmeaaGreatK4
set_option linter.unusedVariables false
set_option linter.unusedSimpArgs false
set_option linter.unusedSectionVars false
namespace Go.Proofs.YtblhkgldhcbmeaaGreat
open Go.Tess Go.RowKit
set_option maxRecDepth 100000
set_option maxHeartbeats 1000000
section
variable {χ : Chi} {A : Nat → Prop} {X : IC} {h h' : Heap} {kf mu mt kv : Value} {q y k : Nat} {pos dir : Int} {ws smt mcc : Bool} {key : ByteArray}
theorem rb_g4 {Z : List Nat} {v : Value} {s : ByteArray} (H : RBytes X.g4 h v s) (K : Keep Z h h') (hZ : ∀ z, z ∈ Z → z = X.ib ∨ z = X.P.lb ∨ z = X.v.c ∨ z = X.mb) : RBytes X.g4 h' v s :=
  rb_keepG H K fun z hz ⟨g1, g2, g3, g4⟩ => by
    rcases hZ z hz with e | e | e | e
    · exact g1 e
    · exact g2 e
    · exact g3 e
    · exact g4 e
theorem ge_here {W : List SpanD} (hO : Tess.Ord W) {i : Nat} {s : SpanD} (hs : W[i]? = some s) (h1 : slt key s.e = true) (h2 : sle s.s key = true) : geI W key = i := by
  refine geI_spec W key i (fun j t hj ht => ?_) (.inr ⟨s, hs, not_sle.2 h1⟩)
  exact sle_trans (hO.le j i t s hj ht hs) h2
theorem lt_here {W : List SpanD} (hO : Tess.Ord W) {i : Nat} {s : SpanD} (hs : W[i]? = some s) (h1 : slt s.s key = true) (h2 : slt key s.e = true) : ltI W key = i + 1 := by
  refine ltI_spec W key (i + 1) (fun j t hj ht => ?_) (.inr ⟨s, by rw [Nat.add_sub_cancel]; exact hs, h1⟩)
  exact not_slt.2 (sle_trans (slt_sle h2) (hO.le i j s t (by omega) hs ht))
theorem sa_v (hy : 0 < y ∧ y ≤ X.V.length) : X.sa y = X.v.sa (X.a0 + y) := by unfold IC.sa; rw [if_pos hy]
theorem ICS.ltC (S : ICS A X h) (key : ByteArray) : X.sa (ltI X.V key) = none ∨ ∃ b o, X.sa (ltI X.V key) = some ⟨b, o, none⟩ ∧ (X.tr (ltI X.V key) = false ∨ X.tr (ltI X.V key) = true ∧ ∃ s, RBytes A h (X.t0 (ltI X.V key)) s ∧ slt s key = true) := by
  have hle := ltI_le X.V key
  rcases Nat.eq_zero_or_pos (ltI X.V key) with e | e
  · exact .inl (IC.sa_no (.inl e))
  · right
    obtain ⟨x, hx⟩ : ∃ x, ltI X.V key = x + 1 := ⟨ltI X.V key - 1, by omega⟩
    obtain ⟨t, ht⟩ := ex_get (L := X.V) (k := x) (by omega)
    obtain ⟨b, o, hsa, _⟩ := S.sp ht
    have h9 := ltI_at (W := X.V) (k := key) (by omega) (show X.V[ltI X.V key - 1]? = some t by rw [hx]; exact ht)
    obtain ⟨s, _, _, _, h4, _⟩ := S.span x t ht
    rw [hx]
    refine ⟨b, o, hsa, ?_⟩
    cases e2 : X.tr (x + 1) with
    | false => exact .inl rfl
    | true => exact .inr ⟨rfl, t.s, (h4 e2).1, h9⟩
end
theorem c_ksGE {χ : Chi} {A : Nat → Prop} {X : IC} {h : Heap} {kf mu mt kv : Value} {q y : Nat} {pos dir : Int} {ws smt mcc : Bool} {key : ByteArray} (SV : SaveOK χ A X) (S : ICS A X h) (Bi : ibB X kf q y mu mt pos ws smt mcc dir h) (Lv : LevY X.v (X.a0 + y) h) (hkey : RBytes X.g4 h kv key) (hg : geI X.v.W key = X.a0 + geI X.V key) :
    Cl Tryz.prog χ 143 #[X.p, kv, .slice none 0 0] h (fun r h' => r = .tuple #[] ∧ ibB X kf q (geI X.V key + 1) mu mt pos ws false false dir h' ∧ LevY X.v (X.a0 + (geI X.V key + 1)) h' ∧ Keep [X.ib, X.v.c] h h') := by
  have hib := Bi.lt; have hcb := Lv.lt
  refine cl_intro Tryz.func143 rfl rfl rfl ?_
  have K : Keep [X.ib, X.v.c] h h := Keep.refl _ _
  refine rG <| rM rfl rfl <| rM rfl rfl <| rC rfl rfl <| rF fa_keyspan_InterleavingIter_3 rfl rfl <| rs_v (v_load one_keyspan_FragmentIterator rfl (by exact Bi.cell _ rfl)) rfl ?_
  refine rM rfl rfl <| rs_w (w_mcall (vs := [_]) (ly_SeekGE S.lev S.low S.nC Lv (hkey.mono (fun b hb => hb.2.2.1))) rfl ⟨rfl, trivial⟩) rfl ?_
  rintro _ h1 ⟨rfl, Lv, K1⟩
  have Lv : LevY X.v (X.a0 + (geI X.V key + 1)) h1 := by rw [← Nat.add_assoc, ← hg]; exact Lv
  have Bi := K1.blk (by simpa using S.dIC) Bi; have hkey := rb_g4 hkey K1 (by simp); have S := S.keep K1 (by simp); have K := K.trans (K1.sub (by simp))
  refine rs_w (w_call (vs := [_, _]) ok_keyspan_InterleavingIter_saveSpanForward rfl ⟨rfl, rfl, trivial⟩ (by rw [show X.v.sa (geI X.v.W key + 1) = X.v.sa (X.a0 + (geI X.V key + 1)) from by rw [hg, Nat.add_assoc]]; exact SV.fwd S (Nat.succ_pos _) (by have := geI_le X.V key; omega) Bi)) rfl ?_
  rintro _ h2 ⟨rfl, Bi, K2⟩
  have Lv := LevY.keep Lv K2 (by simpa using S.dIC.symm); have hkey := rb_g4 hkey K2 (by simp); have S := S.keep K2 (by simp); have K := K.trans (K2.sub (by simp))
  refine rN <| tr_reg <| rM rfl rfl <| rs_w (w_call (vs := [_]) ok_keyspan_InterleavingIter_savedKeyspan rfl ⟨rfl, trivial⟩ (c_ixSaved Bi)) rfl ?_
  rintro _ h3 ⟨rfl, Bi, K3⟩
  have Lv := LevY.keep Lv K3 (by simpa using S.dIC.symm); have hkey := rb_g4 hkey K3 (by simp); have S := S.keep K3 (by simp); have K := K.trans (K3.sub (by simp))
  refine rs_nil ?_
  refine q_end (res_none rfl) ?_
  exact ⟨rfl, Bi, Lv, K⟩
theorem c_ksLT {χ : Chi} {A : Nat → Prop} {X : IC} {h : Heap} {kf mu mt kv : Value} {q y : Nat} {pos dir : Int} {ws smt mcc : Bool} {key : ByteArray} (SV : SaveOK χ A X) (S : ICS A X h) (Bi : ibB X kf q y mu mt pos ws smt mcc dir h) (Lv : LevY X.v (X.a0 + y) h) (hkey : RBytes X.g4 h kv key) (hg : ltI X.v.W key = X.a0 + ltI X.V key) :
    Cl Tryz.prog χ 144 #[X.p, kv] h (fun r h' => r = .tuple #[] ∧ ibB X kf q (ltI X.V key) mu mt pos ws false false dir h' ∧ LevY X.v (X.a0 + (ltI X.V key)) h' ∧ Keep [X.ib, X.v.c] h h') := by
  have hib := Bi.lt; have hcb := Lv.lt
  refine cl_intro Tryz.func144 rfl rfl rfl ?_
  have K : Keep [X.ib, X.v.c] h h := Keep.refl _ _
  refine rG <| rM rfl rfl <| rM rfl rfl <| rC rfl rfl <| rF fa_keyspan_InterleavingIter_3 rfl rfl <| rs_v (v_load one_keyspan_FragmentIterator rfl (by exact Bi.cell _ rfl)) rfl ?_
  refine rM rfl rfl <| rs_w (w_mcall (vs := [_]) (ly_SeekLT S.lev S.low S.nC Lv (hkey.mono (fun b hb => hb.2.2.1))) rfl ⟨rfl, trivial⟩) rfl ?_
  rintro _ h1 ⟨rfl, Lv, K1⟩
  have Lv : LevY X.v (X.a0 + (ltI X.V key)) h1 := by rw [← hg]; exact Lv
  have Bi := K1.blk (by simpa using S.dIC) Bi; have hkey := rb_g4 hkey K1 (by simp); have S := S.keep K1 (by simp); have K := K.trans (K1.sub (by simp))
  refine rs_w (w_call (vs := [_, _]) ok_keyspan_InterleavingIter_saveSpanBackward rfl ⟨rfl, rfl, trivial⟩ (by rw [show X.v.sa (ltI X.v.W key) = X.v.sa (X.a0 + (ltI X.V key)) from by rw [hg]]; exact SV.bwd S (ltI_le _ _) Bi)) rfl ?_
  rintro _ h2 ⟨rfl, Bi, K2⟩
  have Lv := LevY.keep Lv K2 (by simpa using S.dIC.symm); have hkey := rb_g4 hkey K2 (by simp); have S := S.keep K2 (by simp); have K := K.trans (K2.sub (by simp))
  refine rN <| tr_seq ?_
  refine tr_cut (fun E h' => h2 = h' ∧ E = [(0, X.p), (36, .bool false)]) ?_ ?_
  ·
    have Bj := Bi; unfold ibB IC.C at Bj
    rcases S.ltC key with hsa | ⟨bx, ox, hsa, htr | ⟨htr, sx, hsx, hsl⟩⟩
    · rw [hsa] at Bj
      refine tr_quiet (by kernel_rfl) (by kernel_rfl) ?_
      refine rq_v (v_move rfl) <| rq_v (v_nilCheck_ptr rfl) <| rq_v (v_fieldAddr fa_keyspan_InterleavingIter_13 rfl) <| rq_v (v_load one_p_keyspan_Span rfl (by first | exact Bj.cell _ rfl | exact Bi.cell _ rfl)) ?_
      refine rq_v (v_pne u_p_keyspan_Span rfl rfl) ?_
      refine rq_v (v_move rfl) <| rm_gs same_pre rfl (rfl) rfl <| rm_gs same_pre rfl (rfl) rfl <| rm_gs same_pre rfl (rfl) rfl <| rm_gs same_pre rfl (rfl) rfl <| rq_v (v_pick_f rfl rfl) ?_
      refine rq_v (v_move rfl) <| rm_gs same_pre rfl (rfl) rfl <| rm_gs same_pre rfl (rfl) rfl <| rm_gs same_pre rfl (rfl) rfl <| rm_gs same_pre rfl (rfl) rfl <| rm_gs same_pre rfl (rfl) rfl <| rm_gs same_pre rfl (rfl) rfl <| rm_gs same_pre rfl (rfl) rfl <| rm_gs same_pre rfl (rfl) rfl <| rm_gs same_pre rfl (rfl) rfl <| rm_gs same_pre rfl (rfl) rfl <| rm_gs same_pre rfl (rfl) rfl <| rm_gs same_pre rfl (rfl) rfl <| rq_v (v_pick_f rfl rfl) ?_
      refine rm_end ?_; simp only [endM, hypF, ofE, argE]
      refine q_cut [(0, _), (36, _)] ⟨rfl, rfl, trivial⟩ ⟨rfl, ?_⟩
      first | rfl | rw [g1]
    · rw [hsa, htr] at Bj
      refine tr_quiet (by kernel_rfl) (by kernel_rfl) ?_
      refine rq_v (v_move rfl) <| rq_v (v_nilCheck_ptr rfl) <| rq_v (v_fieldAddr fa_keyspan_InterleavingIter_13 rfl) <| rq_v (v_load one_p_keyspan_Span rfl (by first | exact Bj.cell _ rfl | exact Bi.cell _ rfl)) ?_
      refine rq_v (v_pne u_p_keyspan_Span rfl rfl) ?_
      refine rq_v (v_move rfl) <| rq_gv rfl (rfl) (v_move rfl) <| rq_gv rfl (rfl) (v_nilCheck_ptr rfl) <| rq_gv rfl (rfl) (v_fieldAddr fa_keyspan_InterleavingIter_16 rfl) ?_
      refine rq_gv rfl (rfl) (v_load one_bool rfl (by first | exact Bj.cell _ rfl | exact Bi.cell _ rfl)) ?_
      refine rq_v (v_pick_t rfl rfl) ?_
      refine rq_v (v_move rfl) <| rm_gs same_pre rfl (rfl) rfl <| rm_gs same_pre rfl (rfl) rfl <| rm_gs same_pre rfl (rfl) rfl <| rm_gs same_pre rfl (rfl) rfl <| rm_gs same_pre rfl (rfl) rfl <| rm_gs same_pre rfl (rfl) rfl <| rm_gs same_pre rfl (rfl) rfl <| rm_gs same_pre rfl (rfl) rfl <| rm_gs same_pre rfl (rfl) rfl <| rm_gs same_pre rfl (rfl) rfl <| rm_gs same_pre rfl (rfl) rfl <| rm_gs same_pre rfl (rfl) rfl <| rq_v (v_pick_f rfl rfl) ?_
      refine rm_end ?_; simp only [endM, hypF, ofE, argE]
      refine q_cut [(0, _), (36, _)] ⟨rfl, rfl, trivial⟩ ⟨rfl, ?_⟩
      first | rfl | rw [g1]
    · rw [hsa, htr] at Bj
      have g1 : decide (cmpB sx key ≥ 0) = false := decide_eq_false (by have := slt_iff.1 hsl; omega)
      refine tr_quiet (by kernel_rfl) (by kernel_rfl) ?_
      refine rq_v (v_move rfl) <| rq_v (v_nilCheck_ptr rfl) <| rq_v (v_fieldAddr fa_keyspan_InterleavingIter_13 rfl) <| rq_v (v_load one_p_keyspan_Span rfl (by first | exact Bj.cell _ rfl | exact Bi.cell _ rfl)) ?_
      refine rq_v (v_pne u_p_keyspan_Span rfl rfl) ?_
      refine rq_v (v_move rfl) <| rq_gv rfl (rfl) (v_move rfl) <| rq_gv rfl (rfl) (v_nilCheck_ptr rfl) <| rq_gv rfl (rfl) (v_fieldAddr fa_keyspan_InterleavingIter_16 rfl) ?_
      refine rq_gv rfl (rfl) (v_load one_bool rfl (by first | exact Bj.cell _ rfl | exact Bi.cell _ rfl)) ?_
      refine rq_v (v_pick_t rfl rfl) ?_
      refine rq_v (v_move rfl) <| rq_gv rfl (rfl) (v_move rfl) <| rq_gv rfl (rfl) (v_nilCheck_ptr rfl) <| rq_gv rfl (rfl) (v_fieldAddr fa_keyspan_InterleavingIter_0 rfl) ?_
      refine rq_gv rfl (rfl) (v_load one_base_Compare rfl (by first | exact Bj.cell _ rfl | exact Bi.cell _ rfl)) ?_
      refine rq_gv rfl (rfl) (v_move rfl) <| rq_gv rfl (rfl) (v_nilCheck_ptr rfl) <| rq_gv rfl (rfl) (v_fieldAddr fa_keyspan_InterleavingIter_15 rfl) <| rq_gv rfl (rfl) (v_fieldAddr fa_keyspan_Span_0 rfl) ?_
      refine rq_gv rfl (rfl) (v_load one_sl_uint8 rfl (by first | exact Bj.cell _ rfl | exact Bi.cell _ rfl)) ?_
      refine rq_gv rfl (rfl) (v_move rfl) ?_
      refine rq_gw rfl (rfl) (w_callv (first := []) (cap := []) (vs := [_, _]) ok_bytes_Compare rfl ⟨rfl, rfl, trivial⟩ (c_Compare χ _ _ _ sx key (RBytes.by hsx) (RBytes.by hkey))) ?_
      refine rq_gv rfl (rfl) (v_ge rfl rfl) <| rq_v (v_pick_t rfl rfl) ?_
      refine rm_end ?_; simp only [endM, hypF, ofE, argE]
      refine q_cut [(0, _), (36, _)] ⟨rfl, rfl, trivial⟩ ⟨rfl, ?_⟩
      first | rfl | rw [g1]
  rintro E h99 ⟨hh, rfl⟩
  subst hh
  refine tr_if_f rfl ?_
  refine tr_skip <| q_thn <| tr_reg <| rM rfl rfl <| rs_w (w_call (vs := [_]) ok_keyspan_InterleavingIter_savedKeyspan rfl ⟨rfl, trivial⟩ (c_ixSaved Bi)) rfl ?_
  rintro _ h4 ⟨rfl, Bi, K4⟩
  have Lv := LevY.keep Lv K4 (by simpa using S.dIC.symm); have hkey := rb_g4 hkey K4 (by simp); have S := S.keep K4 (by simp); have K := K.trans (K4.sub (by simp))
  refine rs_nil ?_
  refine q_end (res_none rfl) ?_
  exact ⟨rfl, Bi, Lv, K⟩
theorem c_ixSeekGE {χ : Chi} {A : Nat → Prop} {X : IC} {h : Heap} {kf mu mt fl : Value} {q y : Nat} {la : Addr} {ln lc : Nat} {pos dir : Int} {ws smt mcc : Bool} {key : ByteArray} (SV : SaveOK χ A X) (M : St A X kf q y mu mt pos ws smt mcc dir h) (hkey : RBytes X.g4 h (.slice (some la) ln lc) key) (hg : geI X.v.W key = X.a0 + geI X.V key) (hln : key.data.toList.length ≤ 100000000000) (hku : ∀ t, t ∈ X.V → slt t.s key = true → key ≠ X.ub) :
    Cl Tryz.prog χ 105 #[X.p, (.slice (some la) ln lc), fl] h (YP A X kf 1 (some key) (WS X key) h) := by
  obtain ⟨S, Bi, Bl, Lv, Mk, Kf⟩ := M
  have hib := Bi.lt; have hlb := Bl.lt; have hcb := Lv.lt; have hmb := S.mbl
  have hkb := kf_lt Kf; have hlow0 := S.low
  have hpt := ptN_le key X.P.us; rw [X.P.len] at hpt
  refine cl_intro Tryz.func105 rfl rfl rfl ?_
  have K : Keep (X.ib :: X.P.lb :: X.v.c :: X.mb :: kf.ownBlock.toList) h h := Keep.refl _ _
  refine rG <| rA rfl rfl <| rs_w (w_new zero_base_LazyValue) rfl ?_
  rintro _ h1 ⟨rfl, B1, K1, Z1⟩
  have hkey := rb_g4 hkey K1 (by simp)
  have Bi := K1.blk (by simp) Bi
  have Bl := K1.blk (by simp) Bl
  have Lv := LevY.keep Lv K1 (by simp)
  have Mk := Mk.keep K1 (fun em => by simp)
  have Kf := kf_keep Kf K1 (by simp)
  have S := S.keep K1 (by simp)
  have S1 := K.1; have K := K.new0 K1
  refine rN <| rG <| rM rfl rfl <| rC rfl rfl <| rF fa_keyspan_InterleavingIter_11 rfl rfl <| rs_w0 (w_put siz_error rfl rfl rfl rfl Bi rfl) ?_
  rintro _ h2 ⟨Bi2, K2⟩
  have Bi : ibB X kf q y mu mt pos ws smt mcc dir h2 := Bi2
  have hkey := rb_g4 hkey K2 (by simp)
  have B1 := K2.blk (by first | (simp; done) | (simp; omega)) B1
  have Bl := K2.blk (by simp [S.dd]) Bl
  have Lv := LevY.keep Lv K2 (by simp [S.dd])
  have Mk := Mk.keep K2 (fun em => by simp [(S.dIM em).symm, S.dd])
  have Kf := kf_keep Kf K2 (by simp)
  have S := S.keep K2 (by simp)
  have K := K.trans (K2.sub (by simp))
  have ZsK2 := K2.1
  refine rN <| rG <| rM rfl rfl <| rs_w (w_call (vs := [_]) ok_keyspan_InterleavingIter_clearMask rfl ⟨rfl, trivial⟩ (c_ixClear S Bi Mk)) rfl ?_
  rintro _ h3 ⟨rfl, ⟨mcc1, Bi, hM⟩, K3⟩
  have Mk := hM y
  have hkey := rb_g4 hkey K3 (by simp)
  have B1 := K3.blk (by first | (simp; done) | (simp; omega)) B1
  have Bl := K3.blk (by simp [S.dd]) Bl
  have Lv := LevY.keep Lv K3 (by simp [S.dd])
  have Kf := kf_keep Kf K3 (by simp)
  have S := S.keep K3 (by simp)
  have K := K.trans (K3.sub (by simp))
  have ZsK3 := K3.1
  refine rN <| rG <| rM rfl rfl <| rs_w (w_call (vs := [_]) ok_keyspan_InterleavingIter_disablePrefixMode rfl ⟨rfl, trivial⟩ (c_iiNoPrefix Bi)) rfl ?_
  rintro _ h4 ⟨rfl, hsame⟩; have hsame := hsame.symm; subst hsame
  refine rN <| rG <| rM rfl rfl <| rM rfl rfl <| rC rfl rfl <| rF fa_keyspan_InterleavingIter_2 rfl rfl <| rs_v (v_load one_base_InternalIterator rfl (by first | exact Bi.cell _ rfl)) rfl ?_
  refine rM rfl rfl <| rM rfl rfl <| rs_w (w_mcall (vs := [_, _]) (pt_SeekGE S.pts S.low S.nL Bl (hkey.mono (fun b hb => hb.2.1))) rfl ⟨rfl, rfl, trivial⟩) rfl ?_
  rintro _ h5 ⟨rfl, Bl, K5⟩
  have hkey := rb_g4 hkey K5 (by simp)
  have B1 := K5.blk (by first | (simp; done) | (simp; omega)) B1
  have Bi := K5.blk (by simp [S.dd]) Bi
  have Lv := LevY.keep Lv K5 (by simp [S.dd])
  have Mk := Mk.keep K5 (fun em => by simp [(S.dIM em).symm, S.dd])
  have Kf := kf_keep Kf K5 (by simp)
  have S := S.keep K5 (by simp)
  have K := K.trans (K5.sub (by simp))
  have ZsK5 := K5.1
  refine rs_v (v_extract rfl rfl) rfl <| rs_v (v_extract rfl rfl) rfl <| rs_w (w_call (vs := [_, _, _]) ok_keyspan_InterleavingIter_savePoint rfl ⟨rfl, rfl, rfl, trivial⟩ (c_ixPoint S (ptN key X.P.us + 1) Bi)) rfl ?_
  rintro _ h6 ⟨rfl, Bi, K6⟩
  have hkey := rb_g4 hkey K6 (by simp)
  have B1 := K6.blk (by first | (simp; done) | (simp; omega)) B1
  have Bl := K6.blk (by simp [S.dd]) Bl
  have Lv := LevY.keep Lv K6 (by simp [S.dd])
  have Mk := Mk.keep K6 (fun em => by simp [(S.dIM em).symm, S.dd])
  have Kf := kf_keep Kf K6 (by simp)
  have S := S.keep K6 (by simp)
  have K := K.trans (K6.sub (by simp))
  have ZsK6 := K6.1
  refine rN ?_
  refine tr_cut (fun E h' => E = [(0, X.p), (1, .slice (some la) ln lc), (7, .pointer (some ⟨h.size, 0, none⟩))] ∧ ibB X kf (ptN key X.P.us + 1) (geI X.V key + 1) mu mt pos ws false false dir h' ∧ Blk h' X.P.lb (X.P.C ((ptN key X.P.us + 1))) 236 ∧ LevY X.v (X.a0 + (geI X.V key + 1)) h' ∧ MaskI X (geI X.V key + 1) false h' ∧ (∃ l, BW (X.bad A) kf l h') ∧ ICS A X h' ∧ Blk h' h.size [.slice none 0 0, .pointer none] 111 ∧ Keep (X.ib :: X.P.lb :: X.v.c :: X.mb :: kf.ownBlock.toList) h h' ∧ h.size < h'.size ∧ RBytes X.g4 h' (.slice (some la) ln lc) key) ?_ ?_
  ·
    refine tr_cut (fun E h' => ∃ B, h6 = h' ∧ E = [(0, X.p), (1, .slice (some la) ln lc), (7, .pointer (some ⟨h.size, 0, none⟩)), (62, .bool B)] ∧ (B = true → 0 < y ∧ y ≤ X.V.length ∧ y = (geI X.V key + 1))) ?_ ?_
    ·
      have Bj := Bi; unfold ibB IC.C at Bj
      have h3 : (¬ (0 < y ∧ y ≤ X.V.length)) ∨ (0 < y ∧ y ≤ X.V.length) := by omega
      have h4 : (¬ (0 < y ∧ y ≤ X.V.length)) ∨ (∃ z b2 o2 s, y = z + 1 ∧ y ≤ X.V.length ∧ X.sa (z + 1) = some ⟨b2, o2, none⟩ ∧ cellH h6 b2 o2 = some (X.v.sv (X.a0 + z)) ∧ cellH h6 b2 (o2 + 1) = some (X.v.ev (X.a0 + z)) ∧ RBytes A h6 (X.v.sv (X.a0 + z)) s.s ∧ RBytes A h6 (X.v.ev (X.a0 + z)) s.e ∧ X.v.W[X.a0 + z]? = some s ∧ decide (cmpB key s.e < 0) = false) ∨
          (∃ z b2 o2 s, y = z + 1 ∧ y ≤ X.V.length ∧ X.sa (z + 1) = some ⟨b2, o2, none⟩ ∧ cellH h6 b2 o2 = some (X.v.sv (X.a0 + z)) ∧ cellH h6 b2 (o2 + 1) = some (X.v.ev (X.a0 + z)) ∧ RBytes A h6 (X.v.sv (X.a0 + z)) s.s ∧ RBytes A h6 (X.v.ev (X.a0 + z)) s.e ∧ X.v.W[X.a0 + z]? = some s ∧ decide (cmpB key s.e < 0) = true) := by
        rcases h3 with hy | hy
        · exact .inl hy
        · right
          obtain ⟨z, rfl⟩ : ∃ z, y = z + 1 := ⟨y - 1, by omega⟩
          obtain ⟨t, ht⟩ := ex_get (L := X.V) (k := z) (by omega)
          obtain ⟨b2, o2, s, hsa, hst, hen, hs1, hs2, hsW, _⟩ := S.endC ht
          cases g1 : decide (cmpB key s.e < 0) with
          | false => exact .inl ⟨z, b2, o2, s, rfl, hy.2, hsa, hst, hen, hs1, hs2, hsW, g1⟩
          | true => exact .inr ⟨z, b2, o2, s, rfl, hy.2, hsa, hst, hen, hs1, hs2, hsW, g1⟩
      rcases h4 with hy | ⟨z, b2, o2, s, rfl, hy, hsa, hst, hen, hs1, hs2, hsW, g1⟩ | ⟨z, b2, o2, s, rfl, hy, hsa, hst, hen, hs1, hs2, hsW, g1⟩
      · have hsa : X.sa y = none := IC.sa_no (by omega)
        rw [hsa] at Bj
        refine tr_quiet (by kernel_rfl) (by kernel_rfl) ?_
        refine rq_v (v_move rfl) <| rq_v (v_nilCheck_ptr rfl) <| rq_v (v_fieldAddr fa_keyspan_InterleavingIter_13 rfl) <| rq_v (v_load one_p_keyspan_Span rfl (by exact Bj.cell _ rfl)) ?_
        refine rq_v (v_pne u_p_keyspan_Span rfl rfl) ?_
        refine rq_v (v_move rfl) <| rm_gs same_pre rfl (rfl) rfl <| rm_gs same_pre rfl (rfl) rfl <| rm_gs same_pre rfl (rfl) rfl <| rm_gs same_pre rfl (rfl) rfl <| rm_gs same_pre rfl (rfl) rfl <| rm_gs same_pre rfl (rfl) rfl <| rm_gs same_pre rfl (rfl) rfl <| rm_gs same_pre rfl (rfl) rfl <| rm_gs same_pre rfl (rfl) rfl <| rm_gs same_pre rfl (rfl) rfl <| rm_gs same_pre rfl (rfl) rfl <| rm_gs same_pre rfl (rfl) rfl <| rm_gs same_pre rfl (rfl) rfl <| rm_gs same_pre rfl (rfl) rfl <| rq_v (v_pick_f rfl rfl) ?_
        refine rq_v (v_move rfl) <| rm_gs same_pre rfl (rfl) rfl <| rm_gs same_pre rfl (rfl) rfl <| rm_gs same_pre rfl (rfl) rfl <| rm_gs same_pre rfl (rfl) rfl <| rm_gs same_pre rfl (rfl) rfl <| rm_gs same_pre rfl (rfl) rfl <| rm_gs same_pre rfl (rfl) rfl <| rm_gs same_pre rfl (rfl) rfl <| rm_gs same_pre rfl (rfl) rfl <| rm_gs same_pre rfl (rfl) rfl <| rm_gs same_pre rfl (rfl) rfl <| rm_gs same_pre rfl (rfl) rfl <| rm_gs same_pre rfl (rfl) rfl <| rm_gs same_pre rfl (rfl) rfl <| rq_v (v_pick_f rfl rfl) ?_
        refine rm_end ?_; simp only [endM, hypF, ofE, argE]
        exact q_cut [(0, _), (1, _), (7, _), (62, _)] ⟨rfl, rfl, rfl, rfl, trivial⟩ ⟨_, rfl, rfl, fun hB => by cases hB⟩
      · rw [hsa] at Bj
        refine tr_quiet (by kernel_rfl) (by kernel_rfl) ?_
        refine rq_v (v_move rfl) <| rq_v (v_nilCheck_ptr rfl) <| rq_v (v_fieldAddr fa_keyspan_InterleavingIter_13 rfl) <| rq_v (v_load one_p_keyspan_Span rfl (by exact Bj.cell _ rfl)) ?_
        refine rq_v (v_pne u_p_keyspan_Span rfl rfl) ?_
        refine rq_v (v_move rfl) <| rq_gv rfl (rfl) (v_move rfl) <| rq_gv rfl (rfl) (v_nilCheck_ptr rfl) <| rq_gv rfl (rfl) (v_fieldAddr fa_keyspan_InterleavingIter_0 rfl) ?_
        refine rq_gv rfl (rfl) (v_load one_base_Compare rfl (by exact Bj.cell _ rfl)) ?_
        refine rq_gv rfl (rfl) (v_move rfl) <| rq_gv rfl (rfl) (v_move rfl) <| rq_gv rfl (rfl) (v_nilCheck_ptr rfl) <| rq_gv rfl (rfl) (v_fieldAddr fa_keyspan_InterleavingIter_13 rfl) ?_
        refine rq_gv rfl (rfl) (v_load one_p_keyspan_Span rfl (by exact Bj.cell _ rfl)) ?_
        refine rq_gv rfl (rfl) (v_nilCheck_ptr rfl) <| rq_gv rfl (rfl) (v_fieldAddr fa_keyspan_Span_1 rfl) ?_
        refine rq_gv rfl (rfl) (v_load one_sl_uint8 rfl (by exact hen)) ?_
        refine rq_gw rfl (rfl) (w_callv (first := []) (cap := []) (vs := [_, _]) ok_bytes_Compare rfl ⟨rfl, rfl, trivial⟩ (c_Compare χ _ _ _ key _ (RBytes.by hkey) (RBytes.by hs2))) ?_
        refine rq_gv rfl (rfl) (v_lt rfl rfl) <| rq_v (v_pick_t rfl rfl) ?_
        refine rq_v (v_move rfl) <| rm_gs same_pre rfl (lkm g1) rfl <| rm_gs same_pre rfl (lkm g1) rfl <| rm_gs same_pre rfl (lkm g1) rfl <| rm_gs same_pre rfl (lkm g1) rfl <| rm_gs same_pre rfl (lkm g1) rfl <| rm_gs same_pre rfl (lkm g1) rfl <| rm_gs same_pre rfl (lkm g1) rfl <| rm_gs same_pre rfl (lkm g1) rfl <| rm_gs same_pre rfl (lkm g1) rfl <| rm_gs same_pre rfl (lkm g1) rfl <| rm_gs same_pre rfl (lkm g1) rfl <| rm_gs same_pre rfl (lkm g1) rfl <| rm_gs same_pre rfl (lkm g1) rfl <| rm_gs same_pre rfl (lkm g1) rfl <| rq_v (v_pick_f (lkb g1) rfl) ?_
        refine rm_end ?_; simp only [endM, hypF, ofE, argE]
        exact q_cut [(0, _), (1, _), (7, _), (62, _)] ⟨rfl, rfl, rfl, rfl, trivial⟩ ⟨_, rfl, rfl, fun hB => by cases hB⟩
      · rw [hsa] at Bj
        refine tr_quiet (by kernel_rfl) (by kernel_rfl) ?_
        refine rq_v (v_move rfl) <| rq_v (v_nilCheck_ptr rfl) <| rq_v (v_fieldAddr fa_keyspan_InterleavingIter_13 rfl) <| rq_v (v_load one_p_keyspan_Span rfl (by exact Bj.cell _ rfl)) ?_
        refine rq_v (v_pne u_p_keyspan_Span rfl rfl) ?_
        refine rq_v (v_move rfl) <| rq_gv rfl (rfl) (v_move rfl) <| rq_gv rfl (rfl) (v_nilCheck_ptr rfl) <| rq_gv rfl (rfl) (v_fieldAddr fa_keyspan_InterleavingIter_0 rfl) ?_
        refine rq_gv rfl (rfl) (v_load one_base_Compare rfl (by exact Bj.cell _ rfl)) ?_
        refine rq_gv rfl (rfl) (v_move rfl) <| rq_gv rfl (rfl) (v_move rfl) <| rq_gv rfl (rfl) (v_nilCheck_ptr rfl) <| rq_gv rfl (rfl) (v_fieldAddr fa_keyspan_InterleavingIter_13 rfl) ?_
        refine rq_gv rfl (rfl) (v_load one_p_keyspan_Span rfl (by exact Bj.cell _ rfl)) ?_
        refine rq_gv rfl (rfl) (v_nilCheck_ptr rfl) <| rq_gv rfl (rfl) (v_fieldAddr fa_keyspan_Span_1 rfl) ?_
        refine rq_gv rfl (rfl) (v_load one_sl_uint8 rfl (by exact hen)) ?_
        refine rq_gw rfl (rfl) (w_callv (first := []) (cap := []) (vs := [_, _]) ok_bytes_Compare rfl ⟨rfl, rfl, trivial⟩ (c_Compare χ _ _ _ key _ (RBytes.by hkey) (RBytes.by hs2))) ?_
        refine rq_gv rfl (rfl) (v_lt rfl rfl) <| rq_v (v_pick_t rfl rfl) ?_
        refine rq_v (v_move rfl) <| rq_gv rfl (lkm g1) (v_move rfl) <| rq_gv rfl (lkm g1) (v_nilCheck_ptr rfl) <| rq_gv rfl (lkm g1) (v_fieldAddr fa_keyspan_InterleavingIter_0 rfl) ?_
        refine rq_gv rfl (lkm g1) (v_load one_base_Compare rfl (by exact Bj.cell _ rfl)) ?_
        refine rq_gv rfl (lkm g1) (v_move rfl) <| rq_gv rfl (lkm g1) (v_move rfl) <| rq_gv rfl (lkm g1) (v_nilCheck_ptr rfl) <| rq_gv rfl (lkm g1) (v_fieldAddr fa_keyspan_InterleavingIter_13 rfl) ?_
        refine rq_gv rfl (lkm g1) (v_load one_p_keyspan_Span rfl (by exact Bj.cell _ rfl)) ?_
        refine rq_gv rfl (lkm g1) (v_nilCheck_ptr rfl) <| rq_gv rfl (lkm g1) (v_fieldAddr fa_keyspan_Span_0 rfl) ?_
        refine rq_gv rfl (lkm g1) (v_load one_sl_uint8 rfl (by exact hst)) ?_
        refine rq_gw rfl (lkm g1) (w_callv (first := []) (cap := []) (vs := [_, _]) ok_bytes_Compare rfl ⟨rfl, rfl, trivial⟩ (c_Compare χ _ _ _ key _ (RBytes.by hkey) (RBytes.by hs1))) ?_
        refine rq_gv rfl (lkm g1) (v_ge rfl rfl) <| rq_v (v_pick_t (lkb g1) rfl) ?_
        refine rm_end ?_; simp only [endM, hypF, ofE, argE]
        exact q_cut [(0, _), (1, _), (7, _), (62, _)] ⟨rfl, rfl, rfl, rfl, trivial⟩ ⟨_, rfl, rfl, fun hB => ⟨by omega, by omega, by
            have h8 := ge_here S.lev.ord hsW (slt_iff.2 (of_decide_eq_true g1)) (sle_iff.2 (by have h7 := of_decide_eq_true hB; have := cmpB_anti key s.s; omega))
            omega⟩⟩
    rintro E h97 ⟨B, hh, rfl, hB⟩
    subst hh
    refine tr_if rfl (fun hif => ?_) (fun hif => ?_)
    · -- yes
      have hB := hB hif
      refine rG <| rM rfl rfl <| rM rfl rfl <| rC rfl rfl <| rF fa_keyspan_InterleavingIter_13 rfl rfl <| rs_v (v_load one_p_keyspan_Span rfl (by first | exact Bi.cell _ rfl)) rfl ?_
      refine rs_w (w_call (vs := [_, _]) ok_keyspan_InterleavingIter_saveSpanForward rfl ⟨rfl, rfl, trivial⟩ (by rw [sa_v ⟨hB.1, hB.2.1⟩]; exact SV.fwd S hB.1 (by omega) Bi)) rfl ?_
      rintro _ h8 ⟨rfl, Bi, K8⟩
      have hkey := rb_g4 hkey K8 (by simp)
      have B1 := K8.blk (by first | (simp; done) | (simp; omega)) B1
      have Bl := K8.blk (by simp [S.dd]) Bl
      have Lv := LevY.keep Lv K8 (by simp [S.dd])
      have Mk := Mk.keep K8 (fun em => by simp [(S.dIM em).symm, S.dd])
      have Kf := kf_keep Kf K8 (by simp)
      have S := S.keep K8 (by simp)
      have K := K.trans (K8.sub (by simp))
      have ZsK8 := K8.1
      refine rN <| tr_reg <| rM rfl rfl <| rs_w (w_call (vs := [_]) ok_keyspan_InterleavingIter_savedKeyspan rfl ⟨rfl, trivial⟩ (c_ixSaved Bi)) rfl ?_
      rintro _ h9 ⟨rfl, Bi, K9⟩
      have hkey := rb_g4 hkey K9 (by simp)
      have B1 := K9.blk (by first | (simp; done) | (simp; omega)) B1
      have Bl := K9.blk (by simp [S.dd]) Bl
      have Lv := LevY.keep Lv K9 (by simp [S.dd])
      have Mk := Mk.keep K9 (fun em => by simp [(S.dIM em).symm, S.dd])
      have Kf := kf_keep Kf K9 (by simp)
      have S := S.keep K9 (by simp)
      have K := K.trans (K9.sub (by simp))
      have ZsK9 := K9.1
      have hyy := hB.2.2
      subst hyy
      refine rs_nil ?_
      refine q_cut [(0, _), (1, _), (7, _)] ⟨rfl, rfl, rfl, trivial⟩ ⟨rfl, Bi, Bl, Lv, Mk.free _, Kf, S, B1, K, by omega, hkey⟩
    -- no
    skip
    refine tr_reg <| rM rfl rfl <| rM rfl rfl <| rs_w (w_call (vs := [_, _, _]) ok_keyspan_InterleavingIter_keyspanSeekGE rfl ⟨rfl, rfl, rfl, trivial⟩ (c_ksGE SV S Bi Lv hkey hg)) rfl ?_
    rintro _ h10 ⟨rfl, Bi, Lv, K10⟩
    have hkey := rb_g4 hkey K10 (by simp)
    have B1 := K10.blk (by first | (simp; done) | (simp; omega)) B1
    have Bl := K10.blk (by simp [S.dd]) Bl
    have Mk := Mk.keep K10 (fun em => by simp [(S.dIM em).symm, S.dd])
    have Kf := kf_keep Kf K10 (by simp)
    have S := S.keep K10 (by simp)
    have K := K.trans (K10.sub (by simp))
    have ZsK10 := K10.1
    refine rs_nil ?_
    refine q_cut [(0, _), (1, _), (7, _)] ⟨rfl, rfl, rfl, trivial⟩ ⟨rfl, Bi, Bl, Lv, Mk.free _, Kf, S, B1, K, by omega, hkey⟩
  rintro E h98 ⟨rfl, Bi, Bl, Lv, Mk, Kf, S, B1, K, hsz, hkey⟩
  refine rG <| rM rfl rfl <| rC rfl rfl <| rF fa_keyspan_InterleavingIter_21 rfl rfl <| rs_w0 (w_put siz_int8 rfl rfl rfl rfl Bi rfl) ?_
  rintro _ h12 ⟨Bi2, K12⟩
  have Bi : ibB X kf (ptN key X.P.us + 1) (geI X.V key + 1) mu mt pos ws false false 1 h12 := Bi2
  have hkey := rb_g4 hkey K12 (by simp)
  have B1 := K12.blk (by first | (simp; done) | (simp; omega)) B1
  have Bl := K12.blk (by simp [S.dd]) Bl
  have Lv := LevY.keep Lv K12 (by simp [S.dd])
  have Mk := Mk.keep K12 (fun em => by simp [(S.dIM em).symm, S.dd])
  have Kf := kf_keep Kf K12 (by simp)
  have S := S.keep K12 (by simp)
  have K := K.trans (K12.sub (by simp))
  have ZsK12 := K12.1
  refine rN <| rG <| rM rfl rfl <| rs_w (w_call (vs := [_]) ok_keyspan_InterleavingIter_computeSmallestPos rfl ⟨rfl, trivial⟩ (c_ixSmall S (p := ptN key X.P.us) (x := geI X.V key) hpt (geI_le _ _) Bi)) rfl ?_
  rintro _ h13 ⟨rfl, Bi, K13⟩
  have hkey := rb_g4 hkey K13 (by simp)
  have B1 := K13.blk (by first | (simp; done) | (simp; omega)) B1
  have Bl := K13.blk (by simp [S.dd]) Bl
  have Lv := LevY.keep Lv K13 (by simp [S.dd])
  have Mk := Mk.keep K13 (fun em => by simp [(S.dIM em).symm, S.dd])
  have Kf := kf_keep Kf K13 (by simp)
  have S := S.keep K13 (by simp)
  have K := K.trans (K13.sub (by simp))
  have ZsK13 := K13.1
  have hHL : LBOK A X (.slice (some la) ln lc) (some key) h13 := .inr ⟨key, la, ln, lc, rfl, rfl, hkey, hln, X.ub, S.upr, hku⟩
  have hW : ∃ m0, WS X key m0 (ptN key X.P.us + 1) (geI X.V key + 1) (smallP X.P.us X.V (ptN key X.P.us) (geI X.V key)).1 (smallP X.P.us X.V (ptN key X.P.us) (geI X.V key)).2 false := by
    cases hi : insM X.V key with
    | true =>
      obtain ⟨e1, hM, _⟩ := ge_ins (us := X.P.us) S.rise S.ord hi
      rw [e1]; unfold WS; rw [if_pos hi]; exact ⟨0, hM⟩
    | false => unfold WS; rw [if_neg (by rw [hi]; decide)]; exact WF.mk0 (geM_le _ _ _) (.inr (ge_out (us := X.P.us) S.rise S.ord hi))
  obtain ⟨m0, hW0⟩ := hW
  refine rN <| rG <| rM rfl rfl <| rM rfl rfl <| rM rfl rfl <| rs_v (v_makeFunc1 rfl) rfl ?_
  refine rs_w (w_call (vs := [_, _, _]) ok_keyspan_InterleavingIter_yieldPosition rfl ⟨rfl, rfl, rfl, trivial⟩ (c_ypG ⟨S, Bi, Bl, Lv, Mk, Kf⟩ (WS.yw X key) (WS.adv SV key 1) hW0 hHL)) rfl ?_
  rintro rr h14 HY
  obtain ⟨ra, vv, rfl, hv1⟩ := HY.form
  have B1 := HY.2.blk (fun hm => by
    simp at hm
    rcases hm with e | e | e | e | e
    · omega
    · omega
    · omega
    · omega
    · have := hkb _ (by simpa using e); omega) B1
  refine rs_v (v_extract rfl rfl) rfl <| rs_v (v_extract rfl rfl) rfl <| rA rfl rfl <| rs_w0 (w_put siz_base_LazyValue rfl rfl rfl (one2 hv1) B1 rfl) ?_
  rintro _ h15 ⟨B1, K15⟩
  have HY := HY.fin K hlow0 hib hlb hcb hmb hkb (by omega) K15
  refine rN <| tr_ret <| q_ret (res_tc (vs := [_, _]) rfl rfl rfl many_base_LazyValue (by exact B1.sub 0 2 rfl)) ?_
  exact HY
theorem c_ixSeekLT {χ : Chi} {A : Nat → Prop} {X : IC} {h : Heap} {kf mu mt fl : Value} {q y : Nat} {la : Addr} {ln lc : Nat} {pos dir : Int} {ws smt mcc : Bool} {key : ByteArray} (SV : SaveOK χ A X) (M : St A X kf q y mu mt pos ws smt mcc dir h) (hkey : RBytes X.g4 h (.slice (some la) ln lc) key) (hg : ltI X.v.W key = X.a0 + ltI X.V key) :
    Cl Tryz.prog χ 106 #[X.p, (.slice (some la) ln lc), fl] h (YQ A X kf (-1) (WB X (geM X.P.us X.V key)) h) := by
  obtain ⟨S, Bi, Bl, Lv, Mk, Kf⟩ := M
  have hib := Bi.lt; have hlb := Bl.lt; have hcb := Lv.lt; have hmb := S.mbl
  have hkb := kf_lt Kf; have hlow0 := S.low
  have hpt := ptN_le key X.P.us; rw [X.P.len] at hpt
  refine cl_intro Tryz.func106 rfl rfl rfl ?_
  have K : Keep (X.ib :: X.P.lb :: X.v.c :: X.mb :: kf.ownBlock.toList) h h := Keep.refl _ _
  refine rG <| rA rfl rfl <| rs_w (w_new zero_base_LazyValue) rfl ?_
  rintro _ h1 ⟨rfl, B1, K1, Z1⟩
  have hkey := rb_g4 hkey K1 (by simp)
  have Bi := K1.blk (by simp) Bi
  have Bl := K1.blk (by simp) Bl
  have Lv := LevY.keep Lv K1 (by simp)
  have Mk := Mk.keep K1 (fun em => by simp)
  have Kf := kf_keep Kf K1 (by simp)
  have S := S.keep K1 (by simp)
  have S1 := K.1; have K := K.new0 K1
  refine rN <| rG <| rM rfl rfl <| rC rfl rfl <| rF fa_keyspan_InterleavingIter_11 rfl rfl <| rs_w0 (w_put siz_error rfl rfl rfl rfl Bi rfl) ?_
  rintro _ h2 ⟨Bi2, K2⟩
  have Bi : ibB X kf q y mu mt pos ws smt mcc dir h2 := Bi2
  have hkey := rb_g4 hkey K2 (by simp)
  have B1 := K2.blk (by first | (simp; done) | (simp; omega)) B1
  have Bl := K2.blk (by simp [S.dd]) Bl
  have Lv := LevY.keep Lv K2 (by simp [S.dd])
  have Mk := Mk.keep K2 (fun em => by simp [(S.dIM em).symm, S.dd])
  have Kf := kf_keep Kf K2 (by simp)
  have S := S.keep K2 (by simp)
  have K := K.trans (K2.sub (by simp))
  have ZsK2 := K2.1
  refine rN <| rG <| rM rfl rfl <| rs_w (w_call (vs := [_]) ok_keyspan_InterleavingIter_clearMask rfl ⟨rfl, trivial⟩ (c_ixClear S Bi Mk)) rfl ?_
  rintro _ h3 ⟨rfl, ⟨mcc1, Bi, hM⟩, K3⟩
  have Mk := hM y
  have hkey := rb_g4 hkey K3 (by simp)
  have B1 := K3.blk (by first | (simp; done) | (simp; omega)) B1
  have Bl := K3.blk (by simp [S.dd]) Bl
  have Lv := LevY.keep Lv K3 (by simp [S.dd])
  have Kf := kf_keep Kf K3 (by simp)
  have S := S.keep K3 (by simp)
  have K := K.trans (K3.sub (by simp))
  have ZsK3 := K3.1
  refine rN <| rG <| rM rfl rfl <| rs_w (w_call (vs := [_]) ok_keyspan_InterleavingIter_disablePrefixMode rfl ⟨rfl, trivial⟩ (c_iiNoPrefix Bi)) rfl ?_
  rintro _ h4 ⟨rfl, hsame⟩; have hsame := hsame.symm; subst hsame
  refine rN <| rG <| rM rfl rfl <| rM rfl rfl <| rC rfl rfl <| rF fa_keyspan_InterleavingIter_2 rfl rfl <| rs_v (v_load one_base_InternalIterator rfl (by first | exact Bi.cell _ rfl)) rfl ?_
  refine rM rfl rfl <| rM rfl rfl <| rs_w (w_mcall (vs := [_, _]) (pt_SeekLT S.pts S.low S.nL Bl (hkey.mono (fun b hb => hb.2.1))) rfl ⟨rfl, rfl, trivial⟩) rfl ?_
  rintro _ h5 ⟨rfl, Bl, K5⟩
  have hkey := rb_g4 hkey K5 (by simp)
  have B1 := K5.blk (by first | (simp; done) | (simp; omega)) B1
  have Bi := K5.blk (by simp [S.dd]) Bi
  have Lv := LevY.keep Lv K5 (by simp [S.dd])
  have Mk := Mk.keep K5 (fun em => by simp [(S.dIM em).symm, S.dd])
  have Kf := kf_keep Kf K5 (by simp)
  have S := S.keep K5 (by simp)
  have K := K.trans (K5.sub (by simp))
  have ZsK5 := K5.1
  refine rs_v (v_extract rfl rfl) rfl <| rs_v (v_extract rfl rfl) rfl <| rs_w (w_call (vs := [_, _, _]) ok_keyspan_InterleavingIter_savePoint rfl ⟨rfl, rfl, rfl, trivial⟩ (c_ixPoint S (ptN key X.P.us) Bi)) rfl ?_
  rintro _ h6 ⟨rfl, Bi, K6⟩
  have hkey := rb_g4 hkey K6 (by simp)
  have B1 := K6.blk (by first | (simp; done) | (simp; omega)) B1
  have Bl := K6.blk (by simp [S.dd]) Bl
  have Lv := LevY.keep Lv K6 (by simp [S.dd])
  have Mk := Mk.keep K6 (fun em => by simp [(S.dIM em).symm, S.dd])
  have Kf := kf_keep Kf K6 (by simp)
  have S := S.keep K6 (by simp)
  have K := K.trans (K6.sub (by simp))
  have ZsK6 := K6.1
  refine rN ?_
  refine tr_cut (fun E h' => E = [(0, X.p), (1, .slice (some la) ln lc), (7, .pointer (some ⟨h.size, 0, none⟩))] ∧ ibB X kf (ptN key X.P.us) (ltI X.V key) mu mt pos ws false false dir h' ∧ Blk h' X.P.lb (X.P.C ((ptN key X.P.us))) 236 ∧ LevY X.v (X.a0 + (ltI X.V key)) h' ∧ MaskI X (ltI X.V key) false h' ∧ (∃ l, BW (X.bad A) kf l h') ∧ ICS A X h' ∧ Blk h' h.size [.slice none 0 0, .pointer none] 111 ∧ Keep (X.ib :: X.P.lb :: X.v.c :: X.mb :: kf.ownBlock.toList) h h' ∧ h.size < h'.size ∧ RBytes X.g4 h' (.slice (some la) ln lc) key) ?_ ?_
  ·
    refine tr_cut (fun E h' => ∃ B, h6 = h' ∧ E = [(0, X.p), (1, .slice (some la) ln lc), (7, .pointer (some ⟨h.size, 0, none⟩)), (62, .bool B)] ∧ (B = true → 0 < y ∧ y ≤ X.V.length ∧ y = (ltI X.V key))) ?_ ?_
    ·
      have Bj := Bi; unfold ibB IC.C at Bj
      have h3 : (¬ (0 < y ∧ y ≤ X.V.length)) ∨ (0 < y ∧ y ≤ X.V.length) := by omega
      have h4 : (¬ (0 < y ∧ y ≤ X.V.length)) ∨ (∃ z b2 o2 s, y = z + 1 ∧ y ≤ X.V.length ∧ X.sa (z + 1) = some ⟨b2, o2, none⟩ ∧ cellH h6 b2 o2 = some (X.v.sv (X.a0 + z)) ∧ cellH h6 b2 (o2 + 1) = some (X.v.ev (X.a0 + z)) ∧ RBytes A h6 (X.v.sv (X.a0 + z)) s.s ∧ RBytes A h6 (X.v.ev (X.a0 + z)) s.e ∧ X.v.W[X.a0 + z]? = some s ∧ decide (cmpB key s.s > 0) = false) ∨
          (∃ z b2 o2 s, y = z + 1 ∧ y ≤ X.V.length ∧ X.sa (z + 1) = some ⟨b2, o2, none⟩ ∧ cellH h6 b2 o2 = some (X.v.sv (X.a0 + z)) ∧ cellH h6 b2 (o2 + 1) = some (X.v.ev (X.a0 + z)) ∧ RBytes A h6 (X.v.sv (X.a0 + z)) s.s ∧ RBytes A h6 (X.v.ev (X.a0 + z)) s.e ∧ X.v.W[X.a0 + z]? = some s ∧ decide (cmpB key s.s > 0) = true) := by
        rcases h3 with hy | hy
        · exact .inl hy
        · right
          obtain ⟨z, rfl⟩ : ∃ z, y = z + 1 := ⟨y - 1, by omega⟩
          obtain ⟨t, ht⟩ := ex_get (L := X.V) (k := z) (by omega)
          obtain ⟨b2, o2, s, hsa, hst, hen, hs1, hs2, hsW, _⟩ := S.endC ht
          cases g1 : decide (cmpB key s.s > 0) with
          | false => exact .inl ⟨z, b2, o2, s, rfl, hy.2, hsa, hst, hen, hs1, hs2, hsW, g1⟩
          | true => exact .inr ⟨z, b2, o2, s, rfl, hy.2, hsa, hst, hen, hs1, hs2, hsW, g1⟩
      rcases h4 with hy | ⟨z, b2, o2, s, rfl, hy, hsa, hst, hen, hs1, hs2, hsW, g1⟩ | ⟨z, b2, o2, s, rfl, hy, hsa, hst, hen, hs1, hs2, hsW, g1⟩
      · have hsa : X.sa y = none := IC.sa_no (by omega)
        rw [hsa] at Bj
        refine tr_quiet (by kernel_rfl) (by kernel_rfl) ?_
        refine rq_v (v_move rfl) <| rq_v (v_nilCheck_ptr rfl) <| rq_v (v_fieldAddr fa_keyspan_InterleavingIter_13 rfl) <| rq_v (v_load one_p_keyspan_Span rfl (by exact Bj.cell _ rfl)) ?_
        refine rq_v (v_pne u_p_keyspan_Span rfl rfl) ?_
        refine rq_v (v_move rfl) <| rm_gs same_pre rfl (rfl) rfl <| rm_gs same_pre rfl (rfl) rfl <| rm_gs same_pre rfl (rfl) rfl <| rm_gs same_pre rfl (rfl) rfl <| rm_gs same_pre rfl (rfl) rfl <| rm_gs same_pre rfl (rfl) rfl <| rm_gs same_pre rfl (rfl) rfl <| rm_gs same_pre rfl (rfl) rfl <| rm_gs same_pre rfl (rfl) rfl <| rm_gs same_pre rfl (rfl) rfl <| rm_gs same_pre rfl (rfl) rfl <| rm_gs same_pre rfl (rfl) rfl <| rm_gs same_pre rfl (rfl) rfl <| rm_gs same_pre rfl (rfl) rfl <| rq_v (v_pick_f rfl rfl) ?_
        refine rq_v (v_move rfl) <| rm_gs same_pre rfl (rfl) rfl <| rm_gs same_pre rfl (rfl) rfl <| rm_gs same_pre rfl (rfl) rfl <| rm_gs same_pre rfl (rfl) rfl <| rm_gs same_pre rfl (rfl) rfl <| rm_gs same_pre rfl (rfl) rfl <| rm_gs same_pre rfl (rfl) rfl <| rm_gs same_pre rfl (rfl) rfl <| rm_gs same_pre rfl (rfl) rfl <| rm_gs same_pre rfl (rfl) rfl <| rm_gs same_pre rfl (rfl) rfl <| rm_gs same_pre rfl (rfl) rfl <| rm_gs same_pre rfl (rfl) rfl <| rm_gs same_pre rfl (rfl) rfl <| rq_v (v_pick_f rfl rfl) ?_
        refine rm_end ?_; simp only [endM, hypF, ofE, argE]
        exact q_cut [(0, _), (1, _), (7, _), (62, _)] ⟨rfl, rfl, rfl, rfl, trivial⟩ ⟨_, rfl, rfl, fun hB => by cases hB⟩
      · rw [hsa] at Bj
        refine tr_quiet (by kernel_rfl) (by kernel_rfl) ?_
        refine rq_v (v_move rfl) <| rq_v (v_nilCheck_ptr rfl) <| rq_v (v_fieldAddr fa_keyspan_InterleavingIter_13 rfl) <| rq_v (v_load one_p_keyspan_Span rfl (by exact Bj.cell _ rfl)) ?_
        refine rq_v (v_pne u_p_keyspan_Span rfl rfl) ?_
        refine rq_v (v_move rfl) <| rq_gv rfl (rfl) (v_move rfl) <| rq_gv rfl (rfl) (v_nilCheck_ptr rfl) <| rq_gv rfl (rfl) (v_fieldAddr fa_keyspan_InterleavingIter_0 rfl) ?_
        refine rq_gv rfl (rfl) (v_load one_base_Compare rfl (by exact Bj.cell _ rfl)) ?_
        refine rq_gv rfl (rfl) (v_move rfl) <| rq_gv rfl (rfl) (v_move rfl) <| rq_gv rfl (rfl) (v_nilCheck_ptr rfl) <| rq_gv rfl (rfl) (v_fieldAddr fa_keyspan_InterleavingIter_13 rfl) ?_
        refine rq_gv rfl (rfl) (v_load one_p_keyspan_Span rfl (by exact Bj.cell _ rfl)) ?_
        refine rq_gv rfl (rfl) (v_nilCheck_ptr rfl) <| rq_gv rfl (rfl) (v_fieldAddr fa_keyspan_Span_0 rfl) ?_
        refine rq_gv rfl (rfl) (v_load one_sl_uint8 rfl (by exact hst)) ?_
        refine rq_gw rfl (rfl) (w_callv (first := []) (cap := []) (vs := [_, _]) ok_bytes_Compare rfl ⟨rfl, rfl, trivial⟩ (c_Compare χ _ _ _ key _ (RBytes.by hkey) (RBytes.by hs1))) ?_
        refine rq_gv rfl (rfl) (v_gt rfl rfl) <| rq_v (v_pick_t rfl rfl) ?_
        refine rq_v (v_move rfl) <| rm_gs same_pre rfl (lkm g1) rfl <| rm_gs same_pre rfl (lkm g1) rfl <| rm_gs same_pre rfl (lkm g1) rfl <| rm_gs same_pre rfl (lkm g1) rfl <| rm_gs same_pre rfl (lkm g1) rfl <| rm_gs same_pre rfl (lkm g1) rfl <| rm_gs same_pre rfl (lkm g1) rfl <| rm_gs same_pre rfl (lkm g1) rfl <| rm_gs same_pre rfl (lkm g1) rfl <| rm_gs same_pre rfl (lkm g1) rfl <| rm_gs same_pre rfl (lkm g1) rfl <| rm_gs same_pre rfl (lkm g1) rfl <| rm_gs same_pre rfl (lkm g1) rfl <| rm_gs same_pre rfl (lkm g1) rfl <| rq_v (v_pick_f (lkb g1) rfl) ?_
        refine rm_end ?_; simp only [endM, hypF, ofE, argE]
        exact q_cut [(0, _), (1, _), (7, _), (62, _)] ⟨rfl, rfl, rfl, rfl, trivial⟩ ⟨_, rfl, rfl, fun hB => by cases hB⟩
      · rw [hsa] at Bj
        refine tr_quiet (by kernel_rfl) (by kernel_rfl) ?_
        refine rq_v (v_move rfl) <| rq_v (v_nilCheck_ptr rfl) <| rq_v (v_fieldAddr fa_keyspan_InterleavingIter_13 rfl) <| rq_v (v_load one_p_keyspan_Span rfl (by exact Bj.cell _ rfl)) ?_
        refine rq_v (v_pne u_p_keyspan_Span rfl rfl) ?_
        refine rq_v (v_move rfl) <| rq_gv rfl (rfl) (v_move rfl) <| rq_gv rfl (rfl) (v_nilCheck_ptr rfl) <| rq_gv rfl (rfl) (v_fieldAddr fa_keyspan_InterleavingIter_0 rfl) ?_
        refine rq_gv rfl (rfl) (v_load one_base_Compare rfl (by exact Bj.cell _ rfl)) ?_
        refine rq_gv rfl (rfl) (v_move rfl) <| rq_gv rfl (rfl) (v_move rfl) <| rq_gv rfl (rfl) (v_nilCheck_ptr rfl) <| rq_gv rfl (rfl) (v_fieldAddr fa_keyspan_InterleavingIter_13 rfl) ?_
        refine rq_gv rfl (rfl) (v_load one_p_keyspan_Span rfl (by exact Bj.cell _ rfl)) ?_
        refine rq_gv rfl (rfl) (v_nilCheck_ptr rfl) <| rq_gv rfl (rfl) (v_fieldAddr fa_keyspan_Span_0 rfl) ?_
        refine rq_gv rfl (rfl) (v_load one_sl_uint8 rfl (by exact hst)) ?_
        refine rq_gw rfl (rfl) (w_callv (first := []) (cap := []) (vs := [_, _]) ok_bytes_Compare rfl ⟨rfl, rfl, trivial⟩ (c_Compare χ _ _ _ key _ (RBytes.by hkey) (RBytes.by hs1))) ?_
        refine rq_gv rfl (rfl) (v_gt rfl rfl) <| rq_v (v_pick_t rfl rfl) ?_
        refine rq_v (v_move rfl) <| rq_gv rfl (lkm g1) (v_move rfl) <| rq_gv rfl (lkm g1) (v_nilCheck_ptr rfl) <| rq_gv rfl (lkm g1) (v_fieldAddr fa_keyspan_InterleavingIter_0 rfl) ?_
        refine rq_gv rfl (lkm g1) (v_load one_base_Compare rfl (by exact Bj.cell _ rfl)) ?_
        refine rq_gv rfl (lkm g1) (v_move rfl) <| rq_gv rfl (lkm g1) (v_move rfl) <| rq_gv rfl (lkm g1) (v_nilCheck_ptr rfl) <| rq_gv rfl (lkm g1) (v_fieldAddr fa_keyspan_InterleavingIter_13 rfl) ?_
        refine rq_gv rfl (lkm g1) (v_load one_p_keyspan_Span rfl (by exact Bj.cell _ rfl)) ?_
        refine rq_gv rfl (lkm g1) (v_nilCheck_ptr rfl) <| rq_gv rfl (lkm g1) (v_fieldAddr fa_keyspan_Span_1 rfl) ?_
        refine rq_gv rfl (lkm g1) (v_load one_sl_uint8 rfl (by exact hen)) ?_
        refine rq_gw rfl (lkm g1) (w_callv (first := []) (cap := []) (vs := [_, _]) ok_bytes_Compare rfl ⟨rfl, rfl, trivial⟩ (c_Compare χ _ _ _ key _ (RBytes.by hkey) (RBytes.by hs2))) ?_
        refine rq_gv rfl (lkm g1) (v_lt rfl rfl) <| rq_v (v_pick_t (lkb g1) rfl) ?_
        refine rm_end ?_; simp only [endM, hypF, ofE, argE]
        exact q_cut [(0, _), (1, _), (7, _), (62, _)] ⟨rfl, rfl, rfl, rfl, trivial⟩ ⟨_, rfl, rfl, fun hB => ⟨by omega, by omega, by
            have h8 := lt_here S.lev.ord hsW (slt_iff.2 (by have h7 := of_decide_eq_true g1; have := cmpB_anti key s.s; omega)) (slt_iff.2 (of_decide_eq_true hB))
            omega⟩⟩
    rintro E h97 ⟨B, hh, rfl, hB⟩
    subst hh
    refine tr_if rfl (fun hif => ?_) (fun hif => ?_)
    · -- yes
      have hB := hB hif
      refine rG <| rM rfl rfl <| rM rfl rfl <| rC rfl rfl <| rF fa_keyspan_InterleavingIter_13 rfl rfl <| rs_v (v_load one_p_keyspan_Span rfl (by first | exact Bi.cell _ rfl)) rfl ?_
      refine rs_w (w_call (vs := [_, _]) ok_keyspan_InterleavingIter_saveSpanBackward rfl ⟨rfl, rfl, trivial⟩ (by rw [sa_v ⟨hB.1, hB.2.1⟩]; exact SV.bwd S hB.2.1 Bi)) rfl ?_
      rintro _ h8 ⟨rfl, Bi, K8⟩
      have hkey := rb_g4 hkey K8 (by simp)
      have B1 := K8.blk (by first | (simp; done) | (simp; omega)) B1
      have Bl := K8.blk (by simp [S.dd]) Bl
      have Lv := LevY.keep Lv K8 (by simp [S.dd])
      have Mk := Mk.keep K8 (fun em => by simp [(S.dIM em).symm, S.dd])
      have Kf := kf_keep Kf K8 (by simp)
      have S := S.keep K8 (by simp)
      have K := K.trans (K8.sub (by simp))
      have ZsK8 := K8.1
      have hyy := hB.2.2
      subst hyy
      refine rN <| tr_seq ?_
      refine tr_cut (fun E h' => h8 = h' ∧ E = [(0, X.p), (1, .slice (some la) ln lc), (7, .pointer (some ⟨h.size, 0, none⟩)), (93, .bool false)]) ?_ ?_
      ·
        have Bj := Bi; unfold ibB IC.C at Bj
        rcases S.ltC key with hsa | ⟨bx, ox, hsa, htr | ⟨htr, sx, hsx, hsl⟩⟩
        · rw [hsa] at Bj
          refine tr_quiet (by kernel_rfl) (by kernel_rfl) ?_
          refine rq_v (v_move rfl) <| rq_v (v_nilCheck_ptr rfl) <| rq_v (v_fieldAddr fa_keyspan_InterleavingIter_13 rfl) <| rq_v (v_load one_p_keyspan_Span rfl (by first | exact Bj.cell _ rfl | exact Bi.cell _ rfl)) ?_
          refine rq_v (v_pne u_p_keyspan_Span rfl rfl) ?_
          refine rq_v (v_move rfl) <| rm_gs same_pre rfl (rfl) rfl <| rm_gs same_pre rfl (rfl) rfl <| rm_gs same_pre rfl (rfl) rfl <| rm_gs same_pre rfl (rfl) rfl <| rq_v (v_pick_f rfl rfl) ?_
          refine rq_v (v_move rfl) <| rm_gs same_pre rfl (rfl) rfl <| rm_gs same_pre rfl (rfl) rfl <| rm_gs same_pre rfl (rfl) rfl <| rm_gs same_pre rfl (rfl) rfl <| rm_gs same_pre rfl (rfl) rfl <| rm_gs same_pre rfl (rfl) rfl <| rm_gs same_pre rfl (rfl) rfl <| rm_gs same_pre rfl (rfl) rfl <| rm_gs same_pre rfl (rfl) rfl <| rm_gs same_pre rfl (rfl) rfl <| rm_gs same_pre rfl (rfl) rfl <| rm_gs same_pre rfl (rfl) rfl <| rq_v (v_pick_f rfl rfl) ?_
          refine rm_end ?_; simp only [endM, hypF, ofE, argE]
          refine q_cut [(0, _), (1, _), (7, _), (93, _)] ⟨rfl, rfl, rfl, rfl, trivial⟩ ⟨rfl, ?_⟩
          first | rfl | rw [g1]
        · rw [hsa, htr] at Bj
          refine tr_quiet (by kernel_rfl) (by kernel_rfl) ?_
          refine rq_v (v_move rfl) <| rq_v (v_nilCheck_ptr rfl) <| rq_v (v_fieldAddr fa_keyspan_InterleavingIter_13 rfl) <| rq_v (v_load one_p_keyspan_Span rfl (by first | exact Bj.cell _ rfl | exact Bi.cell _ rfl)) ?_
          refine rq_v (v_pne u_p_keyspan_Span rfl rfl) ?_
          refine rq_v (v_move rfl) <| rq_gv rfl (rfl) (v_move rfl) <| rq_gv rfl (rfl) (v_nilCheck_ptr rfl) <| rq_gv rfl (rfl) (v_fieldAddr fa_keyspan_InterleavingIter_16 rfl) ?_
          refine rq_gv rfl (rfl) (v_load one_bool rfl (by first | exact Bj.cell _ rfl | exact Bi.cell _ rfl)) ?_
          refine rq_v (v_pick_t rfl rfl) ?_
          refine rq_v (v_move rfl) <| rm_gs same_pre rfl (rfl) rfl <| rm_gs same_pre rfl (rfl) rfl <| rm_gs same_pre rfl (rfl) rfl <| rm_gs same_pre rfl (rfl) rfl <| rm_gs same_pre rfl (rfl) rfl <| rm_gs same_pre rfl (rfl) rfl <| rm_gs same_pre rfl (rfl) rfl <| rm_gs same_pre rfl (rfl) rfl <| rm_gs same_pre rfl (rfl) rfl <| rm_gs same_pre rfl (rfl) rfl <| rm_gs same_pre rfl (rfl) rfl <| rm_gs same_pre rfl (rfl) rfl <| rq_v (v_pick_f rfl rfl) ?_
          refine rm_end ?_; simp only [endM, hypF, ofE, argE]
          refine q_cut [(0, _), (1, _), (7, _), (93, _)] ⟨rfl, rfl, rfl, rfl, trivial⟩ ⟨rfl, ?_⟩
          first | rfl | rw [g1]
        · rw [hsa, htr] at Bj
          have g1 : decide (cmpB sx key ≥ 0) = false := decide_eq_false (by have := slt_iff.1 hsl; omega)
          refine tr_quiet (by kernel_rfl) (by kernel_rfl) ?_
          refine rq_v (v_move rfl) <| rq_v (v_nilCheck_ptr rfl) <| rq_v (v_fieldAddr fa_keyspan_InterleavingIter_13 rfl) <| rq_v (v_load one_p_keyspan_Span rfl (by first | exact Bj.cell _ rfl | exact Bi.cell _ rfl)) ?_
          refine rq_v (v_pne u_p_keyspan_Span rfl rfl) ?_
          refine rq_v (v_move rfl) <| rq_gv rfl (rfl) (v_move rfl) <| rq_gv rfl (rfl) (v_nilCheck_ptr rfl) <| rq_gv rfl (rfl) (v_fieldAddr fa_keyspan_InterleavingIter_16 rfl) ?_
          refine rq_gv rfl (rfl) (v_load one_bool rfl (by first | exact Bj.cell _ rfl | exact Bi.cell _ rfl)) ?_
          refine rq_v (v_pick_t rfl rfl) ?_
          refine rq_v (v_move rfl) <| rq_gv rfl (rfl) (v_move rfl) <| rq_gv rfl (rfl) (v_nilCheck_ptr rfl) <| rq_gv rfl (rfl) (v_fieldAddr fa_keyspan_InterleavingIter_0 rfl) ?_
          refine rq_gv rfl (rfl) (v_load one_base_Compare rfl (by first | exact Bj.cell _ rfl | exact Bi.cell _ rfl)) ?_
          refine rq_gv rfl (rfl) (v_move rfl) <| rq_gv rfl (rfl) (v_nilCheck_ptr rfl) <| rq_gv rfl (rfl) (v_fieldAddr fa_keyspan_InterleavingIter_15 rfl) <| rq_gv rfl (rfl) (v_fieldAddr fa_keyspan_Span_0 rfl) ?_
          refine rq_gv rfl (rfl) (v_load one_sl_uint8 rfl (by first | exact Bj.cell _ rfl | exact Bi.cell _ rfl)) ?_
          refine rq_gv rfl (rfl) (v_move rfl) ?_
          refine rq_gw rfl (rfl) (w_callv (first := []) (cap := []) (vs := [_, _]) ok_bytes_Compare rfl ⟨rfl, rfl, trivial⟩ (c_Compare χ _ _ _ sx key (RBytes.by hsx) (RBytes.by hkey))) ?_
          refine rq_gv rfl (rfl) (v_ge rfl rfl) <| rq_v (v_pick_t rfl rfl) ?_
          refine rm_end ?_; simp only [endM, hypF, ofE, argE]
          refine q_cut [(0, _), (1, _), (7, _), (93, _)] ⟨rfl, rfl, rfl, rfl, trivial⟩ ⟨rfl, ?_⟩
          first | rfl | rw [g1]
      rintro E h99 ⟨hh, rfl⟩
      subst hh
      refine tr_if_f rfl ?_
      refine tr_skip <| q_thn <| tr_reg <| rM rfl rfl <| rs_w (w_call (vs := [_]) ok_keyspan_InterleavingIter_savedKeyspan rfl ⟨rfl, trivial⟩ (c_ixSaved Bi)) rfl ?_
      rintro _ h10 ⟨rfl, Bi, K10⟩
      have hkey := rb_g4 hkey K10 (by simp)
      have B1 := K10.blk (by first | (simp; done) | (simp; omega)) B1
      have Bl := K10.blk (by simp [S.dd]) Bl
      have Lv := LevY.keep Lv K10 (by simp [S.dd])
      have Mk := Mk.keep K10 (fun em => by simp [(S.dIM em).symm, S.dd])
      have Kf := kf_keep Kf K10 (by simp)
      have S := S.keep K10 (by simp)
      have K := K.trans (K10.sub (by simp))
      have ZsK10 := K10.1
      refine rs_nil ?_
      refine q_cut [(0, _), (1, _), (7, _)] ⟨rfl, rfl, rfl, trivial⟩ ⟨rfl, Bi, Bl, Lv, Mk.free _, Kf, S, B1, K, by omega, hkey⟩
    -- no
    skip
    refine tr_reg <| rM rfl rfl <| rM rfl rfl <| rs_w (w_call (vs := [_, _]) ok_keyspan_InterleavingIter_keyspanSeekLT rfl ⟨rfl, rfl, trivial⟩ (c_ksLT SV S Bi Lv hkey hg)) rfl ?_
    rintro _ h11 ⟨rfl, Bi, Lv, K11⟩
    have hkey := rb_g4 hkey K11 (by simp)
    have B1 := K11.blk (by first | (simp; done) | (simp; omega)) B1
    have Bl := K11.blk (by simp [S.dd]) Bl
    have Mk := Mk.keep K11 (fun em => by simp [(S.dIM em).symm, S.dd])
    have Kf := kf_keep Kf K11 (by simp)
    have S := S.keep K11 (by simp)
    have K := K.trans (K11.sub (by simp))
    have ZsK11 := K11.1
    refine rs_nil ?_
    refine q_cut [(0, _), (1, _), (7, _)] ⟨rfl, rfl, rfl, trivial⟩ ⟨rfl, Bi, Bl, Lv, Mk.free _, Kf, S, B1, K, by omega, hkey⟩
  rintro E h98 ⟨rfl, Bi, Bl, Lv, Mk, Kf, S, B1, K, hsz, hkey⟩
  refine rG <| rM rfl rfl <| rC rfl rfl <| rF fa_keyspan_InterleavingIter_21 rfl rfl <| rs_w0 (w_put siz_int8 rfl rfl rfl rfl Bi rfl) ?_
  rintro _ h13 ⟨Bi2, K13⟩
  have Bi : ibB X kf (ptN key X.P.us) (ltI X.V key) mu mt pos ws false false (-1) h13 := Bi2
  have hkey := rb_g4 hkey K13 (by simp)
  have B1 := K13.blk (by first | (simp; done) | (simp; omega)) B1
  have Bl := K13.blk (by simp [S.dd]) Bl
  have Lv := LevY.keep Lv K13 (by simp [S.dd])
  have Mk := Mk.keep K13 (fun em => by simp [(S.dIM em).symm, S.dd])
  have Kf := kf_keep Kf K13 (by simp)
  have S := S.keep K13 (by simp)
  have K := K.trans (K13.sub (by simp))
  have ZsK13 := K13.1
  refine rN <| rG <| rM rfl rfl <| rs_w (w_call (vs := [_]) ok_keyspan_InterleavingIter_computeLargestPos rfl ⟨rfl, trivial⟩ (c_ixLarge S (p := ptN key X.P.us) (x := ltI X.V key) hpt (ltI_le _ _) Bi)) rfl ?_
  rintro _ h14 ⟨rfl, Bi, K14⟩
  have hkey := rb_g4 hkey K14 (by simp)
  have B1 := K14.blk (by first | (simp; done) | (simp; omega)) B1
  have Bl := K14.blk (by simp [S.dd]) Bl
  have Lv := LevY.keep Lv K14 (by simp [S.dd])
  have Mk := Mk.keep K14 (fun em => by simp [(S.dIM em).symm, S.dd])
  have Kf := kf_keep Kf K14 (by simp)
  have S := S.keep K14 (by simp)
  have K := K.trans (K14.sub (by simp))
  have ZsK14 := K14.1
  obtain ⟨lk, HL, hlk⟩ := S.lb
  have hR := larg_B (us := X.P.us) (V := X.V) S.rise S.ord (k := geM X.P.us X.V key) (geM_le _ _ _)
  rw [mst_geM S.rise S.ord] at hR
  obtain ⟨m0, hW0⟩ := WB.mk0 (X := X) (geM_le _ _ _) hR
  refine rN <| rG <| rM rfl rfl <| rM rfl rfl <| rC rfl rfl <| rF fa_keyspan_InterleavingIter_5 rfl rfl <| rs_v (v_load one_sl_uint8 rfl (by first | exact Bi.cell _ rfl)) rfl ?_
  refine rM rfl rfl <| rs_v (v_makeFunc1 rfl) rfl ?_
  refine rs_w (w_call (vs := [_, _, _]) ok_keyspan_InterleavingIter_yieldPosition rfl ⟨rfl, rfl, rfl, trivial⟩ (c_ypG ⟨S, Bi, Bl, Lv, Mk, Kf⟩ (WB.yw X _) (WB.adv SV _ (-1)) hW0 HL)) rfl ?_
  rintro rr h15 HY
  obtain ⟨ra, vv, rfl, hv1⟩ := HY.form
  have B1 := HY.2.blk (fun hm => by
    simp at hm
    rcases hm with e | e | e | e | e
    · omega
    · omega
    · omega
    · omega
    · have := hkb _ (by simpa using e); omega) B1
  refine rs_v (v_extract rfl rfl) rfl <| rs_v (v_extract rfl rfl) rfl <| rA rfl rfl <| rs_w0 (w_put siz_base_LazyValue rfl rfl rfl (one2 hv1) B1 rfl) ?_
  rintro _ h16 ⟨B1, K16⟩
  have HY := HY.fin K hlow0 hib hlb hcb hmb hkb (by omega) K16
  refine rN <| tr_ret <| q_ret (res_tc (vs := [_, _]) rfl rfl rfl many_base_LazyValue (by exact B1.sub 0 2 rfl)) ?_
  exact ⟨lk, hlk, HY⟩
set_option maxHeartbeats 1000000
def nxF (mk : Nat → Bool) (N : Nat) : Nat → Nat → Nat
  | 0, k => k
  | f + 1, k => if decide (k < N) && mk k then nxF mk N f (k + 1) else k
def nF (mk : Nat → Bool) (N k : Nat) : Nat := nxF mk N (N - k) k
def nB (mk : Nat → Bool) : Nat → Nat
  | 0 => 0
  | k + 1 => if mk k then nB mk k else k + 1
theorem nxF_eq (mk : Nat → Bool) (N k : Nat) (hk : k ≤ N) (he : k = N ∨ mk k = false) : ∀ f k0, k0 ≤ k → k - k0 ≤ f → (∀ j, k0 ≤ j → j < k → mk j = true) → nxF mk N f k0 = k
  | 0, k0, h0, h1, _ => by unfold nxF; omega
  | f + 1, k0, h0, h1, hm => by
    unfold nxF
    rcases Nat.lt_or_ge k0 k with e | e
    · rw [decide_eq_true (by omega), hm k0 (Nat.le_refl _) e]
      exact nxF_eq mk N k hk he f (k0 + 1) (by omega) (by omega) (fun j h2 h3 => hm j (by omega) h3)
    · obtain rfl : k0 = k := by omega
      rcases he with e2 | e2
      · rw [decide_eq_false (by omega)]; rfl
      · rw [e2, Bool.and_false]; rfl
theorem nF_eq {mk : Nat → Bool} {N k k0 : Nat} (h0 : k0 ≤ k) (hk : k ≤ N) (hm : ∀ j, k0 ≤ j → j < k → mk j = true) (he : k = N ∨ mk k = false) : nF mk N k0 = k := nxF_eq mk N k hk he (N - k0) k0 h0 (by omega) hm
theorem nB_eq {mk : Nat → Bool} {k : Nat} (he : k = 0 ∨ mk (k - 1) = false) : ∀ {k0}, k ≤ k0 → (∀ j, k ≤ j → j < k0 → mk j = true) → nB mk k0 = k
  | 0, h0, _ => by unfold nB; omega
  | k0 + 1, h0, hm => by
    unfold nB
    rcases Nat.lt_or_ge k0 k with e | e
    · obtain rfl : k = k0 + 1 := by omega
      rcases he with e2 | e2
      · omega
      · rw [Nat.add_sub_cancel] at e2; rw [e2]; rfl
    · rw [hm k0 e (by omega)]; exact nB_eq he e (fun j h2 h3 => hm j h2 (by omega))
def ptF (N k : Nat) : PP := if k < N then .pt k else .behind
def ptB (k : Nat) : PP := if k = 0 then .ahead else .pt (k - 1)
def kFirst (mk : Nat → Bool) (N : Nat) : PP := if nF mk N 0 < N then .pt (nF mk N 0) else .nowhere
def kLast (mk : Nat → Bool) (N : Nat) : PP := if nB mk N = 0 then .nowhere else .pt (nB mk N - 1)
def kNext (mk : Nat → Bool) (N : Nat) : PP → Option PP
  | .pt k => some (ptF N (nF mk N (k + 1)))
  | .ins k _ => some (ptF N (nF mk N k))
  | .ahead => some (ptF N (nF mk N 0))
  | _ => none
def kPrev (mk : Nat → Bool) (N : Nat) : PP → Option PP
  | .pt k => some (ptB (nB mk k))
  | .ins k _ => some (ptB (nB mk k))
  | .behind => some (ptB (nB mk N))
  | _ => none
def kGE (mk : Nat → Bool) (us : List ByteArray) (V : List SpanD) (key : ByteArray) : PP := if insM V key then .ins (geM us V key) key else ptF (nM us V) (nF mk (nM us V) (geM us V key))
def kLT (mk : Nat → Bool) (us : List ByteArray) (V : List SpanD) (key : ByteArray) : PP := ptB (nB mk (geM us V key))
def stepK (us : List ByteArray) (V : List SpanD) (mk : Nat → Bool) (p : PP) (s : StepD) : Option PP :=
  if s.op = 0 then some (kFirst mk (nM us V))
  else if s.op = 1 then some (kLast mk (nM us V))
  else if s.op = 2 then kNext mk (nM us V) p
  else if s.op = 3 then kPrev mk (nM us V) p
  else if s.op = 4 then some (kGE mk us V s.key)
  else if s.op = 5 then some (kLT mk us V s.key)
  else none
def walkK (es : List EntD) (V : List SpanD) (mk : Nat → Bool) : PP → List StepD → List PAnsD
  | _, [] => []
  | p, s :: r => ansM es V (stepK (es.map EntD.user) V mk p s) :: walkK es V mk ((stepK (es.map EntD.user) V mk p s).getD p) r
def endK (us : List ByteArray) (V : List SpanD) (mk : Nat → Bool) : PP → List StepD → PP
  | p, [] => p
  | p, s :: r => endK us V mk ((stepK us V mk p s).getD p) r
theorem walkK_snoc (es : List EntD) (V : List SpanD) (mk : Nat → Bool) (s : StepD) : ∀ (l : List StepD) (p : PP), walkK es V mk p (l ++ [s]) = walkK es V mk p l ++ [ansM es V (stepK (es.map EntD.user) V mk (endK (es.map EntD.user) V mk p l) s)]
  | [], p => rfl
  | x :: l, p => by simp only [List.cons_append, walkK, endK, walkK_snoc es V mk s l]
theorem endK_snoc (us : List ByteArray) (V : List SpanD) (mk : Nat → Bool) (s : StepD) : ∀ (l : List StepD) (p : PP), endK us V mk p (l ++ [s]) = (stepK us V mk (endK us V mk p l) s).getD (endK us V mk p l)
  | [], p => rfl
  | x :: l, p => by simp only [List.cons_append, endK, endK_snoc us V mk s l]
theorem walkK_len (es : List EntD) (V : List SpanD) (mk : Nat → Bool) : ∀ (l : List StepD) (p : PP), (walkK es V mk p l).length = l.length
  | [], p => rfl
  | x :: l, p => by simp only [walkK, List.length_cons, walkK_len es V mk l]
def IC.mk' (X : IC) (j : Nat) : Bool := !stAt X.P.us X.V j && isM X.msk && inSp X.P.us X.V (mst X.P.us X.V j).1 (mst X.P.us X.V j).2 && X.mof (mst X.P.us X.V j).2
def Rest (X : IC) (q y : Nat) (pos : Int) (ws smt : Bool) (dir : Int) : PP → Prop
  | .pt k => k < X.N ∧ X.mk' k = false ∧ ((dir = 1 ∧ FAt X.P.us X.V k q y pos ws smt) ∨ (dir = -1 ∧ smt = false ∧ BAt X.P.us X.V k q y pos ws))
  | .ins k key => insM X.V key = true ∧ k = geM X.P.us X.V key ∧ dir = 1 ∧ MAt X.P.us X.V k q y pos ws smt
  | .behind => dir = 1 ∧ FAt X.P.us X.V X.N q y pos ws smt
  | .ahead => dir = -1 ∧ smt = false ∧ AAt q y pos ws
  | .nowhere => ws = false
def covP (X : IC) : PP → Option SpanD
  | .pt k => covS X.V (markE X.P.es X.V k).user
  | .ins _ key => covS X.V key
  | _ => none
section
variable {X : IC} {q y k k0 : Nat} {pos dir : Int} {ws smt : Bool}
theorem mskd_mk (hX : X.msk = .nilIface ∨ X.msk = X.mv) (j : Nat) : mskd X j ↔ X.mk' j = true := by
  unfold mskd mskP IC.mk'
  rcases hX with e | e
  · rw [e]
    constructor
    · rintro ⟨_, h, _⟩; cases h
    · intro h; simp [isM] at h
  · rw [e]
    simp only [isM, Bool.and_eq_true, Bool.not_eq_true', and_true, true_and]
    constructor
    · rintro ⟨a, b, c⟩; exact ⟨⟨a, b⟩, c⟩
    · rintro ⟨⟨a, b⟩, c⟩; exact ⟨a, b, c⟩
theorem markE_st (h : stAt X.P.us X.V k = true) : (markE X.P.es X.V k).user = atS X.V (mst X.P.us X.V k).2 := by
  unfold markE; rw [show stAt (X.P.es.map EntD.user) X.V k = true from h]; rfl
theorem markE_pt (hk : k < X.N) (h : stAt X.P.us X.V k = false) : ∃ e, X.P.es[(mst X.P.us X.V k).1]? = some e ∧ markE X.P.es X.V k = e ∧ e.user = atB X.P.us (mst X.P.us X.V k).1 := by
  have hp := pt_lt (us := X.P.us) (W := X.V) hk h
  rw [X.P.len] at hp
  obtain ⟨e, he⟩ := ex_get (L := X.P.es) hp
  refine ⟨e, he, ?_, (Pts.at he).symm⟩
  unfold markE; rw [show stAt (X.P.es.map EntD.user) X.V k = false from h]
  show (X.P.es[(mst X.P.us X.V k).1]?).getD zeroEnt = e
  rw [he]; rfl
theorem geM_mst2 (hR : Rise X.P.us) (hO : Tess.Ord X.V) {key : ByteArray} (h : insM X.V key = true) : (mst X.P.us X.V (geM X.P.us X.V key)).2 = geI X.V key + 1 := (ge_ins (us := X.P.us) hR hO h).2.2.1
theorem rest_span (hR : Rise X.P.us) (hO : Tess.Ord X.V) {p : PP} (H : Rest X q y pos ws smt dir p) : (ws = false ∧ covP X p = none) ∨ (ws = true ∧ 0 < y ∧ y ≤ X.V.length ∧ ∃ t, X.V[y - 1]? = some t ∧ covP X p = some t) := by
  cases p with
  | pt k =>
    obtain ⟨hk, _, H⟩ := H
    have hl := mst_le (us := X.P.us) (W := X.V) k (Nat.le_of_lt hk)
    have key : (stAt X.P.us X.V k = true ∧ ws = true ∧ y = (mst X.P.us X.V k).2 + 1) ∨ (stAt X.P.us X.V k = false ∧ ((inSp X.P.us X.V (mst X.P.us X.V k).1 (mst X.P.us X.V k).2 = true ∧ ws = true ∧ y = (mst X.P.us X.V k).2) ∨ (inSp X.P.us X.V (mst X.P.us X.V k).1 (mst X.P.us X.V k).2 = false ∧ ws = false))) := by
      rcases H with ⟨_, _, hq, H⟩ | ⟨_, _, _, H⟩
      · rcases H with ⟨h1, h2, _, h3, _⟩ | ⟨_, h1, h2, h3, _, h4⟩ | ⟨_, h1, h2, _, _, h4, _⟩ | ⟨e, _⟩
        · exact .inl ⟨h1, h3, h2⟩
        · exact .inr ⟨h1, .inl ⟨h2, h4, h3⟩⟩
        · exact .inr ⟨h1, .inr ⟨h2, h4⟩⟩
        · have : X.N = X.P.us.length + X.V.length := rfl
          omega
      · rcases H with ⟨h1, _, h2, _, h3⟩ | ⟨h1, _, h2, _, h3⟩
        · exact .inl ⟨h1, h3, h2⟩
        · refine .inr ⟨h1, ?_⟩
          cases e : inSp X.P.us X.V (mst X.P.us X.V k).1 (mst X.P.us X.V k).2 with
          | true => exact .inl ⟨rfl, by rw [h3, e], h2⟩
          | false => exact .inr ⟨rfl, by rw [h3, e]⟩
    rcases key with ⟨h1, h2, h3⟩ | ⟨h1, ⟨h2, h3, h4⟩ | ⟨h2, h3⟩⟩
    · right
      have hlt := stAt_lt h1
      obtain ⟨t, ht⟩ := ex_get (L := X.V) hlt
      refine ⟨h2, by omega, by omega, t, by rw [h3, Nat.add_sub_cancel]; exact ht, ?_⟩
      unfold covP; simp only []; rw [markE_st h1]; exact cov_start hO ht
    · right
      have hx := inSp_pos h2
      obtain ⟨t, ht⟩ := ex_get (L := X.V) (k := (mst X.P.us X.V k).2 - 1) (by omega)
      obtain ⟨e, _, e2, e3⟩ := markE_pt hk h1
      refine ⟨h3, by omega, by omega, t, by rw [h4]; exact ht, ?_⟩
      unfold covP; simp only []; rw [e2, e3]; exact cov_in hR hO hk h1 h2 ht
    · left
      obtain ⟨e, _, e2, e3⟩ := markE_pt hk h1
      refine ⟨h3, ?_⟩
      unfold covP; simp only []; rw [e2, e3]; exact cov_out hR hO hk h1 h2
  | ins k key =>
    obtain ⟨hi, rfl, _, _, _, hy, h0, _, hw, _⟩ := H
    have h2 := geM_mst2 hR hO hi
    have hlt : geI X.V key < X.V.length := by unfold insM at hi; rw [Bool.and_eq_true, decide_eq_true_eq] at hi; exact hi.1
    obtain ⟨t, ht⟩ := ex_get (L := X.V) hlt
    right
    exact ⟨hw, by omega, by omega, t, by rw [hy, h2, Nat.add_sub_cancel]; exact ht, cov_ins hO hi ht⟩
  | behind =>
    obtain ⟨_, _, _, H⟩ := H
    left
    rcases H with ⟨h1, _⟩ | ⟨h1, _⟩ | ⟨h1, _⟩ | ⟨_, _, _, hw, _⟩
    · have := st_lt (Nat.le_refl _) h1; exact absurd this (Nat.lt_irrefl _)
    · exact absurd h1 (Nat.lt_irrefl _)
    · exact absurd h1 (Nat.lt_irrefl _)
    · exact ⟨hw, rfl⟩
  | ahead => exact .inl ⟨H.2.2.2.2.2, rfl⟩
  | nowhere => exact .inl ⟨H, rfl⟩
end
theorem c_iiSpan_n {χ : Chi} {h : Heap} {ib lb kb : Nat} {cp mk lo up kf pv mu mt t0 t1 t2 t3 : Value} {pk sp : Option Addr} {tr smt mcc : Bool} {pos dir : Int} (Bi : Blk h ib (iiR cp lb kb mk lo up kf pk pv sp mu mt t0 t1 t2 t3 tr pos false smt mcc dir) 124)  :
    Cl Tryz.prog χ 110 #[.pointer (some ⟨ib, 0, none⟩)] h (fun r h' => r = .pointer none ∧ h' = h) := by
  refine cl_intro Tryz.func110 rfl rfl rfl ?_
  have K : Keep [] h h := Keep.refl _ _
  refine rG <| rA rfl rfl <| rN <| tr_seq <| rG <| rM rfl rfl <| rC rfl rfl <| rF fa_keyspan_InterleavingIter_18 rfl rfl <| rs_v (v_load one_bool rfl (by exact Bi.cell _ rfl)) rfl ?_
  refine rs_v (v_not rfl) rfl <| rM rfl rfl <| rs_gs rfl (rfl) rfl rfl <| rs_gs rfl (rfl) rfl rfl <| rs_gs rfl (rfl) rfl rfl <| rs_gs rfl (rfl) rfl rfl <| rs_gs rfl (rfl) rfl rfl <| rs_gs rfl (rfl) rfl rfl <| rs_gs rfl (rfl) rfl rfl <| rs_gs rfl (rfl) rfl rfl <| rs_gs rfl (rfl) rfl rfl <| rs_v (v_pick_t rfl rfl) rfl ?_
  refine rN <| tr_if_t rfl ?_
  refine rG <| rA rfl rfl <| rN <| tr_ret <| q_thn_ret <| q_ret (res_tmp rfl rfl) ?_
  exact ⟨rfl, rfl⟩
theorem c_iiSpan_s {χ : Chi} {h : Heap} {ib lb kb b o : Nat} {cp mk lo up kf pv mu mt t0 t1 t2 t3 : Value} {pk : Option Addr} {smt mcc : Bool} {pos dir : Int} {a : Option Addr} {n c : Nat} (Bi : Blk h ib (iiR cp lb kb mk lo up kf pk pv (some ⟨b, o, none⟩) mu mt t0 t1 t2 t3 false pos true smt mcc dir) 124) (hk : cellH h b (o + 2) = some (.slice a n c)) (hn : 0 < n) :
    Cl Tryz.prog χ 110 #[.pointer (some ⟨ib, 0, none⟩)] h (fun r h' => r = .pointer (some ⟨b, o, none⟩) ∧ h' = h) := by
  refine cl_intro Tryz.func110 rfl rfl rfl ?_
  have K : Keep [] h h := Keep.refl _ _
  refine rG <| rA rfl rfl <| rN <| tr_seq <| rG <| rM rfl rfl <| rC rfl rfl <| rF fa_keyspan_InterleavingIter_18 rfl rfl <| rs_v (v_load one_bool rfl (by exact Bi.cell _ rfl)) rfl ?_
  refine rs_v (v_not rfl) rfl <| rM rfl rfl <| rs_gv rfl (rfl) (v_move rfl) rfl ?_
  refine rs_gv rfl (rfl) (v_nilCheck_ptr rfl) rfl ?_
  refine rs_gv rfl (rfl) (v_fieldAddr fa_keyspan_InterleavingIter_13 rfl) rfl ?_
  refine rs_gv rfl (rfl) (v_load one_p_keyspan_Span rfl (by exact Bi.cell _ rfl)) rfl ?_
  refine rs_gv rfl (rfl) (v_nilCheck_ptr rfl) rfl ?_
  refine rs_gv rfl (rfl) (v_fieldAddr fa_keyspan_Span_2 rfl) rfl ?_
  refine rs_gv rfl (rfl) (v_load one_sl_keyspan_Key rfl (by exact hk)) rfl ?_
  refine rs_gv rfl (rfl) (v_len u_sl_keyspan_Key rfl) rfl ?_
  refine rs_gv rfl (rfl) (v_eq rfl rfl) rfl ?_
  refine rs_v (v_pick_f rfl rfl) rfl ?_
  refine rN <| tr_if_f (lkb (decide_eq_false (by omega))) ?_
  refine rG <| rM rfl rfl <| rC rfl rfl <| rF fa_keyspan_InterleavingIter_16 rfl rfl <| rs_v (v_load one_bool rfl (by exact Bi.cell _ rfl)) rfl ?_
  refine rN <| tr_if_f rfl ?_
  refine tr_skip <| q_thn <| rG <| rM rfl rfl <| rC rfl rfl <| rF fa_keyspan_InterleavingIter_13 rfl rfl <| rs_v (v_load one_p_keyspan_Span rfl (by exact Bi.cell _ rfl)) rfl ?_
  refine rA rfl rfl <| rN <| tr_ret <| q_ret (res_tmp rfl rfl) ?_
  exact ⟨rfl, rfl⟩
theorem c_iiSpan_t {χ : Chi} {h : Heap} {ib lb kb b o : Nat} {cp mk lo up kf pv mu mt t0 t1 t2 t3 : Value} {pk : Option Addr} {smt mcc : Bool} {pos dir : Int} {a : Option Addr} {n c : Nat} (Bi : Blk h ib (iiR cp lb kb mk lo up kf pk pv (some ⟨b, o, none⟩) mu mt t0 t1 t2 t3 true pos true smt mcc dir) 124) (hk : cellH h b (o + 2) = some (.slice a n c)) (hn : 0 < n) :
    Cl Tryz.prog χ 110 #[.pointer (some ⟨ib, 0, none⟩)] h (fun r h' => r = .pointer (some ⟨ib, 17, none⟩) ∧ h' = h) := by
  refine cl_intro Tryz.func110 rfl rfl rfl ?_
  have K : Keep [] h h := Keep.refl _ _
  refine rG <| rA rfl rfl <| rN <| tr_seq <| rG <| rM rfl rfl <| rC rfl rfl <| rF fa_keyspan_InterleavingIter_18 rfl rfl <| rs_v (v_load one_bool rfl (by exact Bi.cell _ rfl)) rfl ?_
  refine rs_v (v_not rfl) rfl <| rM rfl rfl <| rs_gv rfl (rfl) (v_move rfl) rfl ?_
  refine rs_gv rfl (rfl) (v_nilCheck_ptr rfl) rfl ?_
  refine rs_gv rfl (rfl) (v_fieldAddr fa_keyspan_InterleavingIter_13 rfl) rfl ?_
  refine rs_gv rfl (rfl) (v_load one_p_keyspan_Span rfl (by exact Bi.cell _ rfl)) rfl ?_
  refine rs_gv rfl (rfl) (v_nilCheck_ptr rfl) rfl ?_
  refine rs_gv rfl (rfl) (v_fieldAddr fa_keyspan_Span_2 rfl) rfl ?_
  refine rs_gv rfl (rfl) (v_load one_sl_keyspan_Key rfl (by exact hk)) rfl ?_
  refine rs_gv rfl (rfl) (v_len u_sl_keyspan_Key rfl) rfl ?_
  refine rs_gv rfl (rfl) (v_eq rfl rfl) rfl ?_
  refine rs_v (v_pick_f rfl rfl) rfl ?_
  refine rN <| tr_if_f (lkb (decide_eq_false (by omega))) ?_
  refine rG <| rM rfl rfl <| rC rfl rfl <| rF fa_keyspan_InterleavingIter_16 rfl rfl <| rs_v (v_load one_bool rfl (by exact Bi.cell _ rfl)) rfl ?_
  refine rN <| tr_if_t rfl ?_
  refine rG <| rM rfl rfl <| rC rfl rfl <| rF fa_keyspan_InterleavingIter_15 rfl rfl <| rA rfl rfl <| rN <| tr_ret <| q_thn_ret <| q_ret (res_tmp rfl rfl) ?_
  exact ⟨rfl, rfl⟩

section
variable {χ : Chi} {A : Nat → Prop} {X : IC} {h : Heap} {kf mu mt : Value} {q y : Nat} {pos dir : Int} {ws smt mcc : Bool} {p : PP}
def SpRet (A : Nat → Prop) (X : IC) (h : Heap) (p : PP) (r : Value) : Prop :=
  match covP X p with
  | none => r = .pointer none
  | some t => ∃ b o sv ev kv, r = .pointer (some ⟨b, o, none⟩) ∧ (A b ∨ b = X.ib) ∧ CellsAt h b o [sv, ev, kv, .int .i8 0] ∧ RBytes A h sv t.s ∧ RBytes A h ev t.e ∧ PKeys A h kv t.ks
theorem c_ixSpan (M : St A X kf q y mu mt pos ws smt mcc dir h) (H : Rest X q y pos ws smt dir p) :
    Cl Tryz.prog χ 110 #[X.p] h (fun r h' => SpRet A X h p r ∧ h' = h) := by
  obtain ⟨S, Bi, _, _, _, _⟩ := M
  rcases rest_span S.rise S.ord H with ⟨rfl, hc⟩ | ⟨rfl, hy0, hy1, t, ht, hc⟩
  · refine (c_iiSpan_n Bi).mono ?_
    rintro r h' ⟨rfl, rfl⟩
    refine ⟨?_, rfl⟩
    unfold SpRet; rw [hc]
  · obtain ⟨z, rfl⟩ : ∃ z, y = z + 1 := ⟨y - 1, by omega⟩
    rw [Nat.add_sub_cancel] at ht
    obtain ⟨b, o, s, hsa, hst, hen, hs1, hs2, hsW, _, hkc, hks⟩ := S.endC ht
    obtain ⟨b2, o2, hsa2, hA2, hcs⟩ := S.sp ht
    rw [hsa] at hsa2; cases hsa2
    obtain ⟨_, _, _, _, _, _, _, hpk⟩ := S.lev.cells _ s hsW
    obtain ⟨s', hs', _, h3, h4, _⟩ := S.span z t ht
    rw [hsW] at hs'; cases hs'
    obtain ⟨a, c, hkv⟩ := SlR.form2 hpk
    have hn : 0 < s.ks.length := by rw [← hks]; exact List.length_pos_iff.2 (S.vk t (List.mem_of_getElem? ht)).1
    have hkc' := hkc
    rw [hkv] at hkc'
    unfold ibB IC.C at Bi
    rw [hsa] at Bi
    cases e : X.tr (z + 1) with
    | false =>
      rw [e] at Bi
      obtain ⟨e1, e2⟩ := h3 e
      refine (c_iiSpan_s Bi hkc' hn).mono ?_
      rintro r h' ⟨rfl, rfl⟩
      refine ⟨?_, rfl⟩
      unfold SpRet; rw [hc]
      exact ⟨b, o, _, _, _, rfl, .inl hA2, hcs, by rw [e1]; exact hs1, by rw [e2]; exact hs2, by rw [hks]; exact hpk⟩
    | true =>
      rw [e] at Bi
      obtain ⟨r1, r2, e3, e4⟩ := h4 e
      refine (c_iiSpan_t Bi hkc' hn).mono ?_
      rintro r h' ⟨rfl, rfl⟩
      refine ⟨?_, rfl⟩
      unfold SpRet; rw [hc]
      have hcs2 := Bi.sub 17 4 rfl
      rw [e4] at hcs2
      exact ⟨X.ib, 17, _, _, _, rfl, .inr rfl, hcs2, r1, r2, by rw [e3, hks]; exact hpk⟩
end
set_option maxHeartbeats 1000000
theorem mst_mono {us : List ByteArray} {V : List SpanD} {i : Nat} : ∀ {j}, i ≤ j → (mst us V i).2 ≤ (mst us V j).2
  | 0, h => by obtain rfl : i = 0 := by omega
               exact Nat.le_refl _
  | j + 1, h => by
    rcases Nat.lt_or_ge i (j + 1) with e | e
    · have := mst_mono (us := us) (V := V) (show i ≤ j by omega)
      simp only [mst]
      split <;> simp only <;> omega
    · obtain rfl : i = j + 1 := by omega
      exact Nat.le_refl _
abbrev IC.fp (X : IC) (kf : Value) (b : Nat) : Prop := b = X.ib ∨ b = X.P.lb ∨ b = X.v.c ∨ b = X.mb ∨ b ∈ kf.ownBlock.toList
def PI (A : Nat → Prop) (X : IC) (p : PP) (F : Nat → Prop) (h : Heap) : Prop :=
  ∃ kf q y mu mt pos ws smt mcc dir, St A X kf q y mu mt pos ws smt mcc dir h ∧ Rest X q y pos ws smt dir p ∧ ∀ b, F b ↔ X.fp kf b
def RetM (A : Nat → Prop) (F : Nat → Prop) (h : Heap) (u : ByteArray) (r : Value) : Prop :=
  ∃ b o mu, ∃ T : Nat, r = .tuple #[.pointer (some ⟨b, o, none⟩), .agg #[.slice none 0 0, .pointer none]] ∧ F b ∧ CellsAt h b o [mu, .int .u64 (T : Int)] ∧ T / 256 = 72057594037927935 ∧ T < 18446744073709551616 ∧ RBytes (fun b => A b ∨ F b) h mu u
def RetK (A : Nat → Prop) (X : IC) (F : Nat → Prop) (h : Heap) (p : PP) (r : Value) : Prop :=
  match p with
  | .pt k => if stAt X.P.us X.V k then RetM A F h (atS X.V (mst X.P.us X.V k).2) r else r = X.P.ret ((mst X.P.us X.V k).1 + 1)
  | .ins _ key => RetM A F h key r
  | _ => r = lsN
def OpPost (A : Nat → Prop) (X : IC) (F : Nat → Prop) (h : Heap) (p : PP) (r : Value) (h' : Heap) : Prop :=
  ∃ F', PI A X p F' h' ∧ (∀ b, F' b → F b ∨ h.size ≤ b) ∧ KeepP F h h' ∧ RetK A X F' h' p r
section
variable {χ : Chi} {A : Nat → Prop} {X : IC} {h h' : Heap} {kf : Value} {F : Nat → Prop} {lk : Option ByteArray} {k0 k : Nat} {r : Value} {p p' : PP}
theorem fp_next {kf' : Value} (hF : ∀ b, F b ↔ X.fp kf b) (hob : kf'.ownBlock = kf.ownBlock ∨ ∃ b, kf'.ownBlock = some b ∧ h.size ≤ b) : ∀ b, X.fp kf' b → F b ∨ h.size ≤ b := by
  intro b hb
  rw [hF]
  rcases hb with e | e | e | e | e
  · exact .inl (.inl e)
  · exact .inl (.inr (.inl e))
  · exact .inl (.inr (.inr (.inl e)))
  · exact .inl (.inr (.inr (.inr (.inl e))))
  · rcases hob with e2 | ⟨b2, e2, h2⟩
    · rw [e2] at e; exact .inl (.inr (.inr (.inr (.inr e))))
    · rw [e2] at e; simp at e; subst e; exact .inr h2
theorem fp_keep (hF : ∀ b, F b ↔ X.fp kf b) (K : Keep (X.ib :: X.P.lb :: X.v.c :: X.mb :: kf.ownBlock.toList) h h') : KeepP F h h' :=
  K.kp fun x hx => by
    rw [hF]
    simp only [List.mem_cons] at hx
    exact hx
theorem mst_at (S : ICS A X h) {q y : Nat} {mu mt : Value} {pos dir : Int} {ws smt mcc : Bool} (M : St A X kf q y mu mt pos ws smt mcc dir h) : CellsAt h X.ib 15 [mu, mt] := M.bi.sub 15 2 rfl
theorem yp_F (H : YP A X kf 1 lk (WF X k0) h r h') (hk0 : k0 ≤ X.N) (hX : X.msk = .nilIface ∨ X.msk = X.mv) (hF : ∀ b, F b ↔ X.fp kf b)
    (hlk : ∀ k t, k0 ≤ k → stAt X.P.us X.V k = true → X.V[(mst X.P.us X.V k).2]? = some t → lbU lk t.s = t.s ∧ ∀ smt, lbS lk t.s smt = smt) : OpPost A X F h (ptF X.N (nF X.mk' X.N k0)) r h' := by
  obtain ⟨⟨kf', q, y, mu, mt, pos, ws, smt, smt', mcc, m, ⟨k, h0, hk, hm, hW⟩, M, hob, hr⟩, K⟩ := H
  have hN : X.N = X.P.us.length + X.V.length := rfl
  have hm' : ∀ j, k0 ≤ j → j < k → X.mk' j = true := fun j h1 h2 => (mskd_mk hX j).1 (hm j h1 h2)
  have hp4 : pos = 1 ∨ pos = 2 ∨ pos = 3 := by
    rcases hr with ⟨e, _⟩ | ⟨e, _⟩ | ⟨e, _⟩
    · exact .inl e
    · exact .inr (.inl e)
    · exact .inr (.inr e)
  rcases hW with ⟨⟨_, _, _, _, e, _⟩, _⟩ | ⟨hFa, _⟩
  · omega
  have hFa' := hFa
  obtain ⟨_, hq, hFa'⟩ := hFa'
  rcases hr with ⟨rfl, rfl, rfl⟩ | ⟨rfl, rfl, rfl, hnm⟩ | ⟨rfl, t, ht, rfl, rfl, T, rfl, hT1, hT2, hrb⟩
  · have hkN : k = X.N := by
      rcases hFa' with ⟨_, _, e, _⟩ | ⟨_, _, _, _, e, _⟩ | ⟨_, _, _, _, e, _⟩ | ⟨e, _⟩
      · omega
      · omega
      · omega
      · exact e
    subst hkN
    rw [nF_eq h0 hk hm' (.inl rfl)]
    unfold ptF; rw [if_neg (Nat.lt_irrefl _)]
    exact ⟨X.fp kf', ⟨kf', q, y, mu, mt, 1, ws, smt', mcc, 1, M, ⟨rfl, hFa⟩, fun b => Iff.rfl⟩, fp_next hF hob, fp_keep hF K, rfl⟩
  · have hd : k < X.N ∧ X.mk' k = false ∧ stAt X.P.us X.V k = false := by
      rcases hFa' with ⟨_, _, e, _⟩ | ⟨h1, h2, h3, hy, _, hw⟩ | ⟨h1, h2, h3, _⟩ | ⟨_, _, e, _⟩
      · omega
      · refine ⟨h1, ?_, h2⟩
        cases e : X.mk' k with
        | false => rfl
        | true =>
          have := ((mskd_mk hX k).2 e).2
          rw [h3, ← hy] at this
          rw [hw] at hnm
          exact absurd this hnm
      · refine ⟨h1, ?_, h2⟩
        unfold IC.mk'; rw [h3]; simp
      · omega
    obtain ⟨hkN, hmk, hst⟩ := hd
    rw [nF_eq h0 hk hm' (.inr hmk)]
    unfold ptF; rw [if_pos hkN]
    refine ⟨X.fp kf', ⟨kf', q, y, mu, mt, 2, ws, smt', mcc, 1, M, ⟨hkN, hmk, .inl ⟨rfl, hFa⟩⟩, fun b => Iff.rfl⟩, fp_next hF hob, fp_keep hF K, ?_⟩
    show (if stAt X.P.us X.V k then _ else _)
    rw [if_neg (by rw [hst]; decide), ← hq]
  · have hd : stAt X.P.us X.V k = true ∧ y = (mst X.P.us X.V k).2 + 1 ∧ smt = false := by
      rcases hFa' with ⟨h1, hy, _, _, hs⟩ | ⟨_, _, _, _, e, _⟩ | ⟨_, _, _, _, e, _⟩ | ⟨_, _, e, _⟩
      · exact ⟨h1, hy, hs⟩
      · omega
      · omega
      · omega
    obtain ⟨hst, hy, rfl⟩ := hd
    have hkN := st_lt hk hst
    have hmk : X.mk' k = false := by unfold IC.mk'; rw [hst]; rfl
    rw [hy, Nat.add_sub_cancel] at ht
    obtain ⟨e1, e2⟩ := hlk k t h0 hst ht
    rw [e2] at M
    rw [e1, ← atS_some ht] at hrb
    rw [nF_eq h0 hk hm' (.inr hmk)]
    unfold ptF; rw [if_pos hkN]
    refine ⟨X.fp kf', ⟨kf', q, y, mu, _, 3, ws, false, mcc, 1, M, ⟨hkN, hmk, .inl ⟨rfl, hFa⟩⟩, fun b => Iff.rfl⟩, fp_next hF hob, fp_keep hF K, ?_⟩
    show (if stAt X.P.us X.V k then _ else _)
    rw [if_pos hst]
    exact ⟨X.ib, 15, mu, T, rfl, .inl rfl, mst_at M.s M, hT1, hT2, hrb.mono fun b hb => hb.imp id fun h => .inr (.inr (.inr (.inr h)))⟩
theorem yp_B (H : YP A X kf (-1) lk (WB X k0) h r h') (hk0 : k0 ≤ X.N) (hX : X.msk = .nilIface ∨ X.msk = X.mv) (hF : ∀ b, F b ↔ X.fp kf b)
    (hlk : ∀ t, t ∈ X.V → lbU lk t.s = t.s ∧ ∀ smt, lbS lk t.s smt = smt) : OpPost A X F h (ptB (nB X.mk' k0)) r h' := by
  obtain ⟨⟨kf', q, y, mu, mt, pos, ws, smt, smt', mcc, m, ⟨rfl, k, h0, hk, hm, hW⟩, M, hob, hr⟩, K⟩ := H
  have hm' : ∀ j, k ≤ j → j < k0 → X.mk' j = true := fun j h1 h2 => (mskd_mk hX j).1 (hm j h1 h2)
  have hp4 : pos = 1 ∨ pos = 2 ∨ pos = 3 := by
    rcases hr with ⟨e, _⟩ | ⟨e, _⟩ | ⟨e, _⟩
    · exact .inl e
    · exact .inr (.inl e)
    · exact .inr (.inr e)
  rcases hW with ⟨⟨_, _, _, _, e, _⟩, _⟩ | ⟨rfl, hA, _⟩ | ⟨hkp, hB, _⟩
  · omega
  · have hA' := hA
    obtain ⟨_, _, rfl, _⟩ := hA'
    rw [nB_eq (.inl rfl) h0 hm']
    unfold ptB; rw [if_pos rfl]
    rcases hr with ⟨_, rfl, rfl⟩ | ⟨e, _⟩ | ⟨e, _⟩
    · exact ⟨X.fp kf', ⟨kf', q, y, mu, mt, 1, ws, false, mcc, -1, M, ⟨rfl, rfl, hA⟩, fun b => Iff.rfl⟩, fp_next hF hob, fp_keep hF K, rfl⟩
    · omega
    · omega
  · have hB' := hB
    obtain ⟨hkN, hB'⟩ := hB'
    rcases hB' with ⟨hst, hq, hy, rfl, hw⟩ | ⟨hst, hq, hy, rfl, hw⟩
    · have hmk : X.mk' (k - 1) = false := by unfold IC.mk'; rw [hst]; rfl
      rw [nB_eq (.inr hmk) h0 hm']
      unfold ptB; rw [if_neg (by omega)]
      rcases hr with ⟨e, _⟩ | ⟨e, _⟩ | ⟨_, t, ht, rfl, rfl, T, rfl, hT1, hT2, hrb⟩
      · omega
      · omega
      · rw [hy, Nat.add_sub_cancel] at ht
        obtain ⟨e1, e2⟩ := hlk t (List.mem_of_getElem? ht)
        rw [e2] at M
        rw [e1, ← atS_some ht] at hrb
        refine ⟨X.fp kf', ⟨kf', q, y, mu, _, 3, ws, false, mcc, -1, M, ⟨hkN, hmk, .inr ⟨rfl, rfl, hB⟩⟩, fun b => Iff.rfl⟩, fp_next hF hob, fp_keep hF K, ?_⟩
        show (if stAt X.P.us X.V (k - 1) then _ else _)
        rw [if_pos hst]
        exact ⟨X.ib, 15, mu, T, rfl, .inl rfl, mst_at M.s M, hT1, hT2, hrb.mono fun b hb => hb.imp id fun h => .inr (.inr (.inr (.inr h)))⟩
    · rcases hr with ⟨e, _⟩ | ⟨_, rfl, rfl, hnm⟩ | ⟨e, _⟩
      · omega
      · have hmk : X.mk' (k - 1) = false := by
          cases e : X.mk' (k - 1) with
          | false => rfl
          | true =>
            have := ((mskd_mk hX (k - 1)).2 e).2
            rw [← hw, ← hy] at this
            exact absurd this hnm
        rw [nB_eq (.inr hmk) h0 hm']
        unfold ptB; rw [if_neg (by omega)]
        refine ⟨X.fp kf', ⟨kf', q, y, mu, mt, 2, ws, false, mcc, -1, M, ⟨hkN, hmk, .inr ⟨rfl, rfl, hB⟩⟩, fun b => Iff.rfl⟩, fp_next hF hob, fp_keep hF K, ?_⟩
        show (if stAt X.P.us X.V (k - 1) then _ else _)
        rw [if_neg (by rw [hst]; decide), ← hq]
      · omega
theorem yp_M {key : ByteArray} (H : YP A X kf 1 (some key) (WM X (geM X.P.us X.V key)) h r h') (hi : insM X.V key = true) (hF : ∀ b, F b ↔ X.fp kf b) : OpPost A X F h (.ins (geM X.P.us X.V key) key) r h' := by
  obtain ⟨⟨kf', q, y, mu, mt, pos, ws, smt, smt', mcc, m, hM, M, hob, hr⟩, K⟩ := H
  have hM' := hM
  obtain ⟨hk, hq, hy, h0, rfl, hw, _, h8⟩ := hM'
  rcases hr with ⟨e, _⟩ | ⟨e, _⟩ | ⟨_, t, ht, rfl, rfl, T, rfl, hT1, hT2, hrb⟩
  · omega
  · omega
  · have h2 := geM_mst2 M.s.rise M.s.ord hi
    rw [hy, h2, Nat.add_sub_cancel] at ht
    have hsl : slt t.s key = true := by
      have hi' := hi
      unfold insM at hi'; rw [Bool.and_eq_true, atS_some ht] at hi'; exact hi'.2
    have e1 : lbU (some key) t.s = key := by simp [lbU, hsl]
    have e2 : lbS (some key) t.s smt = true := by simp [lbS, hsl]
    rw [e1] at hrb
    rw [e2] at M
    exact ⟨X.fp kf', ⟨kf', q, y, mu, _, 3, ws, true, mcc, 1, M, ⟨hi, rfl, rfl, ⟨hk, hq, hy, h0, rfl, hw, rfl, h8⟩⟩, fun b => Iff.rfl⟩, fp_next hF hob, fp_keep hF K,
      X.ib, 15, mu, T, rfl, .inl rfl, mst_at M.s M, hT1, hT2, hrb.mono fun b hb => hb.imp id fun h => .inr (.inr (.inr (.inr h)))⟩
theorem op_now {p : PP} (H : OpPost A X F h p r h') (hp : p = .behind ∨ p = .ahead) : OpPost A X F h .nowhere r h' := by
  obtain ⟨F', ⟨kf, q, y, mu, mt, pos, ws, smt, mcc, dir, M, hR, hF⟩, h1, h2, h3⟩ := H
  have hw : ws = false := by
    rcases rest_span M.s.rise M.s.ord hR with ⟨e, _⟩ | ⟨_, _, _, t, _, hc⟩
    · exact e
    · rcases hp with rfl | rfl <;> cases hc
  refine ⟨F', ⟨kf, q, y, mu, mt, pos, ws, smt, mcc, dir, M, hw, hF⟩, h1, h2, ?_⟩
  rcases hp with rfl | rfl <;> exact h3
theorem msk_two {b : Bool} (M : MaskI X k b h) : X.msk = .nilIface ∨ X.msk = X.mv := M.imp id fun ⟨e, _⟩ => e
theorem pi_First (SV : SaveOK χ A X) (hA0 : X.a0 = 0) (H : PI A X p F h) : Cl Tryz.prog χ 101 #[X.p] h (OpPost A X F h (kFirst X.mk' X.N)) := by
  obtain ⟨kf, q, y, mu, mt, pos, ws, smt, mcc, dir, M, hR, hF⟩ := H
  refine (c_ixFirst SV M hA0).mono ?_
  rintro r h' ⟨lk, hlk, HY⟩
  have := yp_F HY (Nat.zero_le _) (msk_two M.msk) hF (fun k t _ _ ht => hlk t (List.mem_of_getElem? ht))
  unfold kFirst
  split
  · rename_i e; unfold ptF at this; rw [if_pos e] at this; exact this
  · rename_i e; unfold ptF at this; rw [if_neg e] at this; exact op_now this (.inl rfl)
theorem pi_Last (SV : SaveOK χ A X) (hA1 : X.a0 + X.V.length = X.v.W.length) (H : PI A X p F h) : Cl Tryz.prog χ 102 #[X.p] h (OpPost A X F h (kLast X.mk' X.N)) := by
  obtain ⟨kf, q, y, mu, mt, pos, ws, smt, mcc, dir, M, hR, hF⟩ := H
  refine (c_ixLast SV M hA1).mono ?_
  rintro r h' ⟨lk, hlk, HY⟩
  have := yp_B HY (Nat.le_refl _) (msk_two M.msk) hF hlk
  unfold kLast
  split
  · rename_i e; unfold ptB at this; rw [if_pos e] at this; exact op_now this (.inr rfl)
  · rename_i e; unfold ptB at this; rw [if_neg e] at this; exact this
theorem pi_Next (SV : SaveOK χ A X) (H : PI A X p F h) (hp : kNext X.mk' X.N p = some p') : Cl Tryz.prog χ 103 #[X.p] h (OpPost A X F h p') := by
  obtain ⟨kf, q, y, mu, mt, pos, ws, smt, mcc, dir, M, hR, hF⟩ := H
  have hd : ∃ k', NPre X k' dir q y pos ws smt ∧ k' ≤ X.N ∧ p' = ptF X.N (nF X.mk' X.N k') := by
    cases p with
    | pt k =>
      obtain ⟨hk, _, hR⟩ := hR
      cases hp
      refine ⟨k + 1, ?_, hk, rfl⟩
      rcases hR with ⟨e, hR⟩ | ⟨e, hs, hR⟩
      · exact .inl ⟨e, .inl ⟨k, hk, hR, rfl⟩⟩
      · exact .inr ⟨e, hs, .inr ⟨k, hR, rfl⟩⟩
    | ins k key =>
      obtain ⟨_, _, e, hR⟩ := hR
      cases hp
      exact ⟨k, .inl ⟨e, .inr (.inl hR)⟩, hR.1, rfl⟩
    | ahead =>
      obtain ⟨e, hs, hR⟩ := hR
      cases hp
      exact ⟨0, .inr ⟨e, hs, .inl ⟨hR, rfl⟩⟩, Nat.zero_le _, rfl⟩
    | behind => cases hp
    | nowhere => cases hp
  obtain ⟨k', hN, hk', rfl⟩ := hd
  refine (c_ixNext SV M hN).mono ?_
  rintro r h' ⟨lk, hlk, HY⟩
  exact yp_F HY hk' (msk_two M.msk) hF (fun k t _ _ ht => hlk t (List.mem_of_getElem? ht))
theorem pi_Prev (SV : SaveOK χ A X) (H : PI A X p F h) (hp : kPrev X.mk' X.N p = some p') : Cl Tryz.prog χ 104 #[X.p] h (OpPost A X F h p') := by
  obtain ⟨kf, q, y, mu, mt, pos, ws, smt, mcc, dir, M, hR, hF⟩ := H
  have hd : ∃ k', PPre X k' dir q y pos ws smt ∧ k' ≤ X.N ∧ p' = ptB (nB X.mk' k') := by
    cases p with
    | pt k =>
      obtain ⟨hk, _, hR⟩ := hR
      cases hp
      refine ⟨k, ?_, Nat.le_of_lt hk, rfl⟩
      rcases hR with ⟨e, hR⟩ | ⟨e, hs, hR⟩
      · exact .inr ⟨e, .inl hR⟩
      · exact .inl ⟨e, hs, hR⟩
    | ins k key =>
      obtain ⟨_, _, e, hR⟩ := hR
      cases hp
      exact ⟨k, .inr ⟨e, .inr hR⟩, hR.1, rfl⟩
    | behind =>
      obtain ⟨e, hR⟩ := hR
      cases hp
      exact ⟨X.N, .inr ⟨e, .inl hR⟩, Nat.le_refl _, rfl⟩
    | ahead => cases hp
    | nowhere => cases hp
  obtain ⟨k', hN, hk', rfl⟩ := hd
  refine (c_ixPrev SV M hN).mono ?_
  rintro r h' ⟨lk, hlk, HY⟩
  exact yp_B HY hk' (msk_two M.msk) hF hlk
theorem geM_start (hR : Rise X.P.us) (hO : Tess.Ord X.V) {key : ByteArray} {k : Nat} {t : SpanD} (hk : geM X.P.us X.V key ≤ k) (ht : X.V[(mst X.P.us X.V k).2]? = some t) : slt t.s key = false := by
  have h1 := mst_mono (us := X.P.us) (V := X.V) hk
  rw [mst_geM hR hO key] at h1
  exact ltI_above (k := key) _ _ h1 ht
theorem pi_SeekGE {key : ByteArray} {la : Addr} {ln lc : Nat} {fl : Value} (SV : SaveOK χ A X) (hg : geI X.v.W key = X.a0 + geI X.V key) (hln : key.data.toList.length ≤ 100000000000) (hku : ∀ t, t ∈ X.V → slt t.s key = true → key ≠ X.ub) (H : PI A X p F h)
    (hkey : RBytes (fun b => ¬ F b) h (.slice (some la) ln lc) key) : Cl Tryz.prog χ 105 #[X.p, .slice (some la) ln lc, fl] h (OpPost A X F h (kGE X.mk' X.P.us X.V key)) := by
  obtain ⟨kf, q, y, mu, mt, pos, ws, smt, mcc, dir, M, hR, hF⟩ := H
  refine (c_ixSeekGE SV M (hkey.mono fun b hb => ?_) hg hln hku).mono ?_
  · rw [hF] at hb
    exact ⟨fun e => hb (.inl e), fun e => hb (.inr (.inl e)), fun e => hb (.inr (.inr (.inl e))), fun e => hb (.inr (.inr (.inr (.inl e))))⟩
  · intro r h' HY
    unfold kGE
    unfold WS at HY
    split
    · rename_i hi
      rw [if_pos hi] at HY
      exact yp_M HY hi hF
    · rename_i hi
      rw [if_neg hi] at HY
      refine yp_F HY (geM_le _ _ _) (msk_two M.msk) hF (fun k t hk hst ht => ?_)
      have := geM_start M.s.rise M.s.ord hk ht
      exact ⟨by simp [lbU, this], fun smt => by simp [lbS, this]⟩
theorem pi_SeekLT {key : ByteArray} {la : Addr} {ln lc : Nat} {fl : Value} (SV : SaveOK χ A X) (hg : ltI X.v.W key = X.a0 + ltI X.V key) (H : PI A X p F h)
    (hkey : RBytes (fun b => ¬ F b) h (.slice (some la) ln lc) key) : Cl Tryz.prog χ 106 #[X.p, .slice (some la) ln lc, fl] h (OpPost A X F h (kLT X.mk' X.P.us X.V key)) := by
  obtain ⟨kf, q, y, mu, mt, pos, ws, smt, mcc, dir, M, hR, hF⟩ := H
  refine (c_ixSeekLT SV M (hkey.mono fun b hb => ?_) hg).mono ?_
  · rw [hF] at hb
    exact ⟨fun e => hb (.inl e), fun e => hb (.inr (.inl e)), fun e => hb (.inr (.inr (.inl e))), fun e => hb (.inr (.inr (.inr (.inl e))))⟩
  · rintro r h' ⟨lk, hlk, HY⟩
    exact yp_B HY (geM_le _ _ _) (msk_two M.msk) hF hlk
theorem pi_Span (H : PI A X p F h) : Cl Tryz.prog χ 110 #[X.p] h (fun r h' => SpRet A X h p r ∧ h' = h) := by
  obtain ⟨kf, q, y, mu, mt, pos, ws, smt, mcc, dir, M, hR, hF⟩ := H
  exact c_ixSpan M hR
theorem PI.low (H : PI A X p F h) : Low F h := by
  obtain ⟨kf, q, y, mu, mt, pos, ws, smt, mcc, dir, M, hR, hF⟩ := H
  intro b hb
  rw [hF] at hb
  rcases hb with rfl | rfl | rfl | rfl | e
  · exact M.bi.lt
  · exact M.bl.lt
  · exact M.lv.lt
  · exact M.s.mbl
  · exact kf_lt M.kf b e
theorem PI.stab {Z : Nat → Prop} (H : PI A X p F h) (K : KeepP Z h h') (hZ : ∀ b, Z b → ¬ F b ∧ ¬ A b) : PI A X p F h' := by
  have hl := H.low
  obtain ⟨kf, q, y, mu, mt, pos, ws, smt, mcc, dir, ⟨S, Bi, Bl, Lv, Mk, Kf⟩, hR, hF⟩ := H
  have hf : ∀ b, F b → h'[b]? = h[b]? := fun b hb => K.2 b (hl b hb) (fun hz => (hZ b hz).1 hb)
  have f1 : F X.ib := (hF _).2 (.inl rfl)
  have f2 : F X.P.lb := (hF _).2 (.inr (.inl rfl))
  have f3 : F X.v.c := (hF _).2 (.inr (.inr (.inl rfl)))
  have f4 : F X.mb := (hF _).2 (.inr (.inr (.inr (.inl rfl))))
  refine ⟨kf, q, y, mu, mt, pos, ws, smt, mcc, dir, ⟨S.stab (fun b hb => K.2 b (S.low b hb) (fun hz => (hZ b hz).2 hb)) K.1, (hf _ f1).trans Bi, (hf _ f2).trans Bl, ?_, Mk.imp id fun ⟨e, sk, B, hs⟩ => ⟨e, sk, (hf _ f4).trans B, hs⟩, ?_⟩, hR, hF⟩
  · obtain ⟨x, B, hx⟩ := Lv
    exact ⟨x, (hf _ f3).trans B, hx⟩
  · obtain ⟨l, H⟩ := Kf
    exact ⟨l, K.own H.1 fun b hb hz => (hZ b hz).1 ((hF b).2 (.inr (.inr (.inr (.inr (by rw [hb]; simp)))))), H.2⟩
end
set_option maxHeartbeats 1000000
def cPAns (A : Nat → Prop) (h : Heap) (c : List Value) (a : PAnsD) : Prop :=
  ∃ kv, c = [.bool a.done, .bool a.ok, .bool a.marker, .string a.key.user, .int .u64 a.key.tr, .string a.key.val, .bool a.has, .string a.sp.s, .string a.sp.e, kv] ∧ RKeys A h kv a.sp.ks
theorem cPAns_st : RStab cPAns := ⟨fun _ _ _ _ _ s ⟨kv, e, hk⟩ => ⟨kv, e, hk.stab s⟩, fun _ _ _ _ _ s ⟨kv, e, hk⟩ => ⟨kv, e, hk.mono s⟩⟩
def RPAns (A : Nat → Prop) (h : Heap) (b o : Nat) (a : PAnsD) : Prop :=
  ∃ kv, CellsAt h b o [.bool a.done, .bool a.ok, .bool a.marker, .string a.key.user, .int .u64 a.key.tr, .string a.key.val, .bool a.has, .string a.sp.s, .string a.sp.e, kv] ∧ RKeys A h kv a.sp.ks
def RPAnss (A : Nat → Prop) (h : Heap) (v : Value) (l : List PAnsD) : Prop := SlR h A 10 (RPAns A) v l
theorem cPAns_r (F : Nat → Prop) (h : Heap) (b o : Nat) (c : List Value) (a : PAnsD) (hc : CellsAt h b o c) (hr : cPAns F h c a) : RPAns F h b o a := by obtain ⟨kv, rfl, hk⟩ := hr; exact ⟨kv, hc, hk⟩
def entP (es : List EntD) (V : List SpanD) : PP → Option (EntD × Bool)
  | .pt k => some (markE es V k, stAt (es.map EntD.user) V k)
  | .ins _ key => some (⟨key, 0, .empty⟩, true)
  | _ => none
theorem ansM_ent (es : List EntD) (V : List SpanD) (p : PP) : ansM es V (some p) = match entP es V p with | some (e, mk) => ptAns V e mk | none => ⟨true, false, false, zeroEnt, false, zeroSpan⟩ := by
  cases p <;> rfl
theorem covP_ent (X : IC) (p : PP) : covP X p = match entP X.P.es X.V p with | some (e, _) => covS X.V e.user | none => none := by
  cases p <;> rfl
def Rk (A F : Nat → Prop) (h : Heap) (a : Option (EntD × Bool)) (pa : Option Addr) (vv : Value) : Prop :=
  match a with
  | none => pa = none
  | some (e, mk) => ∃ b o ua un uc, ∃ T : Nat, pa = some ⟨b, o, none⟩ ∧ (A b ∨ F b) ∧ CellsAt h b o [.slice ua un uc, .int .u64 (T : Int)] ∧ RBytes (fun b => A b ∨ F b) h (.slice ua un uc) e.user ∧ T < 18446744073709551616 ∧
      ((mk = true ∧ T / 256 = 72057594037927935 ∧ e.tr = 0 ∧ e.val = .empty) ∨ (mk = false ∧ T / 256 < 72057594037927935 ∧ e.tr = (T : Int) ∧ ∃ a n c, vv = .slice a n c ∧ RBytes A h vv e.val))
theorem Rk.stab {A F : Nat → Prop} {h h' : Heap} {a : Option (EntD × Bool)} {pa : Option Addr} {vv : Value} (H : Rk A F h a pa vv) (hs : Stab (fun b => A b ∨ F b) h h') : Rk A F h' a pa vv := by
  cases a with
  | none => exact H
  | some x =>
    obtain ⟨e, mk⟩ := x
    obtain ⟨b, o, ua, un, uc, T, e1, hb, hc, hr, hT, hm⟩ := H
    refine ⟨b, o, ua, un, uc, T, e1, hb, hs.cells hb hc, hr.stab hs, hT, hm.imp id ?_⟩
    rintro ⟨e2, e3, e4, a, n, c, e5, r⟩
    exact ⟨e2, e3, e4, a, n, c, e5, r.stab fun b hb => hs b (.inl hb)⟩
def SeqLow (es : List EntD) : Prop := ∀ e, e ∈ es → ∃ T : Nat, e.tr = (T : Int) ∧ T / 256 < 72057594037927935 ∧ T < 18446744073709551616
theorem retk_form {A : Nat → Prop} {X : IC} {F : Nat → Prop} {h : Heap} {p : PP} {r : Value} (S : ICS A X h) (hq : SeqLow X.P.es) (hin : ∀ k, p = .pt k → k < X.N) (H : RetK A X F h p r) :
    ∃ pa vv, r = .tuple #[.pointer pa, .agg #[vv, .pointer none]] ∧ vv.oneCell' = true ∧ Rk A F h (entP X.P.es X.V p) pa vv := by
  have hM : ∀ u, RetM A F h u r → ∀ e : EntD, e.user = u → e.tr = 0 → e.val = .empty → ∃ pa vv, r = .tuple #[.pointer pa, .agg #[vv, .pointer none]] ∧ vv.oneCell' = true ∧ Rk A F h (some (e, true)) pa vv := by
    rintro u ⟨b, o, mu, T, rfl, hb, hc, hT, hT2, hr⟩ e rfl h1 h2
    obtain ⟨ua, uc, rfl⟩ := SlR.form2 hr
    exact ⟨_, _, rfl, rfl, b, o, ua, _, uc, T, rfl, .inr hb, hc, hr, hT2, .inl ⟨rfl, hT, h1, h2⟩⟩
  cases p with
  | pt k =>
    have hk := hin k rfl
    unfold RetK at H
    simp only [entP]
    cases e : stAt X.P.us X.V k with
    | true =>
      simp only [e, if_true] at H
      rw [show stAt (X.P.es.map EntD.user) X.V k = true from e]
      refine hM _ H _ (markE_st e) ?_ ?_
      · unfold markE; rw [show stAt (X.P.es.map EntD.user) X.V k = true from e]; rfl
      · unfold markE; rw [show stAt (X.P.es.map EntD.user) X.V k = true from e]; rfl
    | false =>
      simp only [e] at H
      rw [show stAt (X.P.es.map EntD.user) X.V k = false from e]
      obtain ⟨x, hx, hme, hus⟩ := markE_pt hk e
      rw [hme]
      have hp := (List.getElem?_eq_some_iff.1 hx).1
      obtain ⟨kb, ko, vb, vo, e1, e2, a1, a2, hc, r1, hc2, r2⟩ := S.pts.cells _ x hx
      obtain ⟨T, hT0, hT1, hT2⟩ := hq x (List.mem_of_getElem? hx)
      obtain ⟨ua, uc, hu⟩ := SlR.form2 r1
      obtain ⟨va, vc, hv⟩ := SlR.form2 r2
      rw [hu, hT0] at hc; rw [hu] at r1
      have hr : r = X.P.ret ((mst X.P.us X.V k).1 + 1) := H
      rw [Pts.ret_at hp e1] at hr
      exact ⟨_, _, hr, by rw [hv]; rfl, kb, _, ua, _, uc, T, rfl, .inl a1, hc, r1.mono fun b hb => .inl hb, hT2, .inr ⟨rfl, hT1, hT0, va, _, vc, hv, r2⟩⟩
  | ins k key => exact hM key H _ rfl rfl rfl
  | behind => exact ⟨none, .slice none 0 0, H, rfl, rfl⟩
  | ahead => exact ⟨none, .slice none 0 0, H, rfl, rfl⟩
  | nowhere => exact ⟨none, .slice none 0 0, H, rfl, rfl⟩
def toPos : PP → Pos
  | .pt _ => .pt 0
  | .ins _ _ => .pt 0
  | .behind => .behind
  | .ahead => .ahead
  | .nowhere => .nowhere
def entB : PP → Bool
  | .pt _ => true
  | .ins _ _ => true
  | _ => false
theorem ent_isSome (es : List EntD) (V : List SpanD) (p : PP) : (entP es V p).isSome = entB p := by cases p <;> rfl
def okK (p : PP) (ok : Bool) (last : Int) : Prop :=
  (ok = true ∧ entB p = true) ∨ (ok = false ∧ ((p = .ahead ∧ (last = 5 ∨ last = 3)) ∨ (p = .behind ∧ (last = 4 ∨ last = 2)) ∨ (p = .nowhere ∧ (last = 0 ∨ last = 1))))
theorem okK_okl {p : PP} {ok : Bool} {last : Int} (H : okK p ok last) : okl [zeroSpan] (toPos p) ok last := by
  rcases H with ⟨e, hp⟩ | ⟨e, H⟩
  · left
    refine ⟨e, 0, ?_, by decide⟩
    cases p <;> first | rfl | cases hp
  · right
    refine ⟨e, ?_⟩
    rcases H with ⟨rfl, h⟩ | ⟨rfl, h⟩ | ⟨rfl, h⟩
    · exact .inl ⟨rfl, h⟩
    · exact .inr (.inl ⟨rfl, h⟩)
    · exact .inr (.inr ⟨rfl, h⟩)
theorem taken_eq (us : List ByteArray) (V : List SpanD) (mk : Nat → Bool) (p : PP) (s : StepD) : (stepP [zeroSpan] (toPos p) s).isSome = (stepK us V mk p s).isSome := by
  unfold stepP stepK
  by_cases o0 : s.op = 0
  · rw [if_pos o0, if_pos o0]; rfl
  rw [if_neg o0, if_neg o0]
  by_cases o1 : s.op = 1
  · rw [if_pos o1, if_pos o1]; rfl
  rw [if_neg o1, if_neg o1]
  by_cases o2 : s.op = 2
  · rw [if_pos o2, if_pos o2]; cases p <;> rfl
  rw [if_neg o2, if_neg o2]
  by_cases o3 : s.op = 3
  · rw [if_pos o3, if_pos o3]; cases p <;> rfl
  rw [if_neg o3, if_neg o3]
  by_cases o4 : s.op = 4
  · rw [if_pos o4, if_pos o4]; rfl
  rw [if_neg o4, if_neg o4]
  by_cases o5 : s.op = 5
  · rw [if_pos o5, if_pos o5]; rfl
  rw [if_neg o5, if_neg o5]; rfl
theorem c_takenK (χ : Chi) (h : Heap) (us : List ByteArray) (V : List SpanD) (mk : Nat → Bool) (p : PP) (s : StepD) (ok : Bool) (last : Int) (hk : okK p ok last) :
    Cl Tryz.prog χ 100 #[.int .u8 s.op, .bool ok, .int .u8 last] h (fun r h' => r = .bool (stepK us V mk p s).isSome ∧ h' = h) := by
  rw [← taken_eq us V mk p s]; exact c_taken χ h [zeroSpan] (toPos p) s ok last (okK_okl hk)
theorem ptF_ok {N k : Nat} {last : Int} (hl : last = 4 ∨ last = 2) : okK (ptF N k) (entB (ptF N k)) last := by
  unfold ptF; split
  · exact .inl ⟨rfl, rfl⟩
  · exact .inr ⟨rfl, .inr (.inl ⟨rfl, hl⟩)⟩
theorem ptB_ok {k : Nat} {last : Int} (hl : last = 5 ∨ last = 3) : okK (ptB k) (entB (ptB k)) last := by
  unfold ptB; split
  · exact .inr ⟨rfl, .inl ⟨rfl, hl⟩⟩
  · exact .inl ⟨rfl, rfl⟩
theorem okK_step {us : List ByteArray} {V : List SpanD} {mk : Nat → Bool} {p pn : PP} {s : StepD} (h : stepK us V mk p s = some pn) : okK pn (entB pn) s.op := by
  unfold stepK at h
  by_cases o0 : s.op = 0
  · rw [if_pos o0] at h; cases h; unfold kFirst
    split
    · exact .inl ⟨rfl, rfl⟩
    · exact .inr ⟨rfl, .inr (.inr ⟨rfl, .inl o0⟩)⟩
  rw [if_neg o0] at h
  by_cases o1 : s.op = 1
  · rw [if_pos o1] at h; cases h; unfold kLast
    split
    · exact .inr ⟨rfl, .inr (.inr ⟨rfl, .inr o1⟩)⟩
    · exact .inl ⟨rfl, rfl⟩
  rw [if_neg o1] at h
  by_cases o2 : s.op = 2
  · rw [if_pos o2] at h; cases p <;> first | (cases h; exact ptF_ok (.inr o2)) | cases h
  rw [if_neg o2] at h
  by_cases o3 : s.op = 3
  · rw [if_pos o3] at h; cases p <;> first | (cases h; exact ptB_ok (.inr o3)) | cases h
  rw [if_neg o3] at h
  by_cases o4 : s.op = 4
  · rw [if_pos o4] at h; cases h; unfold kGE
    split
    · exact .inl ⟨rfl, rfl⟩
    · exact ptF_ok (.inl o4)
  rw [if_neg o4] at h
  by_cases o5 : s.op = 5
  · rw [if_pos o5] at h; cases h; exact ptB_ok (.inl o5)
  rw [if_neg o5] at h; cases h
theorem c_entry {χ : Chi} {h : Heap} {a : Option Addr} {n c : Nat} {A : Nat → Prop} {u : ByteArray} {T : Int} (hu : RBytes A h (.slice a n c) u) :
    Cl Tryz.prog χ 107 #[.agg #[.slice a n c, .int .u64 T]] h (fun r h' => r = .agg #[.string u, .int .u64 T, .string ByteArray.empty] ∧ Keep [] h h') := by
  refine cl_intro Tryz.func107 rfl rfl rfl ?_
  have K : Keep [] h h := Keep.refl _ _
  refine rG <| rs_w (w_newbox rfl) rfl ?_
  rintro _ h1 ⟨rfl, B1, K1, Z1⟩
  have S1 := K.1; have K := K.new0 K1
  refine rs_w (w_new zero_impl_Entry) rfl ?_
  rintro _ h2 ⟨rfl, B2, K2, Z2⟩
  have B1 := K2.blk (by simp) B1
  have S2 := K.1; have K := K.new0 K2
  refine rN <| rG <| rF fa_base_InternalKey_0 rfl rfl <| rs_v (v_load one_sl_uint8 rfl (by exact B1.cell _ rfl)) rfl ?_
  refine rs_v (v_toStr u_sl_uint8 u_uint8 u_string rfl (RBytes.by ((RBytes.lowen hu).stab (K.stab fun b hb => ⟨hb.2, by simp⟩)))) rfl ?_
  refine rF fa_base_InternalKey_1 rfl rfl <| rs_v (v_load one_uint64 rfl (by exact B1.cell _ rfl)) rfl ?_
  refine rs_v (v_build2 rfl rfl (bld_impl_Entry_0_1 _ _)) rfl ?_
  refine rs_w0 (w_put siz_impl_Entry rfl rfl rfl rfl B2 rfl) ?_
  rintro _ h3 ⟨B3, K3⟩
  have B1 := K3.blk (by simp; omega) B1
  have B2 := B3; have K := K.new1 K3 (by first | (right; omega) | (left; simp; done)); have Z3 := K3.1
  refine rN <| tr_ret <| q_ret (res_cell (vs := [_, _, _]) rfl rfl many_impl_Entry (by exact B2.sub 0 3 rfl)) ?_
  exact ⟨rfl, K⟩
theorem c_ikSeq {χ : Chi} {h : Heap} {a : Option Addr} {n c : Nat} {T : Nat} (hT : T < 18446744073709551616) :
    Cl Tryz.prog χ 108 #[.agg #[.slice a n c, .int .u64 (T : Int)]] h (fun r h' => r = .int .u64 ((T / 256 : Nat) : Int) ∧ Keep [] h h') := by
  refine cl_intro Tryz.func108 rfl rfl rfl ?_
  have K : Keep [] h h := Keep.refl _ _
  refine rG <| rs_w (w_newbox rfl) rfl ?_
  rintro _ h1 ⟨rfl, B1, K1, Z1⟩
  have S1 := K.1; have K := K.new0 K1
  refine rA rfl rfl <| rN <| rG <| rF fa_base_InternalKey_1 rfl rfl <| rs_v (v_load one_uint64 rfl (by exact B1.cell _ rfl)) rfl ?_
  refine rs_v (v_shrN (k := 8) (m := 256) rfl rfl rfl rfl (by decide) (by decide)) rfl ?_
  refine rA rfl rfl <| rN <| tr_ret <| q_ret (res_tmp rfl rfl) ?_
  exact ⟨rfl, K⟩
theorem c_inPlace {χ : Chi} {h : Heap} {b : Nat} {vv : Value} (B : Blk h b [vv, .pointer none] 111) :
    Cl Tryz.prog χ 109 #[.pointer (some ⟨b, 0, none⟩)] h (fun r h' => r = vv ∧ h' = h) := by
  refine cl_intro Tryz.func109 rfl rfl rfl ?_
  have K : Keep [] h h := Keep.refl _ _
  refine rG <| rA rfl rfl <| rN <| tr_seq <| rG <| rM rfl rfl <| rs_gs rfl (rfl) rfl rfl <| rs_gs rfl (rfl) rfl rfl <| rs_gs rfl (rfl) rfl rfl <| rs_gs rfl (rfl) rfl rfl <| rs_gs rfl (rfl) rfl rfl <| rs_v (v_pick_f rfl rfl) rfl ?_
  refine rN <| tr_if_f rfl ?_
  refine tr_skip <| q_thn <| rG <| rM rfl rfl <| rC rfl rfl <| rF fa_base_LazyValue_0 rfl rfl <| rs_v (v_load one_sl_uint8 rfl (by exact B.cell _ rfl)) rfl ?_
  refine rA rfl rfl <| rN <| tr_ret <| q_ret (res_tmp rfl rfl) ?_
  exact ⟨rfl, rfl⟩
set_option maxHeartbeats 2000000
structure KeyOK (X : IC) (s : StepD) : Prop where
  first : s.op = 0 → X.a0 = 0
  last : s.op = 1 → X.a0 + X.V.length = X.v.W.length
  ge : s.op = 4 → geI X.v.W s.key = X.a0 + geI X.V s.key ∧ ∀ t, t ∈ X.V → slt t.s s.key = true → s.key ≠ X.ub
  lt : s.op = 5 → ltI X.v.W s.key = X.a0 + ltI X.V s.key
theorem KeepP.mono {F D : Nat → Prop} {h h' : Heap} (K : KeepP F h h') (hF : ∀ b, F b → D b) : KeepP D h h' := ⟨K.1, fun b hb hd => K.2 b hb (fun hf => hd (hF b hf))⟩
theorem out_call {α : Type} {F F' : Nat → Prop} {h0 hL hp ho hs : Heap} {base : Nat} {e : TypeId} {sz : Nat} {R : (Nat → Prop) → Heap → List Value → α → Prop} {v : Value} {n b10 b12 : Nat} {al : List α} (hst : RStab R)
    (H : OutD F h0 hL base e sz R v n al) (K : Keep [] hL hp) (KP : KeepP F hp ho) (hF' : ∀ b, F' b → F b ∨ hp.size ≤ b) (Ks : Keep [b12] ho hs) (h1 : hL.size ≤ b10) (h2 : hL.size ≤ b12) : OutD (fun b => F' b ∨ b = b10) h0 hs base e sz R v n al := by
  have a := H.move (D' := fun b => F b ∨ b = b10 ∨ b = b12) hst (KeepP.refl F hL) (fun b hb => by
    rcases hb with hb | rfl | rfl
    · exact .inl hb
    · exact .inr h1
    · exact .inr h2)
  have b := a.move (D' := fun b => F b ∨ b = b10 ∨ b = b12) hst K.kp0 (fun b hb => .inl hb)
  have c := b.move (D' := fun b => F' b ∨ b = b10 ∨ b = b12) hst (KeepP.mono KP fun b hb => .inl hb) (fun b hb => by
    rcases hb with hb | hb
    · exact (hF' b hb).imp (fun h => .inl h) id
    · exact .inl (.inr hb))
  exact c.move hst (Ks.kp (fun x hx => .inr (.inr (by simpa using hx)))) (fun b hb => by
    rcases hb with hb | hb
    · exact .inl (.inl hb)
    · exact .inl (.inr (.inl hb)))
def a0C : Option (EntD × Bool) → List Value
  | some (e, mk) => [.bool true, .bool true, .bool mk, .string e.user, .int .u64 e.tr, .string e.val, .bool false, .string ByteArray.empty, .string ByteArray.empty, .slice none 0 0]
  | none => [.bool true, .bool false, .bool false, .string ByteArray.empty, .int .u64 0, .string ByteArray.empty, .bool false, .string ByteArray.empty, .string ByteArray.empty, .slice none 0 0]
def a1C (a : PAnsD) (kv : Value) : List Value := [.bool a.done, .bool a.ok, .bool a.marker, .string a.key.user, .int .u64 a.key.tr, .string a.key.val, .bool a.has, .string a.sp.s, .string a.sp.e, kv]
theorem rk_isSome {A F : Nat → Prop} {h : Heap} {a : Option (EntD × Bool)} {pa : Option Addr} {vv : Value} (H : Rk A F h a pa vv) : pa.isSome = a.isSome := by
  cases a with
  | none => cases H; rfl
  | some x => obtain ⟨e, mk⟩ := x; obtain ⟨b, o, _, _, _, T, rfl, _⟩ := H; rfl
theorem OutD.snocG {α : Type} {D : Nat → Prop} {h0 hL h7 h8 : Heap} {base : Nat} {e : TypeId} {sz : Nat} {R : (Nat → Prop) → Heap → List Value → α → Prop} {v v8 : Value} {m : Nat} {al : List α} {x : α} {xs c : List Value} {G G' : Nat → Prop}
    (hst : RStab R) (hO : ∀ y, y ∈ v.ownBlock.toList → ¬ D y) (hrow : RowsR sz (R G hL) xs al) (hG : ∀ b, G b → b ∉ v.ownBlock.toList ∧ b < hL.size ∧ h0.size ≤ b ∧ ¬ D b) (hG' : ∀ b, G' b → b ∉ v.ownBlock.toList ∧ b < h7.size ∧ h0.size ≤ b ∧ ¬ D b)
    (hD : Low D h7) (K0 : h0.size ≤ h7.size) (KL : Keep [] hL h7) (O8 : Own h8 base e sz v8 m (xs ++ c)) (K8 : Keep v.ownBlock.toList h7 h8) (F8 : v8.ownBlock = v.ownBlock ∨ v8.ownBlock = some h7.size)
    (hc : c.length = sz) (hr : R G' h7 c x) : OutD D h0 h8 base e sz R v8 m (al ++ [x]) := by
  have hz := KL.1
  have hF7 : ∀ b, G b ∨ G' b → b ∉ v.ownBlock.toList ∧ b < h7.size ∧ h0.size ≤ b ∧ ¬ D b := by
    intro b hb
    rcases hb with hb | hb
    · have := hG b hb
      exact ⟨this.1, by omega, this.2.2⟩
    · exact hG' b hb
  have S8 : Stab (fun b => G b ∨ G' b) h7 h8 := fun b hb => K8.2 b (hF7 b hb).2.1 (hF7 b hb).1
  refine ⟨xs ++ c, fun b => G b ∨ G' b, O8, fun y hy => ?_, RowsR.snoc (hrow.mono fun c a hr => ?_) hc ?_, fun b hb => ⟨?_, ?_, (hF7 b hb).2.2⟩⟩
  · rcases F8 with e8 | e8
    · rw [e8] at hy; exact hO y hy
    · rw [e8] at hy; simp at hy; subst hy; exact fun hd => by have := hD _ hd; omega
  · exact hst.stab _ _ _ _ _ S8 (hst.mono _ _ _ _ _ (fun b hb => .inl hb) (hst.stab _ _ _ _ _ (KL.stab fun b hb => ⟨(hG b hb).2.1, by simp⟩) hr))
  · exact hst.stab _ _ _ _ _ S8 (hst.mono _ _ _ _ _ (fun b hb => .inr hb) hr)
  · have := hF7 b hb
    rcases F8 with e8 | e8
    · rw [e8]; exact this.1
    · rw [e8]; simp; omega
  · have := (hF7 b hb).2.1; have := K8.1; omega
theorem covS_mem {V : List SpanD} {u : ByteArray} {t : SpanD} (h : covS V u = some t) : t ∈ V := by
  have key : ∀ (l : List SpanD) (a : Option SpanD), l.foldl (fun a s => if inS u s then some s else a) a = some t → a = some t ∨ t ∈ l := by
    intro l
    induction l with
    | nil => intro a h; exact .inl h
    | cons s l ih =>
      intro a h
      rw [List.foldl_cons] at h
      rcases ih _ h with e | e
      · by_cases hs : inS u s = true
        · rw [if_pos hs] at e; cases e; exact .inr (by simp)
        · rw [if_neg hs] at e; exact .inl e
      · exact .inr (by simp [e])
  rcases key V none h with e | e
  · cases e
  · exact e
theorem covP_mem {X : IC} {p : PP} {t : SpanD} (h : covP X p = some t) : t ∈ X.V := by
  cases p <;> first | exact covS_mem h | cases h
theorem spret_form {A : Nat → Prop} {X : IC} {h : Heap} {p : PP} {r : Value} (H : SpRet A X h p r) : ∃ ps, r = .pointer ps ∧ (ps.isSome = false → covP X p = none) ∧
    (ps.isSome = true → ∃ t, covP X p = some t ∧ ∃ b o sv ev kv, ps = some ⟨b, o, none⟩ ∧ (A b ∨ b = X.ib) ∧ CellsAt h b o [sv, ev, kv, .int .i8 0] ∧ RBytes A h sv t.s ∧ RBytes A h ev t.e ∧ PKeys A h kv t.ks) := by
  unfold SpRet at H
  cases hc : covP X p with
  | none => rw [hc] at H; exact ⟨none, H, fun _ => rfl, fun h => by cases h⟩
  | some t =>
    rw [hc] at H
    obtain ⟨b, o, sv, ev, kv, rfl, h1⟩ := H
    exact ⟨_, rfl, fun h => (by cases h), fun _ => ⟨t, rfl, b, o, sv, ev, kv, rfl, h1⟩⟩
theorem an_none {X : IC} {p : PP} (h : covP X p = none) : a0C (entP X.P.es X.V p) = a1C (ansM X.P.es X.V (some p)) (.slice none 0 0) ∧ (ansM X.P.es X.V (some p)).sp.ks = [] := by
  rw [covP_ent] at h
  rw [ansM_ent]
  cases he : entP X.P.es X.V p with
  | none => exact ⟨rfl, rfl⟩
  | some x =>
    obtain ⟨e, mk⟩ := x
    rw [he] at h
    have h9 : covS X.V e.user = none := h
    simp only [ptAns, h9]
    exact ⟨rfl, rfl⟩
theorem an_some {X : IC} {p : PP} {t : SpanD} (h : covP X p = some t) : ∃ e mk, entP X.P.es X.V p = some (e, mk) ∧ ansM X.P.es X.V (some p) = ⟨true, true, mk, e, true, t⟩ := by
  rw [covP_ent] at h
  rw [ansM_ent]
  cases he : entP X.P.es X.V p with
  | none => rw [he] at h; cases h
  | some x =>
    obtain ⟨e, mk⟩ := x
    rw [he] at h
    have h9 : covS X.V e.user = some t := h
    refine ⟨e, mk, rfl, ?_⟩
    simp only [ptAns, h9]; rfl
theorem c_walkPoints {χ : Chi} {h : Heap} {A : Nat → Prop} (hA : Low A h) {X : IC} (SV : SaveOK χ A X) (hseq : SeqLow X.P.es) {F0 : Nat → Prop} (hI0 : PI A X .nowhere F0 h)
    (hAF : ∀ b, A b → ¬ F0 b) {sv : Value} {steps : List StepD} (hS : RSteps A h sv steps) (hsn : steps.length ≤ 1000) (hz : ∀ s, s ∈ steps → s.key.size ≤ 2147483647) (hko0 : ∀ s, s ∈ steps → KeyOK X s) :
    Cl Tryz.prog χ 60 #[X.p, sv] h (fun r h' => RPAnss (Up N0 h h') h' r (walkK X.P.es X.V X.mk' .nowhere steps) ∧ KeepP F0 h h') := by
  obtain ⟨hlen, a, c, rfl, hx⟩ := hS.form
  refine cl_intro Tryz.func60 rfl rfl rfl ?_
  have K : Keep [] h h := Keep.refl _ _
  refine rG <| rA rfl rfl <| rN <| rG <| rA rfl rfl <| rN <| rG <| rA rfl rfl <| rA rfl rfl <| rN <| tr_seq <| rG <| rM rfl rfl <| rs_v (v_len u_sl_impl_Step rfl) rfl ?_
  refine rM rfl rfl <| rN <| tr_block ?_
  refine tr_loop (fun m E h' => ∃ k v n ok last F, k ≤ steps.length ∧ m = steps.length - k ∧ E = [(0, X.p), (5, v), (6, .bool ok), (7, .int .u8 last), (14, .slice a steps.length c), (15, .int .i64 (steps.length : Int)), (16, .int .i64 (k : Int))] ∧ PI A X (endK (X.P.es.map EntD.user) X.V X.mk' .nowhere (steps.take k)) F h' ∧ (∀ b, F b → F0 b ∨ h.size ≤ b) ∧ KeepP F0 h h' ∧ n = (walkK X.P.es X.V X.mk' .nowhere (steps.take k)).length ∧ OutD F h h' h.size 52 10 cPAns v n (walkK X.P.es X.V X.mk' .nowhere (steps.take k)) ∧ okK (endK (X.P.es.map EntD.user) X.V X.mk' .nowhere (steps.take k)) ok last) steps.length [(0, _), (5, _), (6, _), (7, _), (14, _), (15, _), (16, _)] ⟨rfl, rfl, rfl, rfl, rfl, rfl, rfl, trivial⟩ ⟨0, _, 0, false, 0, F0, Nat.zero_le _, rfl, rfl, hI0, fun b hb => .inl hb, KeepP.refl _ _, rfl, OutD.nil _ _ _ _ _ _ _, .inr ⟨rfl, .inr (.inr ⟨rfl, .inl rfl⟩)⟩⟩ ?_
  rintro m E hL1 ⟨k, v, n, ok, last, F, hk, rfl, rfl, hI, hFF, KP, hn, hout, hok⟩
  have K := Keep.refl [] hL1
  have hout0 := hout
  have hlow := hI.low
  have hz0 := KP.1
  obtain ⟨xs, G, O, hOD, hrow, hG⟩ := hout
  have hob := own_ne O
  refine rG <| rs_v (v_lt rfl rfl) rfl <| rN <| tr_seq ?_
  refine tr_ifn rfl (fun hif => ?_) (fun hif => ?_)
  · -- no
    simp only [dT, dF] at hif
    have hkk : k = steps.length := by omega
    subst hkk
    refine tr_exit <| q_thn_exit <| q_lp_exit <| q_blk_hit <| q_thn <| rG <| rM rfl rfl <| rA rfl rfl <| rN <| tr_ret <| q_ret (res_tmp rfl rfl) ?_
    rw [List.take_length] at hout0 hn
    exact ⟨hout0.fin cPAns_st hn (Nat.le_refl _) cPAns_r, KP⟩
  -- yes
  simp only [dT, dF] at hif
  rcases hx with rfl | ⟨b, o, rfl, hAb, hR⟩
  · simp at hif; omega
  obtain ⟨s, hsk⟩ := ex_get (L := steps) (k := k) (by omega)
  have hkl : k < steps.length := (List.getElem?_eq_some_iff.1 hsk).1
  have hcells : CellsAt hL1 b (o + k * 2) s.cells := (KP.stab hA hAF).cells hAb (hR k s hsk)
  have hkz := hz s (List.mem_of_getElem? hsk)
  have hko := hko0 s (List.mem_of_getElem? hsk)
  have hnk : n = k := by rw [hn, walkK_len, List.length_take]; omega
  generalize hp : endK (X.P.es.map EntD.user) X.V X.mk' .nowhere (steps.take k) = p at *
  refine tr_skip <| q_thn <| tr_seq <| tr_block <| rG <| rs_v (v_indexAddrN u_sl_impl_Step siz_impl_Step rfl rfl (by omega)) rfl ?_
  refine rs_v (v_loadAgg (vs := [_, _]) many_impl_Step rfl (by first | exact B2.cell _ rfl | exact B9.cell _ rfl | exact K.cells (by simpa using hkn) hkc | exact hsc | exact hcells | exact B10.sub 0 10 rfl)) rfl ?_
  refine rs_w (w_new zero_impl_Step) rfl ?_
  rintro _ h2 ⟨rfl, B2, K2, Z2⟩
  have S2 := K.1; have K := K.new0 K2
  refine rs_w0 (w_put siz_impl_Step rfl rfl rfl rfl B2 rfl) ?_
  rintro _ h3 ⟨B3, K3⟩
  have B2 := B3; have K := K.new1 K3 (by first | (right; omega) | (left; simp; done)); have Z3 := K3.1
  refine rN <| tr_seq <| rG <| rF fa_impl_Step_0 rfl rfl <| rs_v (v_load one_uint8 rfl (by first | exact B2.cell _ rfl | exact B9.cell _ rfl | exact K.cells (by simpa using hkn) hkc | exact hsc | exact hcells | exact B10.sub 0 10 rfl)) rfl ?_
  refine rM rfl rfl <| rM rfl rfl <| rs_w (w_call (vs := [_, _, _]) ok_impl_taken rfl ⟨rfl, rfl, rfl, trivial⟩ (c_takenK χ _ X.P.us X.V X.mk' p s ok last hok)) rfl ?_
  rintro _ h4 ⟨rfl, hsame⟩; have hsame := hsame.symm; subst hsame
  refine rs_v (v_not rfl) rfl <| rN ?_
  refine tr_if rfl (fun hif => ?_) (fun hif => ?_)
  · -- yes
    have hst : stepK X.P.us X.V X.mk' p s = none := by simpa using hif
    refine rG <| rM rfl rfl <| rs_v (v_build0 (bld_impl_PointAnswer_)) rfl ?_
    refine rs_w (w_new1 u_sl_impl_PointAnswer siz_impl_PointAnswer zero_impl_PointAnswer rfl rfl rfl rfl rfl) rfl ?_
    rintro _ h5 ⟨rfl, B5, K5, Z5⟩
    have B2 := K5.blk (by simp) B2
    have S5 := K.1; have K := K.new0 K5
    refine rs_w (w_app1 u_sl_impl_PointAnswer info_impl_PointAnswer rfl rfl rfl (O.keep2 K (fun x hm => by simp)) rfl rfl B5 rfl (by omega) (by omega) (by omega)) rfl ?_
    rintro v6 h6 ⟨O6, K6, N6, F6⟩
    have KL := K; have Ka := K6; have Oa := O6; have Fa := F6; have Z6 := K6.1
    refine rA rfl rfl <| rN <| tr_exit <| q_thn_exit <| q_blk_hit <| q_thn <| tr_reg <| rs_v (v_add rfl rfl (by omega) (by omega)) rfl ?_
    refine rM rfl rfl <| rs_nil ?_
    refine q_lp (steps.length - (k + 1)) [(0, _), (5, _), (6, _), (7, _), (14, _), (15, _), (16, _)] (by omega) ⟨rfl, rfl, rfl, rfl, rfl, rfl, rfl, trivial⟩ ⟨k + 1, _, n + 1, _, _, F, by omega, rfl, rfl, ?_, hFF, ?_, ?_, ?_, ?_⟩
    · rw [take_snoc' hsk, endK_snoc, hp, show stepK (X.P.es.map EntD.user) X.V X.mk' p s = none from hst]; exact (hI.stab (KL.kp0 (F := fun _ => False)) (fun b hb => hb.elim)).stab (Ka.kp (F := fun x => x ∈ v.ownBlock.toList) (fun x hx => hx)) (fun x hx => ⟨hOD x hx, fun ha => by have := hA x ha; have := (hob x hx).1; omega⟩)
    · exact (KP.trans (KL.kp0 (F := fun _ => False)) (by simp)).trans (Ka.kp (F := fun x => h.size ≤ x) (fun x hx => (hob x hx).1)) (fun x hx => .inr hx)
    · rw [take_snoc' hsk, walkK_snoc, List.length_append, ← hn]; rfl
    · rw [take_snoc' hsk, walkK_snoc, hp, show stepK (X.P.es.map EntD.user) X.V X.mk' p s = none from hst]
      exact OutD.snoc cPAns_st (fun x hx => ⟨(hob x hx).1, by have := (hob x hx).2; omega⟩) hOD hrow hG hlow (by omega) KL Oa Ka Fa rfl (⟨_, rfl, SlR.nil _ _ _ _⟩)
    · rw [take_snoc' hsk, endK_snoc, hp, show stepK (X.P.es.map EntD.user) X.V X.mk' p s = none from hst]; exact hok
  -- no
  have hst : ∃ pn, stepK X.P.us X.V X.mk' p s = some pn := by
    cases hs : stepK X.P.us X.V X.mk' p s with
    | none => rw [hs] at hif; simp at hif
    | some pn => exact ⟨pn, rfl⟩
  obtain ⟨pn, hst⟩ := hst
  refine tr_skip <| q_thn <| rG <| rs_v (v_build1 rfl (bld_impl_PointAnswer_0 _)) rfl ?_
  refine rs_w (w_new zero_impl_PointAnswer) rfl ?_
  rintro _ h7 ⟨rfl, B7, K7, Z7⟩
  have B2 := K7.blk (by simp) B2
  have S7 := K.1; have K := K.new0 K7
  refine rs_w0 (w_put siz_impl_PointAnswer rfl rfl rfl rfl B7 rfl) ?_
  rintro _ h8 ⟨B8, K8⟩
  have B2 := K8.blk (by simp; omega) B2
  have B7 := B8; have K := K.new1 K8 (by first | (right; omega) | (left; simp; done)); have Z8 := K8.1
  refine rN <| rG <| rA rfl rfl <| rN <| rG <| rs_w (w_new zero_base_LazyValue) rfl ?_
  rintro _ h9 ⟨rfl, B9, K9, Z9⟩
  have B2 := K9.blk (by simp) B2
  have B7 := K9.blk (by simp) B7
  have S9 := K.1; have K := K.new0 K9
  refine rN ?_
  refine tr_cut (fun E h' => ∃ F' pa vv b10 b12, E = [(0, X.p), (5, v), (9, .pointer (some ⟨hL1.size, 0, none⟩)), (10, .pointer (some ⟨b10, 0, none⟩)), (12, .pointer (some ⟨b12, 0, none⟩)), (14, .slice (some ⟨b, o, none⟩) steps.length c), (15, .int .i64 (steps.length : Int)), (16, .int .i64 (k : Int)), (11, .pointer pa)] ∧ (hL1.size < b10 ∧ b10 < b12 ∧ b12 < h'.size) ∧ PI A X pn F' h' ∧ (∀ b, F' b → F b ∨ (hL1.size ≤ b ∧ b ≠ hL1.size ∧ b ≠ b10 ∧ b ≠ b12)) ∧ KeepP F hL1 h' ∧ OutD (fun b => F' b ∨ b = b10) h h' h.size 52 10 cPAns v n (walkK X.P.es X.V X.mk' .nowhere (steps.take k)) ∧ Rk A F' h' (entP X.P.es X.V pn) pa vv ∧ Blk h' hL1.size s.cells 90 ∧ Blk h' b10 [.bool true, .bool false, .bool false, .string ByteArray.empty, .int .u64 0, .string ByteArray.empty, .bool false, .string ByteArray.empty, .string ByteArray.empty, .slice none 0 0] 52 ∧ Blk h' b12 [vv, .pointer none] 111) ?_ ?_
  ·
    refine rG <| rF fa_impl_Step_0 rfl rfl <| rs_v (v_load one_uint8 rfl (by first | exact B2.cell _ rfl | exact B9.cell _ rfl | exact K.cells (by simpa using hkn) hkc | exact hsc | exact hcells | exact B10.sub 0 10 rfl)) rfl ?_
    refine rN <| tr_block <| rG <| rs_v (v_eq rfl rfl) rfl <| rA rfl rfl <| rN ?_
    refine tr_if rfl (fun hif => ?_) (fun hif => ?_)
    · -- yes
      simp only [dT, dF] at hif
      have hpn : pn = kFirst X.mk' X.N := by
        have h9 := hst; simp only [stepK, hif] at h9; exact (Option.some.inj h9).symm
      refine tr_reg <| rM rfl rfl <| rs_w (w_call (vs := [_]) ok_keyspan_InterleavingIter_First rfl ⟨rfl, trivial⟩ (pi_First SV (hko.first hif) (hI.stab (K.kp0 (F := fun _ => False)) (fun b hb => hb.elim)))) rfl ?_
      rintro _ h10 ⟨F', hI', hF', KPm, hret⟩
      rw [← hpn] at hI' hret
      obtain ⟨_, _, _, _, _, _, _, _, _, _, hM0, hR0, _⟩ := id hI'
      have hpin : ∀ k, pn = .pt k → k < X.N := fun k e => by rw [e] at hR0; exact hR0.1
      obtain ⟨pa, vv, rfl, hv1, hrk⟩ := retk_form hM0.s hseq hpin hret
      have hzm := KPm.1
      have hnF : ∀ x, hL1.size ≤ x → x < h9.size → ¬ F' x := fun x h1 h2 hf => by
        rcases hF' x hf with e | e
        · have := hlow x e; omega
        · omega
      have hnFF : ∀ x, hL1.size ≤ x → ¬ F x := fun x h1 hf => by have := hlow x hf; omega
      have B2 := KPm.blk (hnFF _ (Nat.le_refl _)) B2; have B7 := KPm.blk (hnFF _ (by omega)) B7; have B9 := KPm.blk (hnFF _ (by omega)) B9
      have Kp := K
      have K := Keep.refl [h8.size] h10
      refine rM rfl rfl <| rs_v (v_extract rfl rfl) rfl <| rs_v (v_extract rfl rfl) rfl <| rA rfl rfl <| rs_w0 (w_put siz_base_LazyValue rfl rfl rfl (one2 hv1) B9 rfl) ?_
      rintro _ h11 ⟨B11, K11⟩
      have B2 := K11.blk (by simp; omega) B2
      have B7 := K11.blk (by simp; omega) B7
      have B9 := B11; have K := K.new1 K11 (by first | (right; omega) | (left; simp; done)); have Z11 := K11.1
      refine rs_nil <| q_blk_n ?_
      refine q_cut [(0, _), (5, _), (9, _), (10, _), (12, _), (14, _), (15, _), (16, _), (11, _)] ⟨rfl, rfl, rfl, rfl, rfl, rfl, rfl, rfl, rfl, trivial⟩ ⟨F', pa, vv, h3.size, h8.size, rfl, ⟨by omega, by omega, by have := K.1; omega⟩, hI'.stab (K.kp (F := fun x => x = h8.size) (by simp)) (fun b hb => by subst hb; exact ⟨hnF _ (by omega) (by omega), fun ha => by have := hA _ ha; omega⟩), ?_, ?_, out_call cPAns_st hout0 Kp KPm hF' K (by omega) (by omega), ?_, B2, B7, B9⟩
      · intro b hb
        rcases hF' b hb with e | e
        · exact .inl e
        · exact .inr ⟨by omega, by omega, by omega, by omega⟩
      · exact (((Kp.kp0 (F := F)).trans KPm (fun x hx => .inl hx)).trans (K.kp (F := fun x => x = h8.size) (by simp)) (fun x hx => .inr (by subst hx; omega)))
      · refine hrk.stab (K.stab fun b hb => ⟨?_, ?_⟩)
        · exact hb.elim (fun ha => by have := hA b ha; omega) (fun hf => hI'.low b hf)
        · intro hm
          have e : b = h8.size := by simpa using hm
          subst e
          exact hb.elim (fun ha => by have := hA _ ha; omega) (fun hf => hnF _ (by omega) (by omega) hf)
    -- no
    simp only [dT, dF] at hif
    have hno0 := hif
    refine rG <| rs_v (v_eq rfl rfl) rfl <| rA rfl rfl <| rN ?_
    refine tr_if rfl (fun hif => ?_) (fun hif => ?_)
    · -- yes
      simp only [dT, dF] at hif
      have hpn : pn = kLast X.mk' X.N := by
        have h9 := hst; simp only [stepK, hif] at h9; exact (Option.some.inj h9).symm
      refine tr_reg <| rM rfl rfl <| rs_w (w_call (vs := [_]) ok_keyspan_InterleavingIter_Last rfl ⟨rfl, trivial⟩ (pi_Last SV (hko.last hif) (hI.stab (K.kp0 (F := fun _ => False)) (fun b hb => hb.elim)))) rfl ?_
      rintro _ h12 ⟨F', hI', hF', KPm, hret⟩
      rw [← hpn] at hI' hret
      obtain ⟨_, _, _, _, _, _, _, _, _, _, hM0, hR0, _⟩ := id hI'
      have hpin : ∀ k, pn = .pt k → k < X.N := fun k e => by rw [e] at hR0; exact hR0.1
      obtain ⟨pa, vv, rfl, hv1, hrk⟩ := retk_form hM0.s hseq hpin hret
      have hzm := KPm.1
      have hnF : ∀ x, hL1.size ≤ x → x < h9.size → ¬ F' x := fun x h1 h2 hf => by
        rcases hF' x hf with e | e
        · have := hlow x e; omega
        · omega
      have hnFF : ∀ x, hL1.size ≤ x → ¬ F x := fun x h1 hf => by have := hlow x hf; omega
      have B2 := KPm.blk (hnFF _ (Nat.le_refl _)) B2; have B7 := KPm.blk (hnFF _ (by omega)) B7; have B9 := KPm.blk (hnFF _ (by omega)) B9
      have Kp := K
      have K := Keep.refl [h8.size] h12
      refine rM rfl rfl <| rs_v (v_extract rfl rfl) rfl <| rs_v (v_extract rfl rfl) rfl <| rA rfl rfl <| rs_w0 (w_put siz_base_LazyValue rfl rfl rfl (one2 hv1) B9 rfl) ?_
      rintro _ h13 ⟨B13, K13⟩
      have B2 := K13.blk (by simp; omega) B2
      have B7 := K13.blk (by simp; omega) B7
      have B9 := B13; have K := K.new1 K13 (by first | (right; omega) | (left; simp; done)); have Z13 := K13.1
      refine rs_nil <| q_blk_n ?_
      refine q_cut [(0, _), (5, _), (9, _), (10, _), (12, _), (14, _), (15, _), (16, _), (11, _)] ⟨rfl, rfl, rfl, rfl, rfl, rfl, rfl, rfl, rfl, trivial⟩ ⟨F', pa, vv, h3.size, h8.size, rfl, ⟨by omega, by omega, by have := K.1; omega⟩, hI'.stab (K.kp (F := fun x => x = h8.size) (by simp)) (fun b hb => by subst hb; exact ⟨hnF _ (by omega) (by omega), fun ha => by have := hA _ ha; omega⟩), ?_, ?_, out_call cPAns_st hout0 Kp KPm hF' K (by omega) (by omega), ?_, B2, B7, B9⟩
      · intro b hb
        rcases hF' b hb with e | e
        · exact .inl e
        · exact .inr ⟨by omega, by omega, by omega, by omega⟩
      · exact (((Kp.kp0 (F := F)).trans KPm (fun x hx => .inl hx)).trans (K.kp (F := fun x => x = h8.size) (by simp)) (fun x hx => .inr (by subst hx; omega)))
      · refine hrk.stab (K.stab fun b hb => ⟨?_, ?_⟩)
        · exact hb.elim (fun ha => by have := hA b ha; omega) (fun hf => hI'.low b hf)
        · intro hm
          have e : b = h8.size := by simpa using hm
          subst e
          exact hb.elim (fun ha => by have := hA _ ha; omega) (fun hf => hnF _ (by omega) (by omega) hf)
    -- no
    simp only [dT, dF] at hif
    have hno1 := hif
    refine rG <| rs_v (v_eq rfl rfl) rfl <| rA rfl rfl <| rN ?_
    refine tr_if rfl (fun hif => ?_) (fun hif => ?_)
    · -- yes
      simp only [dT, dF] at hif
      have hpn : kNext X.mk' X.N p = some pn := by
        have h9 := hst; simp only [stepK, hif] at h9; exact h9
      refine tr_reg <| rM rfl rfl <| rs_w (w_call (vs := [_]) ok_keyspan_InterleavingIter_Next rfl ⟨rfl, trivial⟩ (pi_Next SV (hI.stab (K.kp0 (F := fun _ => False)) (fun b hb => hb.elim)) hpn)) rfl ?_
      rintro _ h14 ⟨F', hI', hF', KPm, hret⟩
      obtain ⟨_, _, _, _, _, _, _, _, _, _, hM0, hR0, _⟩ := id hI'
      have hpin : ∀ k, pn = .pt k → k < X.N := fun k e => by rw [e] at hR0; exact hR0.1
      obtain ⟨pa, vv, rfl, hv1, hrk⟩ := retk_form hM0.s hseq hpin hret
      have hzm := KPm.1
      have hnF : ∀ x, hL1.size ≤ x → x < h9.size → ¬ F' x := fun x h1 h2 hf => by
        rcases hF' x hf with e | e
        · have := hlow x e; omega
        · omega
      have hnFF : ∀ x, hL1.size ≤ x → ¬ F x := fun x h1 hf => by have := hlow x hf; omega
      have B2 := KPm.blk (hnFF _ (Nat.le_refl _)) B2; have B7 := KPm.blk (hnFF _ (by omega)) B7; have B9 := KPm.blk (hnFF _ (by omega)) B9
      have Kp := K
      have K := Keep.refl [h8.size] h14
      refine rM rfl rfl <| rs_v (v_extract rfl rfl) rfl <| rs_v (v_extract rfl rfl) rfl <| rA rfl rfl <| rs_w0 (w_put siz_base_LazyValue rfl rfl rfl (one2 hv1) B9 rfl) ?_
      rintro _ h15 ⟨B15, K15⟩
      have B2 := K15.blk (by simp; omega) B2
      have B7 := K15.blk (by simp; omega) B7
      have B9 := B15; have K := K.new1 K15 (by first | (right; omega) | (left; simp; done)); have Z15 := K15.1
      refine rs_nil <| q_blk_n ?_
      refine q_cut [(0, _), (5, _), (9, _), (10, _), (12, _), (14, _), (15, _), (16, _), (11, _)] ⟨rfl, rfl, rfl, rfl, rfl, rfl, rfl, rfl, rfl, trivial⟩ ⟨F', pa, vv, h3.size, h8.size, rfl, ⟨by omega, by omega, by have := K.1; omega⟩, hI'.stab (K.kp (F := fun x => x = h8.size) (by simp)) (fun b hb => by subst hb; exact ⟨hnF _ (by omega) (by omega), fun ha => by have := hA _ ha; omega⟩), ?_, ?_, out_call cPAns_st hout0 Kp KPm hF' K (by omega) (by omega), ?_, B2, B7, B9⟩
      · intro b hb
        rcases hF' b hb with e | e
        · exact .inl e
        · exact .inr ⟨by omega, by omega, by omega, by omega⟩
      · exact (((Kp.kp0 (F := F)).trans KPm (fun x hx => .inl hx)).trans (K.kp (F := fun x => x = h8.size) (by simp)) (fun x hx => .inr (by subst hx; omega)))
      · refine hrk.stab (K.stab fun b hb => ⟨?_, ?_⟩)
        · exact hb.elim (fun ha => by have := hA b ha; omega) (fun hf => hI'.low b hf)
        · intro hm
          have e : b = h8.size := by simpa using hm
          subst e
          exact hb.elim (fun ha => by have := hA _ ha; omega) (fun hf => hnF _ (by omega) (by omega) hf)
    -- no
    simp only [dT, dF] at hif
    have hno2 := hif
    refine rG <| rs_v (v_eq rfl rfl) rfl <| rA rfl rfl <| rN ?_
    refine tr_if rfl (fun hif => ?_) (fun hif => ?_)
    · -- yes
      simp only [dT, dF] at hif
      have hpn : kPrev X.mk' X.N p = some pn := by
        have h9 := hst; simp only [stepK, hif] at h9; exact h9
      refine tr_reg <| rM rfl rfl <| rs_w (w_call (vs := [_]) ok_keyspan_InterleavingIter_Prev rfl ⟨rfl, trivial⟩ (pi_Prev SV (hI.stab (K.kp0 (F := fun _ => False)) (fun b hb => hb.elim)) hpn)) rfl ?_
      rintro _ h16 ⟨F', hI', hF', KPm, hret⟩
      obtain ⟨_, _, _, _, _, _, _, _, _, _, hM0, hR0, _⟩ := id hI'
      have hpin : ∀ k, pn = .pt k → k < X.N := fun k e => by rw [e] at hR0; exact hR0.1
      obtain ⟨pa, vv, rfl, hv1, hrk⟩ := retk_form hM0.s hseq hpin hret
      have hzm := KPm.1
      have hnF : ∀ x, hL1.size ≤ x → x < h9.size → ¬ F' x := fun x h1 h2 hf => by
        rcases hF' x hf with e | e
        · have := hlow x e; omega
        · omega
      have hnFF : ∀ x, hL1.size ≤ x → ¬ F x := fun x h1 hf => by have := hlow x hf; omega
      have B2 := KPm.blk (hnFF _ (Nat.le_refl _)) B2; have B7 := KPm.blk (hnFF _ (by omega)) B7; have B9 := KPm.blk (hnFF _ (by omega)) B9
      have Kp := K
      have K := Keep.refl [h8.size] h16
      refine rM rfl rfl <| rs_v (v_extract rfl rfl) rfl <| rs_v (v_extract rfl rfl) rfl <| rA rfl rfl <| rs_w0 (w_put siz_base_LazyValue rfl rfl rfl (one2 hv1) B9 rfl) ?_
      rintro _ h17 ⟨B17, K17⟩
      have B2 := K17.blk (by simp; omega) B2
      have B7 := K17.blk (by simp; omega) B7
      have B9 := B17; have K := K.new1 K17 (by first | (right; omega) | (left; simp; done)); have Z17 := K17.1
      refine rs_nil <| q_blk_n ?_
      refine q_cut [(0, _), (5, _), (9, _), (10, _), (12, _), (14, _), (15, _), (16, _), (11, _)] ⟨rfl, rfl, rfl, rfl, rfl, rfl, rfl, rfl, rfl, trivial⟩ ⟨F', pa, vv, h3.size, h8.size, rfl, ⟨by omega, by omega, by have := K.1; omega⟩, hI'.stab (K.kp (F := fun x => x = h8.size) (by simp)) (fun b hb => by subst hb; exact ⟨hnF _ (by omega) (by omega), fun ha => by have := hA _ ha; omega⟩), ?_, ?_, out_call cPAns_st hout0 Kp KPm hF' K (by omega) (by omega), ?_, B2, B7, B9⟩
      · intro b hb
        rcases hF' b hb with e | e
        · exact .inl e
        · exact .inr ⟨by omega, by omega, by omega, by omega⟩
      · exact (((Kp.kp0 (F := F)).trans KPm (fun x hx => .inl hx)).trans (K.kp (F := fun x => x = h8.size) (by simp)) (fun x hx => .inr (by subst hx; omega)))
      · refine hrk.stab (K.stab fun b hb => ⟨?_, ?_⟩)
        · exact hb.elim (fun ha => by have := hA b ha; omega) (fun hf => hI'.low b hf)
        · intro hm
          have e : b = h8.size := by simpa using hm
          subst e
          exact hb.elim (fun ha => by have := hA _ ha; omega) (fun hf => hnF _ (by omega) (by omega) hf)
    -- no
    simp only [dT, dF] at hif
    have hno3 := hif
    refine rG <| rs_v (v_eq rfl rfl) rfl <| rA rfl rfl <| rN ?_
    refine tr_if rfl (fun hif => ?_) (fun hif => ?_)
    · -- yes
      simp only [dT, dF] at hif
      have hpn : pn = kGE X.mk' X.P.us X.V s.key := by
        have h9 := hst; simp only [stepK, hif] at h9; exact (Option.some.inj h9).symm
      refine tr_reg <| rM rfl rfl <| rF fa_impl_Step_1 rfl rfl <| rs_v (v_load one_string rfl (by first | exact B2.cell _ rfl | exact B9.cell _ rfl | exact K.cells (by simpa using hkn) hkc | exact hsc | exact hcells | exact B10.sub 0 10 rfl)) rfl ?_
      refine rs_w (w_bytes u_string u_sl_uint8 u_uint8 rfl (by omega)) rfl ?_
      rintro _ h18 ⟨c18, rfl, K18, hbk⟩
      have Kv := K18
      have B2 := K18.blk (by simp) B2
      have B7 := K18.blk (by simp) B7
      have B9 := K18.blk (by simp) B9
      have K := K.new0 K18; have Z18 := K18.1
      refine rs_w (w_call (vs := [_, _, _]) ok_keyspan_InterleavingIter_SeekGE rfl ⟨rfl, rfl, rfl, trivial⟩ (pi_SeekGE SV (hko.ge hif).1 (by rw [Array.length_toList]; have : s.key.data.size = s.key.size := rfl; omega) (hko.ge hif).2 (hI.stab (K.kp0 (F := fun _ => False)) (fun b hb => hb.elim)) (hbk.mono (fun b hb hf => by have := hlow b hf; omega)))) rfl ?_
      rintro _ h19 ⟨F', hI', hF', KPm, hret⟩
      rw [← hpn] at hI' hret
      obtain ⟨_, _, _, _, _, _, _, _, _, _, hM0, hR0, _⟩ := id hI'
      have hpin : ∀ k, pn = .pt k → k < X.N := fun k e => by rw [e] at hR0; exact hR0.1
      obtain ⟨pa, vv, rfl, hv1, hrk⟩ := retk_form hM0.s hseq hpin hret
      have hzm := KPm.1
      have hnF : ∀ x, hL1.size ≤ x → x < h18.size → ¬ F' x := fun x h1 h2 hf => by
        rcases hF' x hf with e | e
        · have := hlow x e; omega
        · omega
      have hnFF : ∀ x, hL1.size ≤ x → ¬ F x := fun x h1 hf => by have := hlow x hf; omega
      have B2 := KPm.blk (hnFF _ (Nat.le_refl _)) B2; have B7 := KPm.blk (hnFF _ (by omega)) B7; have B9 := KPm.blk (hnFF _ (by omega)) B9
      have Kp := K
      have K := Keep.refl [h8.size] h19
      refine rM rfl rfl <| rs_v (v_extract rfl rfl) rfl <| rs_v (v_extract rfl rfl) rfl <| rA rfl rfl <| rs_w0 (w_put siz_base_LazyValue rfl rfl rfl (one2 hv1) B9 rfl) ?_
      rintro _ h20 ⟨B20, K20⟩
      have B2 := K20.blk (by simp; omega) B2
      have B7 := K20.blk (by simp; omega) B7
      have B9 := B20; have K := K.new1 K20 (by first | (right; omega) | (left; simp; done)); have Z20 := K20.1
      refine rs_nil <| q_blk_n ?_
      refine q_cut [(0, _), (5, _), (9, _), (10, _), (12, _), (14, _), (15, _), (16, _), (11, _)] ⟨rfl, rfl, rfl, rfl, rfl, rfl, rfl, rfl, rfl, trivial⟩ ⟨F', pa, vv, h3.size, h8.size, rfl, ⟨by omega, by omega, by have := K.1; omega⟩, hI'.stab (K.kp (F := fun x => x = h8.size) (by simp)) (fun b hb => by subst hb; exact ⟨hnF _ (by omega) (by omega), fun ha => by have := hA _ ha; omega⟩), ?_, ?_, out_call cPAns_st hout0 Kp KPm hF' K (by omega) (by omega), ?_, B2, B7, B9⟩
      · intro b hb
        rcases hF' b hb with e | e
        · exact .inl e
        · exact .inr ⟨by omega, by omega, by omega, by omega⟩
      · exact (((Kp.kp0 (F := F)).trans KPm (fun x hx => .inl hx)).trans (K.kp (F := fun x => x = h8.size) (by simp)) (fun x hx => .inr (by subst hx; omega)))
      · refine hrk.stab (K.stab fun b hb => ⟨?_, ?_⟩)
        · exact hb.elim (fun ha => by have := hA b ha; omega) (fun hf => hI'.low b hf)
        · intro hm
          have e : b = h8.size := by simpa using hm
          subst e
          exact hb.elim (fun ha => by have := hA _ ha; omega) (fun hf => hnF _ (by omega) (by omega) hf)
    -- no
    simp only [dT, dF] at hif
    have hno4 := hif
    refine rG <| rs_v (v_eq rfl rfl) rfl <| rA rfl rfl <| rN ?_
    refine tr_if rfl (fun hif => ?_) (fun hif => ?_)
    · -- yes
      simp only [dT, dF] at hif
      have hpn : pn = kLT X.mk' X.P.us X.V s.key := by
        have h9 := hst; simp only [stepK, hif] at h9; exact (Option.some.inj h9).symm
      refine tr_reg <| rM rfl rfl <| rF fa_impl_Step_1 rfl rfl <| rs_v (v_load one_string rfl (by first | exact B2.cell _ rfl | exact B9.cell _ rfl | exact K.cells (by simpa using hkn) hkc | exact hsc | exact hcells | exact B10.sub 0 10 rfl)) rfl ?_
      refine rs_w (w_bytes u_string u_sl_uint8 u_uint8 rfl (by omega)) rfl ?_
      rintro _ h21 ⟨c21, rfl, K21, hbk⟩
      have Kv := K21
      have B2 := K21.blk (by simp) B2
      have B7 := K21.blk (by simp) B7
      have B9 := K21.blk (by simp) B9
      have K := K.new0 K21; have Z21 := K21.1
      refine rs_w (w_call (vs := [_, _, _]) ok_keyspan_InterleavingIter_SeekLT rfl ⟨rfl, rfl, rfl, trivial⟩ (pi_SeekLT SV (hko.lt hif) (hI.stab (K.kp0 (F := fun _ => False)) (fun b hb => hb.elim)) (hbk.mono (fun b hb hf => by have := hlow b hf; omega)))) rfl ?_
      rintro _ h22 ⟨F', hI', hF', KPm, hret⟩
      rw [← hpn] at hI' hret
      obtain ⟨_, _, _, _, _, _, _, _, _, _, hM0, hR0, _⟩ := id hI'
      have hpin : ∀ k, pn = .pt k → k < X.N := fun k e => by rw [e] at hR0; exact hR0.1
      obtain ⟨pa, vv, rfl, hv1, hrk⟩ := retk_form hM0.s hseq hpin hret
      have hzm := KPm.1
      have hnF : ∀ x, hL1.size ≤ x → x < h21.size → ¬ F' x := fun x h1 h2 hf => by
        rcases hF' x hf with e | e
        · have := hlow x e; omega
        · omega
      have hnFF : ∀ x, hL1.size ≤ x → ¬ F x := fun x h1 hf => by have := hlow x hf; omega
      have B2 := KPm.blk (hnFF _ (Nat.le_refl _)) B2; have B7 := KPm.blk (hnFF _ (by omega)) B7; have B9 := KPm.blk (hnFF _ (by omega)) B9
      have Kp := K
      have K := Keep.refl [h8.size] h22
      refine rM rfl rfl <| rs_v (v_extract rfl rfl) rfl <| rs_v (v_extract rfl rfl) rfl <| rA rfl rfl <| rs_w0 (w_put siz_base_LazyValue rfl rfl rfl (one2 hv1) B9 rfl) ?_
      rintro _ h23 ⟨B23, K23⟩
      have B2 := K23.blk (by simp; omega) B2
      have B7 := K23.blk (by simp; omega) B7
      have B9 := B23; have K := K.new1 K23 (by first | (right; omega) | (left; simp; done)); have Z23 := K23.1
      refine rs_nil <| q_blk_n ?_
      refine q_cut [(0, _), (5, _), (9, _), (10, _), (12, _), (14, _), (15, _), (16, _), (11, _)] ⟨rfl, rfl, rfl, rfl, rfl, rfl, rfl, rfl, rfl, trivial⟩ ⟨F', pa, vv, h3.size, h8.size, rfl, ⟨by omega, by omega, by have := K.1; omega⟩, hI'.stab (K.kp (F := fun x => x = h8.size) (by simp)) (fun b hb => by subst hb; exact ⟨hnF _ (by omega) (by omega), fun ha => by have := hA _ ha; omega⟩), ?_, ?_, out_call cPAns_st hout0 Kp KPm hF' K (by omega) (by omega), ?_, B2, B7, B9⟩
      · intro b hb
        rcases hF' b hb with e | e
        · exact .inl e
        · exact .inr ⟨by omega, by omega, by omega, by omega⟩
      · exact (((Kp.kp0 (F := F)).trans KPm (fun x hx => .inl hx)).trans (K.kp (F := fun x => x = h8.size) (by simp)) (fun x hx => .inr (by subst hx; omega)))
      · refine hrk.stab (K.stab fun b hb => ⟨?_, ?_⟩)
        · exact hb.elim (fun ha => by have := hA b ha; omega) (fun hf => hI'.low b hf)
        · intro hm
          have e : b = h8.size := by simpa using hm
          subst e
          exact hb.elim (fun ha => by have := hA _ ha; omega) (fun hf => hnF _ (by omega) (by omega) hf)
    -- no
    simp only [dT, dF] at hif
    have hno5 := hif
    refine tr_skip <| q_blk_n ?_
    exact absurd hst (by simp [stepK, hno0, hno1, hno2, hno3, hno4, hno5])
  rintro E hc ⟨F', pa, vv, b10, b12, rfl, ⟨hb1, hb2, hb3⟩, hI', hF', KP', hout4, hrk, B9, B10, B12⟩
  have hcz := KP'.1
  have K := Keep.refl [b10] hc
  have hVn : ∀ t, t ∈ X.V → t.ks.length ≤ 100000 := by
    obtain ⟨_, _, _, _, _, _, _, _, _, _, hM9, _⟩ := id hI'
    exact fun t ht => (hM9.s.vk t ht).2.1
  have hobc : ∀ x, x ∈ v.ownBlock.toList → x < hc.size := by
    obtain ⟨_, _, O9, _⟩ := id hout4
    exact fun x hx => (own_ne O9 x hx).2
  have hlowc := hI'.low
  have hnF10 : ¬ F' b10 := fun hf => by
    rcases hF' _ hf with e | e
    · have := hlow _ e; omega
    · exact e.2.2.1 rfl
  have hnF12 : ¬ F' b12 := fun hf => by
    rcases hF' _ hf with e | e
    · have := hlow _ e; omega
    · exact e.2.2.2 rfl
  have hnA10 : ¬ A b10 := fun ha => by have := hA _ ha; omega
  have hzL := KP.1
  refine tr_seq ?_
  refine tr_quiet (by kernel_rfl) (by kernel_rfl) ?_
  refine rq_v (v_move rfl) <| rq_v (v_pne u_p_base_InternalKey rfl rfl) ?_
  refine rq_v (v_fieldAddr fa_impl_Step_0 rfl) <| rq_v (v_load one_uint8 rfl (by first | exact B2.cell _ rfl | exact B9.cell _ rfl | exact K.cells (by simpa using hkn) hkc | exact hsc | exact hcells | exact B10.sub 0 10 rfl)) ?_
  refine rq_v (v_assign rfl) <| rq_v (v_assign rfl) ?_
  refine rm_end ?_; simp only [endM, hypF, ofE, argE]
  refine q_thn ?_
  refine tr_cut (fun E h' => E = [(0, X.p), (5, v), (6, .bool (entB pn)), (7, .int .u8 s.op), (10, .pointer (some ⟨b10, 0, none⟩)), (14, .slice (some ⟨b, o, none⟩) steps.length c), (15, .int .i64 (steps.length : Int)), (16, .int .i64 (k : Int))] ∧ Keep [b10] hc h' ∧ Blk h' b10 (a0C (entP X.P.es X.V pn)) 52) ?_ ?_
  ·
    refine rG <| rM rfl rfl <| rs_v (v_pne u_p_base_InternalKey rfl rfl) rfl ?_
    refine rN ?_
    refine tr_if rfl (fun hif => ?_) (fun hif => ?_)
    · -- yes
      obtain ⟨e, mk, hem⟩ : ∃ e mk, entP X.P.es X.V pn = some (e, mk) := by
        cases hq : entP X.P.es X.V pn with
        | none => rw [hq] at hrk; have h9 : pa = none := hrk; rw [h9] at hif; cases hif
        | some x => exact ⟨x.1, x.2, rfl⟩
      have hrk2 := hrk
      rw [hem] at hrk2
      obtain ⟨kb, ko, ua, un, uc, T, rfl, hkb, hkc, hku, hT, hmk⟩ := hrk2
      have hku2 := hku
      have hkn : kb ≠ b10 := fun e9 => by subst e9; exact hkb.elim hnA10 hnF10
      have hkc1 := hkc
      refine rG <| rF fa_impl_PointAnswer_1 rfl rfl <| rs_w0 (w_put siz_bool rfl rfl rfl rfl B10 rfl) ?_
      rintro _ h25 ⟨B25, K25⟩
      have B9 := K25.blk (by simp; omega) B9
      have B12 := K25.blk (by simp; omega) B12
      have B10 := B25; have K := K.new1 K25 (by first | (right; omega) | (left; simp; done)); have Z25 := K25.1
      refine rN <| rG <| rM rfl rfl <| rC rfl rfl <| rs_v (v_loadAgg (vs := [_, _]) many_base_InternalKey rfl (by first | exact B2.cell _ rfl | exact B9.cell _ rfl | exact K.cells (by simpa using hkn) hkc | exact hsc | exact hcells | exact B10.sub 0 10 rfl)) rfl ?_
      refine rs_w (w_call (vs := [_]) ok_impl_entry rfl ⟨rfl, trivial⟩ (c_entry (A := fun b => A b ∨ F' b) (hku.stab (K.stab fun b hb => ⟨hb.elim (fun ha => by have := hA b ha; omega) (fun hf => hI'.low b hf), fun hm => by simp at hm; subst hm; exact hb.elim hnA10 hnF10⟩)))) rfl ?_
      rintro _ h26 ⟨rfl, K26⟩
      have B9 := K26.blk (by simp) B9; have B10 := K26.blk (by simp) B10; have B12 := K26.blk (by simp) B12
      have K := K.new0 K26; have Z26 := K26.1
      refine rF fa_impl_PointAnswer_3 rfl rfl <| rs_w0 (w_put siz_impl_Entry rfl rfl rfl rfl B10 rfl) ?_
      rintro _ h27 ⟨B27, K27⟩
      have B9 := K27.blk (by simp; omega) B9
      have B12 := K27.blk (by simp; omega) B12
      have B10 := B27; have K := K.new1 K27 (by first | (right; omega) | (left; simp; done)); have Z27 := K27.1
      refine rN <| rG <| rM rfl rfl <| rC rfl rfl <| rs_v (v_loadAgg (vs := [_, _]) many_base_InternalKey rfl (by first | exact B2.cell _ rfl | exact B9.cell _ rfl | exact K.cells (by simpa using hkn) hkc | exact hsc | exact hcells | exact B10.sub 0 10 rfl)) rfl ?_
      refine rs_w (w_call (vs := [_]) ok_base_InternalKey_SeqNum rfl ⟨rfl, trivial⟩ (c_ikSeq hT)) rfl ?_
      rintro _ h28 ⟨rfl, K28⟩
      have B9 := K28.blk (by simp) B9; have B10 := K28.blk (by simp) B10; have B12 := K28.blk (by simp) B12
      have K := K.new0 K28; have Z28 := K28.1
      refine rs_v (v_eq rfl rfl) rfl <| rN ?_
      refine tr_if rfl (fun hif => ?_) (fun hif => ?_)
      · -- yes
        have hm1 : mk = true := by
          rcases hmk with ⟨e1, _⟩ | ⟨_, e2, _⟩
          · exact e1
          · simp only [decide_eq_true_eq] at hif; omega
        have hm2 : T / 256 = 72057594037927935 ∧ e.tr = 0 ∧ e.val = .empty := by
          rcases hmk with ⟨_, e1⟩ | ⟨_, e2, _⟩
          · exact e1
          · simp only [decide_eq_true_eq] at hif; omega
        obtain ⟨_, ht0, hv0⟩ := hm2
        refine rG <| rF fa_impl_PointAnswer_2 rfl rfl <| rs_w0 (w_put siz_bool rfl rfl rfl rfl B10 rfl) ?_
        rintro _ h29 ⟨B29, K29⟩
        have B9 := K29.blk (by simp; omega) B9
        have B12 := K29.blk (by simp; omega) B12
        have B10 := B29; have K := K.new1 K29 (by first | (right; omega) | (left; simp; done)); have Z29 := K29.1
        refine rN <| tr_reg <| rF fa_impl_PointAnswer_3 rfl rfl <| rF fa_impl_Entry_1 rfl rfl <| rs_w0 (w_put siz_uint64 rfl rfl rfl rfl B10 rfl) ?_
        rintro _ h30 ⟨B30, K30⟩
        have B9 := K30.blk (by simp; omega) B9
        have B12 := K30.blk (by simp; omega) B12
        have B10 := B30; have K := K.new1 K30 (by first | (right; omega) | (left; simp; done)); have Z30 := K30.1
        refine rs_nil ?_
        refine q_cut [(0, _), (5, _), (6, _), (7, _), (10, _), (14, _), (15, _), (16, _)] ⟨rfl, rfl, rfl, rfl, rfl, rfl, rfl, rfl, trivial⟩ ⟨by rw [← ent_isSome X.P.es X.V pn, ← rk_isSome hrk], K, ?_⟩
        subst hm1
        rw [hem]
        show Blk _ b10 [.bool true, .bool true, .bool true, .string e.user, .int .u64 e.tr, .string e.val, .bool false, .string ByteArray.empty, .string ByteArray.empty, .slice none 0 0] _
        rw [ht0, hv0]; exact B10
      -- no
      have hm1 : mk = false ∧ e.tr = (T : Int) ∧ ∃ a n c, vv = .slice a n c ∧ RBytes A hc vv e.val := by
        rcases hmk with ⟨_, e1, _⟩ | ⟨e2, _, e3, e4⟩
        · simp only [decide_eq_false_iff_not] at hif; omega
        · exact ⟨e2, e3, e4⟩
      obtain ⟨rfl, ht0, va, vn, vc, rfl, hvb⟩ := hm1
      refine tr_reg <| rs_w (w_call (vs := [_]) ok_base_LazyValue_InPlaceValue rfl ⟨rfl, trivial⟩ (c_inPlace B12)) rfl ?_
      rintro _ h31 ⟨rfl, hsame⟩; have hsame := hsame.symm; subst hsame
      refine rs_v (v_toStr u_sl_uint8 u_uint8 u_string rfl (RBytes.by (hvb.stab (K.stab fun b hb => ⟨by have := hA b hb; omega, fun hm => by simp at hm; subst hm; exact hnA10 hb⟩)))) rfl ?_
      refine rF fa_impl_PointAnswer_3 rfl rfl <| rF fa_impl_Entry_2 rfl rfl <| rs_w0 (w_put siz_string rfl rfl rfl rfl B10 rfl) ?_
      rintro _ h32 ⟨B32, K32⟩
      have B9 := K32.blk (by simp; omega) B9
      have B12 := K32.blk (by simp; omega) B12
      have B10 := B32; have K := K.new1 K32 (by first | (right; omega) | (left; simp; done)); have Z32 := K32.1
      refine rs_nil ?_
      refine q_cut [(0, _), (5, _), (6, _), (7, _), (10, _), (14, _), (15, _), (16, _)] ⟨rfl, rfl, rfl, rfl, rfl, rfl, rfl, rfl, trivial⟩ ⟨by rw [← ent_isSome X.P.es X.V pn, ← rk_isSome hrk], K, ?_⟩
      rw [hem]
      show Blk _ b10 [.bool true, .bool true, .bool false, .string e.user, .int .u64 e.tr, .string e.val, .bool false, .string ByteArray.empty, .string ByteArray.empty, .slice none 0 0] _
      rw [ht0]; exact B10
    -- no
    have hen : entP X.P.es X.V pn = none := by
      cases hq : entP X.P.es X.V pn with
      | none => rfl
      | some x => obtain ⟨e, mk⟩ := x; rw [hq] at hrk; obtain ⟨b9, o9, _, _, _, T9, e9, _⟩ := hrk; rw [e9] at hif; cases hif
    refine tr_skip ?_
    refine q_cut [(0, _), (5, _), (6, _), (7, _), (10, _), (14, _), (15, _), (16, _)] ⟨rfl, rfl, rfl, rfl, rfl, rfl, rfl, rfl, trivial⟩ ⟨by rw [← ent_isSome X.P.es X.V pn, ← rk_isSome hrk], K, ?_⟩
    rw [hen]; exact B10
  rintro E hd ⟨rfl, K, B10⟩
  have hdz := K.1
  refine tr_cut (fun E h' => ∃ kv, E = [(0, X.p), (5, v), (6, .bool (entB pn)), (7, .int .u8 s.op), (10, .pointer (some ⟨b10, 0, none⟩)), (14, .slice (some ⟨b, o, none⟩) steps.length c), (15, .int .i64 (steps.length : Int)), (16, .int .i64 (k : Int))] ∧ Keep [b10] hc h' ∧ Blk h' b10 (a1C (ansM X.P.es X.V (some pn)) kv) 52 ∧ RKeys (fun b => hc.size ≤ b ∧ b < h'.size) h' kv (ansM X.P.es X.V (some pn)).sp.ks) ?_ ?_
  ·
    refine rG <| rM rfl rfl <| rs_w (w_call (vs := [_]) ok_keyspan_InterleavingIter_Span rfl ⟨rfl, trivial⟩ (pi_Span (hI'.stab (K.kp (F := fun x => x = b10) (by simp)) (fun b hb => by subst hb; exact ⟨hnF10, hnA10⟩)))) rfl ?_
    rintro rs h34 ⟨hsp, hsame⟩; have hsame := hsame.symm; subst hsame
    obtain ⟨ps, rfl, hps⟩ := spret_form hsp
    refine rA rfl rfl <| rN <| rG <| rM rfl rfl <| rs_v (v_pne u_p_keyspan_Span rfl rfl) rfl ?_
    refine rN ?_
    refine tr_if rfl (fun hif => ?_) (fun hif => ?_)
    · -- yes
      obtain ⟨t, hct, sb, so, sv, ev, kv, hse, hsb, hsc, r1, r2, r3⟩ := hps.2 hif
      subst hse
      obtain ⟨e9, mk9, he9, ha9⟩ := an_some hct
      rw [he9] at B10
      refine tr_reg <| rM rfl rfl <| rC rfl rfl <| rs_v (v_loadAgg (vs := [_, _, _, _]) many_keyspan_Span rfl (by first | exact B2.cell _ rfl | exact B9.cell _ rfl | exact K.cells (by simpa using hkn) hkc | exact hsc | exact hcells | exact B10.sub 0 10 rfl)) rfl ?_
      refine rs_w (w_call (vs := [_]) ok_impl_plainSpan rfl ⟨rfl, trivial⟩ (c_plainSpan χ _ A (hA.mono (by omega)) t _ _ _ 0 r1 r2 r3 (hVn t (covP_mem hct)))) rfl ?_
      rintro _ h35 ⟨⟨kv', rfl, hkv⟩, K35⟩
      obtain ⟨a4, c4, rfl⟩ := hkv.form2
      have B10 := K35.blk (by simp) B10
      have hzp := K.1
      have K := K.new0 K35; have Z35 := K35.1
      have Kq := Keep.refl [b10] h35
      refine rF fa_impl_PointAnswer_4 rfl rfl <| rs_w0 (w_put siz_bool rfl rfl rfl rfl B10 rfl) ?_
      rintro _ h36 ⟨B36, K36⟩
      have Kq := Kq.trans K36
      have B10 := B36; have K := K.new1 K36 (by first | (right; omega) | (left; simp; done)); have Z36 := K36.1
      refine rF fa_impl_PointAnswer_5 rfl rfl <| rs_w0 (w_put siz_impl_Span rfl rfl rfl rfl B10 rfl) ?_
      rintro _ h37 ⟨B37, K37⟩
      have Kq := Kq.trans K37
      have B10 := B37; have K := K.new1 K37 (by first | (right; omega) | (left; simp; done)); have Z37 := K37.1
      refine rs_nil ?_
      refine q_cut [(0, _), (5, _), (6, _), (7, _), (10, _), (14, _), (15, _), (16, _)] ⟨rfl, rfl, rfl, rfl, rfl, rfl, rfl, rfl, trivial⟩ ⟨.slice a4 t.ks.length c4, rfl, K, ?_, ?_⟩
      · rw [ha9]; exact B10
      · rw [ha9]
        exact (hkv.stab (Kq.stab fun b hb => ⟨by rcases hb with hb | hb; exact hb.elim; exact hb.2, fun hm => by simp at hm; rcases hb with hb | hb; exact hb.elim; omega⟩)).mono fun b hb => by rcases hb with hb | hb; exact hb.elim; exact ⟨by omega, by have := Kq.1; omega⟩
    -- no
    have hcn := hps.1 hif
    refine tr_skip ?_
    refine q_cut [(0, _), (5, _), (6, _), (7, _), (10, _), (14, _), (15, _), (16, _)] ⟨rfl, rfl, rfl, rfl, rfl, rfl, rfl, rfl, trivial⟩ ⟨.slice none 0 0, rfl, K, ?_, ?_⟩
    · rw [← (an_none hcn).1]; exact B10
    · rw [(an_none hcn).2]; exact SlR.nil _ _ _ _
  rintro E he ⟨kv, rfl, K3, B10, hkv⟩
  obtain ⟨a9, c9, rfl⟩ := hkv.form2
  have hez := K3.1
  have hlow' := (hI'.stab (K3.kp (F := fun x => x = b10) (by simp)) (fun b hb => by subst hb; exact ⟨hnF10, hnA10⟩)).low
  have hout5 := (hout4.move cPAns_st (K3.kp (fun x hx => .inr (by simpa using hx))) (fun b hb => .inl hb) : OutD (fun b => F' b ∨ b = b10) h he h.size 52 10 cPAns v n (walkK X.P.es X.V X.mk' .nowhere (steps.take k)))
  have hout6 : OutD F' h he h.size 52 10 cPAns v n (walkK X.P.es X.V X.mk' .nowhere (steps.take k)) := hout5.move cPAns_st (KeepP.refl _ _) (fun b hb => .inl (.inl hb))
  obtain ⟨xs, G, O, hOD, hrow, hG⟩ := hout6
  have hob := own_ne O
  have K := Keep.refl [] he
  refine tr_reg <| rM rfl rfl <| rs_v (v_loadAgg (vs := [_, _, _, _, _, _, _, _, _, _]) many_impl_PointAnswer rfl (by first | exact B2.cell _ rfl | exact B9.cell _ rfl | exact K.cells (by simpa using hkn) hkc | exact hsc | exact hcells | exact B10.sub 0 10 rfl)) rfl ?_
  refine rs_w (w_new1 u_sl_impl_PointAnswer siz_impl_PointAnswer zero_impl_PointAnswer rfl rfl rfl rfl rfl) rfl ?_
  rintro _ h39 ⟨rfl, B39, K39, Z39⟩
  have B10 := K39.blk (by simp) B10
  have S39 := K.1; have K := K.new0 K39
  refine rs_w (w_app1 u_sl_impl_PointAnswer info_impl_PointAnswer rfl rfl rfl (O.keep2 K (fun x hm => by simp)) rfl rfl B39 rfl (by omega) (by omega) (by omega)) rfl ?_
  rintro v40 h40 ⟨O40, K40, N40, F40⟩
  have KL := K; have Ka := K40; have Oa := O40; have Fa := F40; have Z40 := K40.1
  refine rA rfl rfl <| rs_nil <| q_blk_n <| q_thn <| tr_reg <| rs_v (v_add rfl rfl (by omega) (by omega)) rfl ?_
  refine rM rfl rfl <| rs_nil ?_
  refine q_lp (steps.length - (k + 1)) [(0, _), (5, _), (6, _), (7, _), (14, _), (15, _), (16, _)] (by omega) ⟨rfl, rfl, rfl, rfl, rfl, rfl, rfl, trivial⟩ ⟨k + 1, _, n + 1, _, _, F', by omega, rfl, rfl, ?_, ?_, ?_, ?_, ?_, ?_⟩
  · rw [take_snoc' hsk, endK_snoc, hp, show stepK (X.P.es.map EntD.user) X.V X.mk' p s = some pn from hst]; exact ((hI'.stab (K3.kp (F := fun x => x = b10) (by simp)) (fun b hb => by subst hb; exact ⟨hnF10, hnA10⟩)).stab (KL.kp0 (F := fun _ => False)) (fun b hb => hb.elim)).stab (Ka.kp (F := fun x => x ∈ v.ownBlock.toList) (fun x hx => hx)) (fun x hx => ⟨hOD x hx, fun ha => by have := hA x ha; have := (hob x hx).1; omega⟩)
  · exact fun b hb => (hF' b hb).elim (fun h9 => hFF b h9) (fun h9 => .inr (by omega))
  · exact ((((KP.trans KP' hFF).trans (K3.kp (F := fun x => h.size ≤ x) (fun x hx => by simp at hx; omega)) (fun x hx => .inr hx)).trans (KL.kp0 (F := fun _ => False)) (by simp)).trans (Ka.kp (F := fun x => h.size ≤ x) (fun x hx => (hob x hx).1)) (fun x hx => .inr hx))
  · rw [take_snoc' hsk, walkK_snoc, List.length_append, ← hn]; rfl
  · rw [take_snoc' hsk, walkK_snoc, hp, show stepK (X.P.es.map EntD.user) X.V X.mk' p s = some pn from hst]
    exact OutD.snocG (G' := fun b => hc.size ≤ b ∧ b < he.size) cPAns_st hOD hrow hG (fun b hb => ⟨fun hm => by have := hobc b hm; omega, by have := KL.1; omega, by omega, fun hf => by have := hlowc b hf; omega⟩) (fun b hb => by have := hlow' b hb; have := KL.1; omega) (by omega) KL Oa Ka Fa rfl ⟨_, rfl, hkv.stab (KL.stab fun b hb => ⟨hb.2, by simp⟩)⟩
  · rw [take_snoc' hsk, endK_snoc, hp, show stepK (X.P.es.map EntD.user) X.V X.mk' p s = some pn from hst]; exact okK_step hst
set_option maxHeartbeats 2000000
def REnts (A : Nat → Prop) (h : Heap) (v : Value) (es : List EntD) : Prop := SlR h A 3 (fun h b o (e : EntD) => CellsAt h b o e.cells) v es
theorem REnts.stab {A : Nat → Prop} {h h' : Heap} {v : Value} {es : List EntD} (H : REnts A h v es) (k : Stab A h h') : REnts A h' v es := SlR.stab H fun _ _ _ hb hc => k.cells hb hc
theorem REnts.mono {A A' : Nat → Prop} {h : Heap} {v : Value} {es : List EntD} (H : REnts A h v es) (k : ∀ b, A b → A' b) : REnts A' h v es := SlR.mono H k fun _ _ _ _ hc => hc
def EntD.small (e : EntD) : Prop := e.user.size ≤ 2147483647 ∧ e.val.size ≤ 2147483647
def cKeyE (A : Nat → Prop) (h : Heap) (c : List Value) (e : EntD) : Prop := ∃ a n k, c = [.slice a n k, .int .u64 e.tr] ∧ RBytes A h (.slice a n k) e.user
def cValE (A : Nat → Prop) (h : Heap) (c : List Value) (e : EntD) : Prop := ∃ a n k, c = [.slice a n k] ∧ RBytes A h (.slice a n k) e.val
theorem cKeyE_st : RStab cKeyE := ⟨fun _ _ _ _ _ s ⟨a, n, k, e, r⟩ => ⟨a, n, k, e, r.stab s⟩, fun _ _ _ _ _ s ⟨a, n, k, e, r⟩ => ⟨a, n, k, e, r.mono s⟩⟩
theorem cValE_st : RStab cValE := ⟨fun _ _ _ _ _ s ⟨a, n, k, e, r⟩ => ⟨a, n, k, e, r.stab s⟩, fun _ _ _ _ _ s ⟨a, n, k, e, r⟩ => ⟨a, n, k, e, r.mono s⟩⟩
def RKeyE (A : Nat → Prop) (h : Heap) (b o : Nat) (e : EntD) : Prop := ∃ a n k, CellsAt h b o [.slice a n k, .int .u64 e.tr] ∧ RBytes A h (.slice a n k) e.user
def RValE (A : Nat → Prop) (h : Heap) (b o : Nat) (e : EntD) : Prop := ∃ a n k, CellsAt h b o [.slice a n k] ∧ RBytes A h (.slice a n k) e.val
theorem cKeyE_r (F : Nat → Prop) (h : Heap) (b o : Nat) (c : List Value) (e : EntD) (hc : CellsAt h b o c) (hr : cKeyE F h c e) : RKeyE F h b o e := by obtain ⟨a, n, k, rfl, r⟩ := hr; exact ⟨a, n, k, hc, r⟩
theorem cValE_r (F : Nat → Prop) (h : Heap) (b o : Nat) (c : List Value) (e : EntD) (hc : CellsAt h b o c) (hr : cValE F h c e) : RValE F h b o e := by obtain ⟨a, n, k, rfl, r⟩ := hr; exact ⟨a, n, k, hc, r⟩
theorem mk_pts {A : Nat → Prop} {h : Heap} {kv vv : Value} {es : List EntD} (h1 : SlR h A 2 (RKeyE A) kv es) (h2 : SlR h A 1 (RValE A) vv es) (lb : Nat) (hn : es.length ≤ 1000) :
    ∃ P : Pts, P.es = es ∧ P.lb = lb ∧ P.lo = .slice none 0 0 ∧ P.up = .slice none 0 0 ∧ kv = .slice P.ka es.length P.kc ∧ vv = .slice P.va P.vn P.vc ∧ PtS A P h := by
  obtain ⟨_, ka, kc, rfl, hk⟩ := h1
  obtain ⟨_, va, vc, rfl, hv⟩ := h2
  have hf : ∀ i : Nat, ∃ y : Value × Value, ∀ e, es[i]? = some e → ∃ kb ko vb vo, ka = some ⟨kb, ko, none⟩ ∧ va = some ⟨vb, vo, none⟩ ∧ A kb ∧ A vb ∧ CellsAt h kb (ko + i * 2) [y.1, .int .u64 e.tr] ∧ RBytes A h y.1 e.user ∧ cellH h vb (vo + i * 1) = some y.2 ∧ RBytes A h y.2 e.val := fun i => by
    cases hi : es[i]? with
    | none => exact ⟨⟨.nilIface, .nilIface⟩, fun e he => by cases he⟩
    | some e =>
      obtain ⟨kb, ko, e1, a1, a, n, k, hc, r⟩ := hk i e hi
      obtain ⟨vb, vo, e2, a2, a', n', k', hc', r'⟩ := hv i e hi
      exact ⟨⟨_, _⟩, fun e' he => by cases he; exact ⟨kb, ko, vb, vo, e1, e2, a1, a2, hc, r, hc' 0 _ rfl, r'⟩⟩
  obtain ⟨f, hf⟩ := Classical.axiomOfChoice hf
  exact ⟨⟨es, lb, ka, kc, va, es.length, vc, .slice none 0 0, .slice none 0 0, fun i => (f i).1, fun i => (f i).2⟩, rfl, rfl, rfl, rfl, rfl, rfl, hn, Nat.le_refl _, fun i e he => hf i e he, .inl rfl, .inl rfl⟩
theorem PtS.mono {A A' : Nat → Prop} {P : Pts} {h : Heap} (H : PtS A P h) (k : ∀ b, A b → A' b) : PtS A' P h :=
  ⟨H.hn, H.hv, fun i e he => by
    obtain ⟨kb, ko, vb, vo, e1, e2, a1, a2, hc, r1, hc2, r2⟩ := H.cells i e he
    exact ⟨kb, ko, vb, vo, e1, e2, k _ a1, k _ a2, hc, r1.mono k, hc2, r2.mono k⟩, H.lo.imp id fun ⟨a, n, c, b, e, r, hq⟩ => ⟨a, n, c, b, e, r.mono k, hq⟩, H.up.imp id fun ⟨a, n, c, b, e, r, hq⟩ => ⟨a, n, c, b, e, r.mono k, hq⟩⟩
theorem c_key {χ : Chi} {h : Heap} {e : EntD} (hs : e.small) :
    Cl Tryz.prog χ 98 #[e.v] h (fun r h' => (∃ a n c, r = .agg #[.slice a n c, .int .u64 e.tr] ∧ RBytes (fun b => h.size ≤ b ∧ b < h'.size) h' (.slice a n c) e.user) ∧ Keep [] h h') := by
  unfold EntD.v
  refine cl_intro Tryz.func98 rfl rfl rfl ?_
  have K : Keep [] h h := Keep.refl _ _
  refine rG <| rs_w (w_newbox rfl) rfl ?_
  rintro _ h1 ⟨rfl, B1, K1, Z1⟩
  have S1 := K.1; have K := K.new0 K1
  refine rs_w (w_new zero_base_InternalKey) rfl ?_
  rintro _ h2 ⟨rfl, B2, K2, Z2⟩
  have B1 := K2.blk (by simp) B1
  have S2 := K.1; have K := K.new0 K2
  refine rN <| rG <| rF fa_impl_Entry_0 rfl rfl <| rs_v (v_load one_string rfl (by exact B1.cell _ rfl)) rfl ?_
  refine rs_w (w_bytes u_string u_sl_uint8 u_uint8 rfl (by have := hs.1; omega)) rfl ?_
  rintro _ h3 ⟨cb, rfl, K3, hby⟩
  have B1 := K3.blk (by simp) B1
  have B2 := K3.blk (by simp) B2
  have K := K.new0 K3; have Z3 := K3.1
  refine rF fa_impl_Entry_1 rfl rfl <| rs_v (v_load one_uint64 rfl (by exact B1.cell _ rfl)) rfl ?_
  refine rs_v (v_build2 rfl rfl (bld_base_InternalKey_0_1 _ _ _ _)) rfl ?_
  refine rs_w0 (w_put siz_base_InternalKey rfl rfl rfl rfl B2 rfl) ?_
  rintro _ h4 ⟨B4, K4⟩
  have hby := hby.stab (K4.stab fun b hb => ⟨hb.2, fun hm => by simp at hm; have := hb.1; omega⟩)
  have B1 := K4.blk (by simp; omega) B1
  have B2 := B4; have K := K.new1 K4 (by first | (right; omega) | (left; simp; done)); have Z4 := K4.1
  refine rN <| tr_ret <| q_ret (res_cell (vs := [_, _]) rfl rfl many_base_InternalKey (by exact B2.sub 0 2 rfl)) ?_
  exact ⟨⟨_, _, _, rfl, hby.mono fun b hb => ⟨by have := hb.1; omega, by have := hb.2; omega⟩⟩, K⟩
theorem c_newList {χ : Chi} {h : Heap} {A : Nat → Prop} (hA : Low A h) {sv : Value} {es : List EntD} (hS : REnts A h sv es) (hn : es.length ≤ 1000) (hs : ∀ e, e ∈ es → e.small) :
    Cl Tryz.prog χ 54 #[sv] h (fun r h' => r = .pointer (some ⟨h.size, 0, none⟩) ∧ (∃ P : Pts, P.es = es ∧ P.lb = h.size ∧ P.lo = .slice none 0 0 ∧ P.up = .slice none 0 0 ∧ Blk h' h.size (P.C 0) 236 ∧ PtS (fun b => h.size < b ∧ b < h'.size) P h') ∧ Keep [] h h') := by
  obtain ⟨hlen, a, c, rfl, hx⟩ := SlR.form hS
  refine cl_intro Tryz.func54 rfl rfl rfl ?_
  have K : Keep [] h h := Keep.refl _ _
  refine rG <| rA rfl rfl <| rN <| rG <| rs_v (v_build1 rfl (bld_impl_list_2 _)) rfl ?_
  refine rs_w (w_newbox rfl) rfl ?_
  rintro _ h1 ⟨rfl, B1, K1, Z1⟩
  have S1 := K.1; have K := K.new0 K1
  refine rA rfl rfl <| rN <| tr_seq <| rG <| rM rfl rfl <| rs_v (v_len u_sl_impl_Entry rfl) rfl ?_
  refine rM rfl rfl <| rN <| tr_block ?_
  refine tr_loop (fun m E h' => ∃ k ka kc va vc, k ≤ es.length ∧ m = es.length - k ∧ E = [(3, .pointer (some ⟨h.size, 0, none⟩)), (8, .slice a es.length c), (9, .int .i64 (es.length : Int)), (10, .int .i64 (k : Int))] ∧ Keep [] h h' ∧ h1.size ≤ h'.size ∧ Blk h' h.size [.slice ka k kc, .slice va k vc, .int .i64 (-1), .slice none 0 0, .slice none 0 0] 236 ∧ OutD (fun b => b = h.size ∨ b ∈ (Value.slice va k vc).ownBlock.toList) h1 h' h1.size 116 2 cKeyE (Value.slice ka k kc) (k) (es.take (k)) ∧ OutD (fun b => b = h.size ∨ b ∈ (Value.slice ka k kc).ownBlock.toList) h1 h' h1.size 107 1 cValE (Value.slice va k vc) (k) (es.take (k))) es.length [(3, _), (8, _), (9, _), (10, _)] ⟨rfl, rfl, rfl, rfl, trivial⟩ ⟨0, none, 0, none, 0, Nat.zero_le _, rfl, rfl, K, Nat.le_refl _, B1, OutD.nil _ _ _ _ _ _ _, OutD.nil _ _ _ _ _ _ _⟩ ?_
  rintro m E hL2 ⟨k, ka, kc, va, vc, hk, rfl, rfl, K, hz1, Bl, hkr, hvr⟩
  have hz0 := K.1
  have KL := Keep.refl [] hL2
  refine rG <| rs_v (v_lt rfl rfl) rfl <| rN <| tr_seq ?_
  refine tr_ifn rfl (fun hif => ?_) (fun hif => ?_)
  · -- no
    simp only [dT, dF] at hif
    have hkk : k = es.length := by omega
    subst hkk
    refine tr_exit <| q_thn_exit <| q_lp_exit <| q_blk_hit <| q_thn <| rG <| rM rfl rfl <| rA rfl rfl <| rN <| tr_ret <| q_ret (res_tmp rfl rfl) ?_
    rw [List.take_length] at hkr hvr
    have hn0 : Low (fun _ : Nat => False) h1 := fun _ hb => hb.elim
    obtain ⟨P, e1, e2, e3, e4, e5, e6, HP⟩ := mk_pts (hkr.fin cKeyE_st rfl (Nat.le_refl _) cKeyE_r) (hvr.fin cValE_st rfl (Nat.le_refl _) cValE_r) h.size hn
    refine ⟨rfl, ⟨P, e1, e2, e3, e4, ?_, ?_⟩, K⟩
    · rw [e5, e6] at Bl
      show Blk _ _ (lsC P.ka P.es.length P.kc P.va P.vn P.vc (((0 : Nat) : Int) - 1) P.lo P.up) _
      rw [e1, e3, e4]; exact Bl
    · exact HP.mono (fun b hb => hb.elim (fun e => e.elim) (fun e => ⟨by omega, e.2⟩))
  -- yes
  simp only [dT, dF] at hif
  rcases hx with rfl | ⟨b, o, rfl, hAb, hR⟩
  · simp at hif; omega
  obtain ⟨e, hsk⟩ := ex_get (L := es) (k := k) (by omega)
  have hkl : k < es.length := (List.getElem?_eq_some_iff.1 hsk).1
  have hcells : CellsAt hL2 b (o + k * 3) e.cells := (K.st hA).cells hAb (hR k e hsk)
  have hsm := hs e (List.mem_of_getElem? hsk)
  obtain ⟨xs1, G1, P1, hO1, hrow1, hG1⟩ := id hkr
  obtain ⟨xs2, G2, P2, hO2, hrow2, hG2⟩ := id hvr
  have hob1 := own_ne P1; have hob2 := own_ne P2
  have hobv0 : ∀ x, x ∈ (Value.slice va k vc).ownBlock.toList → x < hL2.size := fun x hx => (hob2 x hx).2
  have hh1 : h1.size = h.size + 1 := by omega
  refine tr_skip <| q_thn <| tr_seq <| tr_block <| rG <| rs_v (v_indexAddrN u_sl_impl_Entry siz_impl_Entry rfl rfl (by omega)) rfl ?_
  refine rs_v (v_loadAgg (vs := [_, _, _]) many_impl_Entry rfl (by exact hcells)) rfl ?_
  refine rs_w (w_new zero_impl_Entry) rfl ?_
  rintro _ h3 ⟨rfl, B3, K3, Z3⟩
  have Bl := K3.blk (by simp) Bl
  have S3 := K.1; have K := K.new0 K3; have KL := KL.new0 K3
  refine rs_w0 (w_put siz_impl_Entry rfl rfl rfl rfl B3 rfl) ?_
  rintro _ h4 ⟨B4, K4⟩
  have Bl := K4.blk (by simp; omega) Bl
  have B3 := B4; have K := K.new1 K4 (by first | (right; omega) | (left; simp; done)); have Z4 := K4.1; have KL := KL.new1 K4 (.inr (by omega))
  refine rN <| tr_seq ?_
  have KH := KL
  refine tr_draw [(true, 9), (false, 3)] _ (by kernel_rfl) (by kernel_rfl) (by kernel_rfl) ?_
  refine rx_big (Keep []) (Keep (Value.slice ka k kc).ownBlock.toList) (keep_pre _) (keep_pre _) (fun _ _ k => k.any) ?_
  refine rb_v (keep_pre _) (fun h' hk => v_move rfl) ?_
  refine rb_v (keep_pre _) (fun h' hk => v_move rfl) ?_
  refine rb_v (keep_pre _) (fun h' hk => v_nilCheck_ptr rfl) ?_
  refine rb_v (keep_pre _) (fun h' hk => v_fieldAddr fa_impl_list_0 rfl) ?_
  refine rb_v (keep_pre _) (fun h' hk => v_load one_sl_base_InternalKey rfl (Blk.cell (hk.blk (fun hm => by have := (hob1 _ hm).1; omega) Bl) _ rfl)) ?_
  refine rb_v (keep_pre _) (fun h' hk => v_loadAgg (vs := [_, _, _]) many_impl_Entry rfl (Blk.sub (hk.blk (fun hm => by have := (hob1 _ hm).2; omega) B3) 0 3 rfl)) ?_
  refine rb_w (fun v h' => ∃ a n c, v = .agg #[.slice a n c, .int .u64 e.tr] ∧ RBytes (fun b => h4.size ≤ b ∧ b < h'.size) h' (.slice a n c) e.user) (fun v _ _ k1 k2 hr => by obtain ⟨a, n, c, e1, r⟩ := hr; exact ⟨a, n, c, e1, (r.stab (k2.stab fun b hb => ⟨hb.2, fun hm => by have := (hob1 b hm).2; have := hb.1; omega⟩)).mono (fun b hb => ⟨hb.1, Nat.lt_of_lt_of_le hb.2 k2.1⟩)⟩) (fun h' hk => OpW.mono (w_call (vs := [_]) ok_impl_key rfl ⟨rfl, trivial⟩ (c_key hsm)) (fun v h'' hv => by
      obtain ⟨⟨a, n, c, e1, r⟩, K'⟩ := hv
      exact ⟨K', a, n, c, e1, r.mono fun b hb => ⟨Nat.le_trans hk.1 hb.1, hb.2⟩⟩)) ?_
  refine rb_o 20 (fun v h' => ∃ g a n c, v = .slice (some ⟨g, 0, none⟩) 1 1 ∧ h4.size ≤ g ∧ g < h'.size ∧ Blk h' g [.slice a n c, .int .u64 e.tr] 116 ∧ RBytes (fun b => h4.size ≤ b ∧ b < h'.size) h' (.slice a n c) e.user) rfl (by kernel_rfl) (fun v _ _ k1 k2 hr => by
    obtain ⟨g, a, n, c, e1, hg, hgl, B, r⟩ := hr
    exact ⟨g, a, n, c, e1, hg, Nat.lt_of_lt_of_le hgl k2.1, k2.blk (fun hm => by have := (hob1 g hm).2; omega) B, (r.stab (k2.stab fun b hb => ⟨hb.2, fun hm => by have := (hob1 b hm).2; have := hb.1; omega⟩)).mono (fun b hb => ⟨hb.1, Nat.lt_of_lt_of_le hb.2 k2.1⟩)⟩) (fun u h' hk hu => by
      obtain ⟨a, n, c, rfl, r⟩ := hu
      exact OpW.mono (w_new1 u_sl_base_InternalKey siz_base_InternalKey zero_base_InternalKey rfl rfl rfl rfl rfl) (fun v h'' hv => by
        obtain ⟨e1, B, K', hz⟩ := hv
        exact ⟨K', _, a, n, c, e1, hk.1, by omega, B, (r.stab (K'.stab fun b hb => ⟨hb.2, by simp⟩)).mono fun b hb => ⟨hb.1, by have := hb.2; omega⟩⟩)) ?_
  refine rb_bigO 21 (fun v h' => ∃ a c, v = .slice a (k + 1) c ∧ OutD (fun b => b = h.size ∨ b ∈ (Value.slice va k vc).ownBlock.toList) h1 h' h1.size 116 2 cKeyE (Value.slice a (k + 1) c) (k + 1) (es.take (k + 1)) ∧ ((Value.slice a (k + 1) c).ownBlock = (Value.slice ka k kc).ownBlock ∨ ∃ b, (Value.slice a (k + 1) c).ownBlock = some b ∧ h4.size ≤ b)) rfl (by kernel_rfl) (fun v _ _ k1 k2 hr => by
      obtain ⟨a, c, e1, ho, hb⟩ := hr
      exact ⟨a, c, e1, ho.move cKeyE_st k2.kp0 (fun b hb => .inl hb), hb⟩) (fun u h' hk hu => by
      obtain ⟨g, a, n, c, rfl, hg, hgl, B, r⟩ := hu
      exact OpW.mono (w_app1 u_sl_base_InternalKey info_base_InternalKey rfl rfl rfl (P1.keep2 (KH.trans hk) (fun x hm => by simp)) rfl rfl B rfl (by omega) (by omega) (by have := KH.1; have := hk.1; omega)) (fun v h'' hv => by
        obtain ⟨Oa, Ka, _, Fa⟩ := hv
        have hso := OutD.snocG (G' := (fun b => h4.size ≤ b ∧ b < h'.size)) cKeyE_st hO1 hrow1 hG1 (fun b hb => ⟨fun hm => by have := (hob1 b hm).2; have := hb.1; omega, hb.2, by have := hb.1; omega, fun hd => by have h9 := (show b < hL2.size from hd.elim (fun e => by omega) (fun e => (hob2 b e).2)); have := hb.1; omega⟩) (fun b hd => by have h9 := (show b < hL2.size from hd.elim (fun e => by omega) (fun e => (hob2 b e).2)); have := KH.1; have := hk.1; omega) (by have := KH.1; have := hk.1; omega) (KH.trans hk) Oa Ka Fa rfl ⟨a, n, c, rfl, r⟩
        obtain ⟨a9, c9, e9⟩ := Own.form3 Oa
        subst e9
        refine ⟨Ka, a9, c9, rfl, ?_, ?_⟩
        · rw [take_snoc' hsk]; exact hso
        · exact Fa.imp id fun e => ⟨_, e, hk.1⟩)) ?_
  refine rb_end ?_; intro ha Ka; simp only [endM, hypF, ofE, argE, List.nil_append]
  rintro _ ⟨a9, c9, rfl, ho9, hb9⟩ _ _ _ _
  have B3 := Ka.blk (fun hm => by have := (hob1 _ hm).2; omega) B3
  have Bl := Ka.blk (fun hm => by have := (hob1 _ hm).1; omega) Bl
  have hvr : OutD (fun b => b = h.size ∨ b ∈ (Value.slice a9 (k + 1) c9).ownBlock.toList) h1 ha h1.size 107 1 cValE (Value.slice va k vc) (k) (es.take (k)) := (hvr.move cValE_st KH.kp0 (fun b hb => .inl hb)).move cValE_st (Ka.kp (fun x hx => .inr hx)) (fun b hb => by
    rcases hb with hb | hb
    · exact .inl (.inl hb)
    · rcases hb9 with e | ⟨b2, e, hb2⟩
      · rw [e] at hb; exact .inl (.inr hb)
      · rw [e] at hb; simp at hb; subst hb; exact .inr hb2)
  have K := K.newX Ka (fun x hm => .inr (by have := (hob1 x hm).1; omega)); have Za := Ka.1
  refine rx_seq <| rC rfl rfl <| rF fa_impl_list_0 rfl rfl <| rs_w0 (w_put siz_sl_base_InternalKey rfl rfl rfl rfl Bl rfl) ?_
  rintro _ h5 ⟨Bl2, K5⟩
  have Bl : Blk h5 h.size [.slice a9 (k + 1) c9, .slice va k vc, .int .i64 (-1), .slice none 0 0, .slice none 0 0] 236 := Bl2
  have B3 := K5.blk (by simp; omega) B3
  have hkr := ho9.move cKeyE_st (K5.kp (F := (fun b => b = h.size ∨ b ∈ (Value.slice va k vc).ownBlock.toList)) (fun x hx => .inl (by simpa using hx))) (fun b hb => .inl hb)
  have hvr := hvr.move cValE_st (K5.kp (F := (fun b => b = h.size ∨ b ∈ (Value.slice a9 (k + 1) c9).ownBlock.toList)) (fun x hx => .inl (by simpa using hx))) (fun b hb => .inl hb)
  have K := K.new1 K5 (.inr (Nat.le_refl _)); have Zs := K5.1
  refine rs_nil <| q_con ?_
  refine rx_nil ?_
  obtain ⟨xs2, G2, P2, hO2, hrow2, hG2⟩ := id hvr
  have hob2 := own_ne P2
  have hobk : ∀ x, x ∈ (Value.slice a9 (k + 1) c9).ownBlock.toList → x < h5.size := fun x hx => by
    obtain ⟨_, _, P9, _⟩ := id hkr
    exact (own_ne P9 x hx).2
  refine q_thn ?_
  have KH := Keep.refl [] h5
  have hzH : hL2.size < h5.size := by omega
  have hobv : ∀ x, x ∈ (Value.slice va k vc).ownBlock.toList → x < hL2.size := hobv0
  refine tr_draw [(true, 10), (false, 3)] _ (by kernel_rfl) (by kernel_rfl) (by kernel_rfl) ?_
  refine rx_big (Keep []) (Keep (Value.slice va k vc).ownBlock.toList) (keep_pre _) (keep_pre _) (fun _ _ k => k.any) ?_
  refine rb_v (keep_pre _) (fun h' hk => v_move rfl) ?_
  refine rb_v (keep_pre _) (fun h' hk => v_move rfl) ?_
  refine rb_v (keep_pre _) (fun h' hk => v_nilCheck_ptr rfl) ?_
  refine rb_v (keep_pre _) (fun h' hk => v_fieldAddr fa_impl_list_1 rfl) ?_
  refine rb_v (keep_pre _) (fun h' hk => v_load one_sl_sl_uint8 rfl (Blk.cell (hk.blk (fun hm => by have := (hob2 _ hm).1; omega) Bl) _ rfl)) ?_
  refine rb_v (keep_pre _) (fun h' hk => v_fieldAddr fa_impl_Entry_2 rfl) ?_
  refine rb_v (keep_pre _) (fun h' hk => v_load one_string rfl (Blk.cell (hk.blk (fun hm => by have := (hobv _ hm); omega) B3) _ rfl)) ?_
  refine rb_w (fun v h' => ∃ a n c, v = .slice a n c ∧ RBytes (fun b => h5.size ≤ b ∧ b < h'.size) h' (.slice a n c) e.val) (fun v _ _ k1 k2 hr => by obtain ⟨a, n, c, e1, r⟩ := hr; exact ⟨a, n, c, e1, (r.stab (k2.stab fun b hb => ⟨hb.2, fun hm => by have := (hob2 b hm).2; have := hb.1; omega⟩)).mono (fun b hb => ⟨hb.1, Nat.lt_of_lt_of_le hb.2 k2.1⟩)⟩) (fun h' hk => OpW.mono (w_bytes u_string u_sl_uint8 u_uint8 rfl (by have := hsm.2; omega)) (fun v h'' hv => by
      obtain ⟨c, e1, K', r⟩ := hv
      rw [e1] at r ⊢
      exact ⟨K', _, _, c, rfl, r.mono fun b hb => ⟨Nat.le_trans hk.1 hb.1, hb.2⟩⟩)) ?_
  refine rb_o 32 (fun v h' => ∃ g a n c, v = .slice (some ⟨g, 0, none⟩) 1 1 ∧ h5.size ≤ g ∧ g < h'.size ∧ Blk h' g [.slice a n c] 107 ∧ RBytes (fun b => h5.size ≤ b ∧ b < h'.size) h' (.slice a n c) e.val) rfl (by kernel_rfl) (fun v _ _ k1 k2 hr => by
    obtain ⟨g, a, n, c, e1, hg, hgl, B, r⟩ := hr
    exact ⟨g, a, n, c, e1, hg, Nat.lt_of_lt_of_le hgl k2.1, k2.blk (fun hm => by have := (hob2 g hm).2; omega) B, (r.stab (k2.stab fun b hb => ⟨hb.2, fun hm => by have := (hob2 b hm).2; have := hb.1; omega⟩)).mono (fun b hb => ⟨hb.1, Nat.lt_of_lt_of_le hb.2 k2.1⟩)⟩) (fun u h' hk hu => by
      obtain ⟨a, n, c, rfl, r⟩ := hu
      exact OpW.mono (w_new1 u_sl_sl_uint8 siz_sl_uint8 zero_sl_uint8 rfl rfl rfl rfl rfl) (fun v h'' hv => by
        obtain ⟨e1, B, K', hz⟩ := hv
        exact ⟨K', _, a, n, c, e1, hk.1, by omega, B, (r.stab (K'.stab fun b hb => ⟨hb.2, by simp⟩)).mono fun b hb => ⟨hb.1, by have := hb.2; omega⟩⟩)) ?_
  refine rb_bigO 33 (fun v h' => ∃ a c, v = .slice a (k + 1) c ∧ OutD (fun b => b = h.size ∨ b ∈ (Value.slice a9 (k + 1) c9).ownBlock.toList) h1 h' h1.size 107 1 cValE (Value.slice a (k + 1) c) (k + 1) (es.take (k + 1)) ∧ ((Value.slice a (k + 1) c).ownBlock = (Value.slice va k vc).ownBlock ∨ ∃ b, (Value.slice a (k + 1) c).ownBlock = some b ∧ h5.size ≤ b)) rfl (by kernel_rfl) (fun v _ _ k1 k2 hr => by
      obtain ⟨a, c, e1, ho, hb⟩ := hr
      exact ⟨a, c, e1, ho.move cValE_st k2.kp0 (fun b hb => .inl hb), hb⟩) (fun u h' hk hu => by
      obtain ⟨g, a, n, c, rfl, hg, hgl, B, r⟩ := hu
      exact OpW.mono (w_app1 u_sl_sl_uint8 info_sl_uint8 rfl rfl rfl (P2.keep2 (KH.trans hk) (fun x hm => by simp)) rfl rfl B rfl (by omega) (by omega) (by have := KH.1; have := hk.1; omega)) (fun v h'' hv => by
        obtain ⟨Oa, Ka, _, Fa⟩ := hv
        have hso := OutD.snocG (G' := (fun b => h5.size ≤ b ∧ b < h'.size)) cValE_st hO2 hrow2 hG2 (fun b hb => ⟨fun hm => by have := (hob2 b hm).2; have := hb.1; omega, hb.2, by have := hb.1; omega, fun hd => by have h9 := (show b < h5.size from hd.elim (fun e => by omega) (fun e => hobk b e)); have := hb.1; omega⟩) (fun b hd => by have h9 := (show b < h5.size from hd.elim (fun e => by omega) (fun e => hobk b e)); have := KH.1; have := hk.1; omega) (by have := KH.1; have := hk.1; omega) (KH.trans hk) Oa Ka Fa rfl ⟨a, n, c, rfl, r⟩
        obtain ⟨a8, c8, e9⟩ := Own.form3 Oa
        subst e9
        refine ⟨Ka, a8, c8, rfl, ?_, ?_⟩
        · rw [take_snoc' hsk]; exact hso
        · exact Fa.imp id fun e => ⟨_, e, hk.1⟩)) ?_
  refine rb_end ?_; intro ha Ka; simp only [endM, hypF, ofE, argE, List.nil_append]
  rintro _ ⟨a8, c8, rfl, ho8, hb8⟩ _ _ _ _
  have Bl := Ka.blk (fun hm => by have := (hob2 _ hm).1; omega) Bl
  have hkr : OutD (fun b => b = h.size ∨ b ∈ (Value.slice a8 (k + 1) c8).ownBlock.toList) h1 ha h1.size 116 2 cKeyE (Value.slice a9 (k + 1) c9) (k + 1) (es.take (k + 1)) := hkr.move cKeyE_st (Ka.kp (fun x hx => .inr hx)) (fun b hb => by
    rcases hb with hb | hb
    · exact .inl (.inl hb)
    · rcases hb8 with e | ⟨b2, e, hb2⟩
      · rw [e] at hb; exact .inl (.inr hb)
      · rw [e] at hb; simp at hb; subst hb; exact .inr hb2)
  have K := K.newX Ka (fun x hm => .inr (by have := (hob2 x hm).1; omega)); have Za2 := Ka.1
  refine rx_seq <| rC rfl rfl <| rF fa_impl_list_1 rfl rfl <| rs_w0 (w_put siz_sl_sl_uint8 rfl rfl rfl rfl Bl rfl) ?_
  rintro _ h6 ⟨Bl2, K6⟩
  have Bl : Blk h6 h.size [.slice a9 (k + 1) c9, .slice a8 (k + 1) c8, .int .i64 (-1), .slice none 0 0, .slice none 0 0] 236 := Bl2
  have hkr := hkr.move cKeyE_st (K6.kp (F := (fun b => b = h.size ∨ b ∈ (Value.slice a8 (k + 1) c8).ownBlock.toList)) (fun x hx => .inl (by simpa using hx))) (fun b hb => .inl hb)
  have hvr := ho8.move cValE_st (K6.kp (F := (fun b => b = h.size ∨ b ∈ (Value.slice a9 (k + 1) c9).ownBlock.toList)) (fun x hx => .inl (by simpa using hx))) (fun b hb => .inl hb)
  have K := K.new1 K6 (.inr (Nat.le_refl _)); have Zs2 := K6.1
  refine rs_nil <| q_con ?_
  refine rx_nil ?_
  refine q_blk_n <| q_thn <| tr_reg <| rs_v (v_add rfl rfl (by omega) (by omega)) rfl ?_
  refine rM rfl rfl <| rs_nil ?_
  refine q_lp (es.length - (k + 1)) [(3, _), (8, _), (9, _), (10, _)] (by omega) ⟨rfl, rfl, rfl, rfl, trivial⟩ ⟨k + 1, a9, c9, a8, c8, by omega, rfl, rfl, K, by omega, Bl, hkr, hvr⟩
set_option maxHeartbeats 2000000
abbrev iiZ (cp : Value) (lb kb : Nat) (mk lo up : Value) : List Value := iiR cp lb kb mk lo up (.slice none 0 0) none (.slice none 0 0) none (.slice none 0 0) (.int .u64 0) (.slice none 0 0) (.slice none 0 0) (.slice none 0 0) (.int .i8 0) false 0 false false false 0
theorem bld_ii0 (x0 : FuncId) (x0a x0b : Array Value) (x1 : Option Addr) (x2t : TypeId) (x2 : Value) (x3t : TypeId) (x3 : Value) (x5 : Option Addr) (x5n x5c : Nat) (x6 : Option Addr) (x6n x6c : Nat) : ∀ w, (Instr.build 124 #[(0, .func (.func x0) x0a x0b), (1, .pointer x1), (2, .iface x2t x2), (3, .iface x3t x3), (4, .nilIface), (5, .slice x5 x5n x5c), (6, .slice x6 x6n x6c)]).run Tryz.prog w =
    .ok (.agg #[.func (.func x0) x0a x0b, .pointer x1, .iface x2t x2, .iface x3t x3, .nilIface, .slice x5 x5n x5c, .slice x6 x6n x6c, .slice none 0 0, .slice none 0 0, .pointer none, .slice none 0 0, .pointer none, .nilIface, .slice none 0 0, .pointer none, .slice none 0 0, .int .u64 0, .slice none 0 0, .slice none 0 0, .slice none 0 0, .int .i8 0, .bool false, .int .i8 0, .bool false, .bool false, .bool false, .int .i8 0]) w := fun _ => by kernel_rfl
theorem mk_none {X : IC} (h : X.msk = .nilIface) : X.mk' = fun _ => false := by
  funext j; unfold IC.mk'; rw [h]; simp [isM]
theorem w_putAll {P : Program} {χ : Chi} {ρ : Operand → Option Value} {h : Heap} {ty : TypeId} {pos : String} {after : Array Edge} {guard : Option (Nat × Bool)} {x y : Operand} {t : TypeId} {b : Nat} {v : Value} {cs : List Value} {T : TypeId} {sz : Nat} (hs : Siz P t sz)
    (hx : ρ x = some (.pointer (some ⟨b, 0, none⟩))) (hy : ρ y = some v) (hv : Nat.beq v.cells.size sz = true) (h1 : v.cells.toList.all (fun u => u.oneCell') = true)
    (hb : Blk h b cs T) (hl : cs.length = sz) : OpW P χ ⟨none, .store t x y, ty, pos, after, guard⟩ ρ h (fun _ h' => Blk h' b v.cells.toList T ∧ Keep [b] h h') := by
  have hz := Nat.eq_of_beq_eq_true hv
  refine (w_put hs hx hy hv h1 hb (by rw [hl]; simp [Nat.ble_eq])).mono ?_
  rintro _ h' ⟨B, K⟩
  rw [putRow_all (by rw [hl, ← hz]; simp)] at B
  exact ⟨B, K⟩
theorem c_SetBounds {χ : Chi} {h : Heap} {lb : Nat} {y0 y1 y2 y3 y4 : Value} {a1 a2 : Option Addr} {n1 c1 n2 c2 : Nat} (Bl : Blk h lb [y0, y1, y2, y3, y4] 236) :
    Cl Tryz.prog χ 55 #[.pointer (some ⟨lb, 0, none⟩), .slice a1 n1 c1, .slice a2 n2 c2] h (fun r h' => r = .tuple #[] ∧ Blk h' lb [y0, y1, y2, .slice a1 n1 c1, .slice a2 n2 c2] 236 ∧ Keep [lb] h h') := by
  have hlb := Bl.lt
  refine cl_intro Tryz.func55 rfl rfl rfl ?_
  have K : Keep [lb] h h := Keep.refl _ _
  refine tr_reg <| rM rfl rfl <| rM rfl rfl <| rM rfl rfl <| rM rfl rfl <| rC rfl rfl <| rF fa_impl_list_3 rfl rfl <| rs_w0 (w_put siz_sl_uint8 rfl rfl rfl rfl Bl rfl) ?_
  rintro _ h1 ⟨B1, K1⟩
  have Bl := B1; have K := K.new1 K1 (by first | (right; omega) | (left; simp; done)); have Z1 := K1.1
  refine rC rfl rfl <| rF fa_impl_list_4 rfl rfl <| rs_w0 (w_put siz_sl_uint8 rfl rfl rfl rfl Bl rfl) ?_
  rintro _ h2 ⟨B2, K2⟩
  have Bl := B2; have K := K.new1 K2 (by first | (right; omega) | (left; simp; done)); have Z2 := K2.1
  refine rs_nil ?_
  refine q_end (res_none rfl) ?_
  exact ⟨rfl, Bl, K⟩
theorem c_iiInit {χ : Chi} {h : Heap} {ib cb lb kb : Nat} {cs : List Value} {rest : List Value} {a1 a2 : Option Addr} {n1 c1 n2 c2 : Nat} (Bi : Blk h ib cs 124) (hcs : cs.length = 27) (Bq : Blk h cb (cmpF :: rest) 147) (hne : cb ≠ ib) :
    Cl Tryz.prog χ 57 #[.pointer (some ⟨ib, 0, none⟩), .pointer (some ⟨cb, 0, none⟩), .iface 126 (.pointer (some ⟨lb, 0, none⟩)), .iface 131 (.pointer (some ⟨kb, 0, none⟩)), .agg #[.nilIface, .slice a1 n1 c1, .slice a2 n2 c2]] h
      (fun r h' => r = .tuple #[] ∧ Blk h' ib (iiZ (.pointer (some ⟨cb, 0, none⟩)) lb kb .nilIface (.slice a1 n1 c1) (.slice a2 n2 c2)) 124 ∧ Keep [ib] h h') := by
  have hib := Bi.lt; have hcb := Bq.lt
  unfold cmpF at Bq
  refine cl_intro Tryz.func57 rfl rfl rfl ?_
  have K : Keep [ib] h h := Keep.refl _ _
  refine rG <| rs_w (w_newbox rfl) rfl ?_
  rintro _ h1 ⟨rfl, B1, K1, Z1⟩
  have Bi := K1.blk (by simp) Bi
  have Bq := K1.blk (by simp) Bq
  have S1 := K.1; have K := K.new0 K1
  refine rN ?_
  refine tr_draw [(true, 16), (false, 1)] _ (by kernel_rfl) (by kernel_rfl) (by kernel_rfl) ?_
  refine rx_any Same same_pre ?_
  refine rq_v (v_move rfl) <| rq_v (v_move rfl) <| rq_v (v_nilCheck_ptr rfl) <| rq_v (v_fieldAddr fa_base_Comparer_0 rfl) <| rq_v (v_load one_base_Compare rfl (by exact Bq.cell _ rfl)) ?_
  refine rq_v (v_move rfl) <| rq_v (v_move rfl) <| rq_v (v_move rfl) <| rq_v (v_fieldAddr fa_keyspan_InterleavingIterOpts_0 rfl) <| rq_v (v_load one_keyspan_SpanMask rfl (by exact B1.cell _ rfl)) ?_
  refine rq_v (v_fieldAddr fa_keyspan_InterleavingIterOpts_1 rfl) <| rq_v (v_load one_sl_uint8 rfl (by exact B1.cell _ rfl)) ?_
  refine rq_v (v_fieldAddr fa_keyspan_InterleavingIterOpts_2 rfl) <| rq_v (v_load one_sl_uint8 rfl (by exact B1.cell _ rfl)) ?_
  refine rq_v (v_buildN (us := [_, _, _, _, _, _, _]) ⟨rfl, rfl, rfl, rfl, rfl, rfl, rfl, trivial⟩ (bld_ii0 _ _ _ _ _ _ _ _ _ _ _ _ _ _)) ?_
  refine rq_v (v_nilCheck_ptr rfl) ?_
  refine rm_end ?_; intro ha2 Ka2; simp only [endM, hypF, ofE, argE, List.nil_append]
  have Ka2 : h1 = ha2 := Eq.symm Ka2
  subst Ka2
  refine rx_seq <| rs_w0 (w_putAll siz_keyspan_InterleavingIter rfl rfl rfl rfl Bi hcs) ?_
  rintro _ h3 ⟨Bi, K3⟩
  have K := K.new1 K3 (.inl (by simp))
  refine rs_nil <| q_con ?_
  refine rx_nil ?_
  refine q_end (res_none rfl) ?_
  exact ⟨rfl, Bi, K⟩
set_option maxHeartbeats 2000000
def plainX (P : Pts) (v : Lev) (ib cb : Nat) : IC := ⟨P, v, ib, ib, 0, .pointer (some ⟨cb, 0, none⟩), .nilIface, .slice none 0 0, .slice none 0 0, .empty, v.W, 0, fun _ => false, fun _ => .slice none 0 0, fun _ => .slice none 0 0, fun _ => .slice none 0 0, fun _ => .int .i8 0⟩
theorem plain_noB (P : Pts) (v : Lev) (ib cb : Nat) : NoB (plainX P v ib cb) := ⟨rfl, rfl, rfl, rfl, fun _ => rfl, fun _ => rfl, fun _ => rfl, fun _ => rfl, fun _ => rfl⟩
theorem slt_empty (a : ByteArray) : slt a .empty = false := by
  rw [slt_cmp, decide_eq_false_iff_not]
  unfold cmpB
  rw [show ByteArray.empty.data.toList = [] from rfl]
  cases a.data.toList <;> simp [Lib.compareBytes]
theorem plain_key (P : Pts) (v : Lev) (ib cb : Nat) (s : StepD) : KeyOK (plainX P v ib cb) s :=
  ⟨fun _ => rfl, fun _ => Nat.zero_add _, fun _ => ⟨(Nat.zero_add _).symm, fun t _ h e => by rw [e] at h; rw [show (plainX P v ib cb).ub = .empty from rfl, slt_empty] at h; cases h⟩, fun _ => (Nat.zero_add _).symm⟩
structure SpOK (t : SpanD) : Prop where
  ne : t.ks ≠ []
  len : t.ks.length ≤ 100000
  tr : ∀ k, k ∈ t.ks → 0 ≤ k.tr ∧ k.tr < 18446744073709551616
theorem plain_PI {A : Nat → Prop} {h : Heap} {P : Pts} {v : Lev} {ib cb : Nat} (hP : PtS A P h) (hL : LevS A v h) (hlow : Low A h) (nI : ¬ A ib) (nL : ¬ A P.lb) (nC : ¬ A v.c) (dIL : ib ≠ P.lb) (dIC : ib ≠ v.c) (dLC : P.lb ≠ v.c) (hR : Rise P.us)
    (hks : ∀ t, t ∈ v.W → SpOK t) (hcb : A cb) (hce : cellH h cb 1 = some (.func (.func 91) #[] #[])) (Bi : Blk h ib (iiZ (.pointer (some ⟨cb, 0, none⟩)) P.lb v.c .nilIface (.slice none 0 0) (.slice none 0 0)) 124)
    (Bl : Blk h P.lb (P.C 0) 236) (Bw : Blk h v.c (itL (.slice v.a v.W.length v.cc) (-1)) 239) : PI A (plainX P v ib cb) .nowhere ((plainX P v ib cb).fp (.slice none 0 0)) h := by
  refine ⟨.slice none 0 0, 0, 0, .slice none 0 0, .int .u64 0, 0, false, false, false, 0, ⟨⟨hP, hL, hlow, nI, nL, nC, nI, ?_, Bi.lt, dIL.symm, dIC.symm, dIL, dIC, dLC, hR, hL.ord, ?_, ?_, ?_, ?_, ?_, ?_, .inl rfl⟩, ?_, Bl, ?_, .inl rfl, ?_⟩, rfl, fun b => Iff.rfl⟩
  · intro e; cases e
  · exact Nat.le_of_eq (Nat.zero_add _)
  · intro y t ht
    exact ⟨t, by rw [show (plainX P v ib cb).a0 + y = y from Nat.zero_add y]; exact ht, rfl, fun _ => ⟨rfl, rfl⟩, (fun e => by cases e), fun u _ => ⟨rfl, rfl⟩⟩
  · exact fun t ht => ⟨(hks t ht).ne, (hks t ht).len, (hks t ht).tr⟩
  · exact ⟨cb, rfl, hcb, hce⟩
  · intro e; cases e
  · exact SlR.nil _ _ _ _
  · have h1 : (plainX P v ib cb).P.pa 0 = none := by unfold Pts.pa; rw [if_neg (by omega)]
    have h2 : (plainX P v ib cb).P.pv 0 = .slice none 0 0 := by unfold Pts.pv; rw [if_neg (by omega)]
    have h3 : (plainX P v ib cb).sa 0 = none := IC.sa_no (.inl rfl)
    unfold ibB IC.C
    rw [h1, h2, h3]; exact Bi
  · show LevY v (0 + 0) h
    unfold LevY
    rw [if_pos (by omega)]
    exact ⟨-1, Bw, by simp [lvX]⟩
  · exact ⟨[], Own.nil _ _ _ _, by simp [Value.ownBlock]⟩
theorem WOK.sp {W : List SpanD} (h : WOK W) (hne : ∀ s, s ∈ W → s.ks ≠ []) : ∀ t, t ∈ W → SpOK t := fun t ht => ⟨hne t ht, by have := (h.2.2 t ht).1; omega, (h.2.2 t ht).2⟩
theorem RPAnss.mono {A A' : Nat → Prop} {h : Heap} {v : Value} {l : List PAnsD} (H : RPAnss A h v l) (hA : ∀ b, A b → A' b) : RPAnss A' h v l := SlR.mono H hA fun _ _ _ _ hc => by
  obtain ⟨kv, h1, h2⟩ := hc
  exact ⟨kv, h1, h2.mono hA⟩
theorem c_implSpanInterleaved {χ : Chi} {h : Heap} {A : Nat → Prop} (hA : Low A h) {pv wv sv : Value} {es : List EntD} {W : List SpanD} {steps : List StepD} (hE : REnts A h pv es) (hen : es.length ≤ 1000) (hes : ∀ e, e ∈ es → e.small) (hseq : SeqLow es) (hR : Rise (es.map EntD.user))
    (hW : RSpans A h wv W) (hWm : ∀ s, s ∈ W → SpanD.small s) (hWOK : WOK W) (hWne : ∀ s, s ∈ W → s.ks ≠ []) (hS : RSteps A h sv steps) (hsn : steps.length ≤ 1000) (hz : ∀ s, s ∈ steps → s.key.size ≤ 2147483647) :
    Cl Tryz.prog χ 15 #[pv, wv, (⟨.empty, false⟩ : BndD).v, (⟨.empty, false⟩ : BndD).v, sv] h (fun r h' => RPAnss (Up N0 h h') h' r (walkK es W (fun _ => false) .nowhere steps) ∧ Keep [] h h') := by
  have hWn : W.length ≤ 100000 := by have := hWOK.1; omega
  unfold BndD.v
  refine cl_intro Tryz.func15 rfl rfl rfl ?_
  have K : Keep [] h h := Keep.refl _ _
  refine rG <| rs_w (w_newbox rfl) rfl ?_
  rintro _ h1 ⟨rfl, B1, K1, Z1⟩
  have S1 := K.1; have K := K.new0 K1
  refine rs_w (w_newbox rfl) rfl ?_
  rintro _ h2 ⟨rfl, B2, K2, Z2⟩
  have B1 := K2.blk (by simp) B1
  have S2 := K.1; have K := K.new0 K2
  refine rA rfl rfl <| rN <| rG <| rs_w (w_new zero_keyspan_InterleavingIter) rfl ?_
  rintro _ h3 ⟨rfl, B3, K3, Z3⟩
  have B1 := K3.blk (by simp) B1
  have B2 := K3.blk (by simp) B2
  have S3 := K.1; have K := K.new0 K3
  refine rN <| rG <| rs_w (w_call (vs := []) ok_base_DefaultComparer rfl trivial (c_DefaultComparer2 χ _)) rfl ?_
  rintro _ h4 ⟨rfl, ⟨cs, Bq⟩, K4⟩
  have hbq := Bq.lt
  have B1 := K4.blk (by simp) B1
  have B2 := K4.blk (by simp) B2
  have B3 := K4.blk (by simp) B3
  have K := K.new0 K4; have Z4 := K4.1
  refine rA rfl rfl <| rN <| rG <| rM rfl rfl <| rs_w (w_call (vs := [_]) ok_impl_newList rfl ⟨rfl, trivial⟩ (c_newList (hA.mono (by omega)) (hE.stab (K.st hA)) hen hes)) rfl ?_
  rintro _ h5 ⟨rfl, ⟨P, hP1, hP2, hP3, hP4, Bl, hPt⟩, K5⟩
  have hbl5 := Bl.lt
  have B1 := K5.blk (by simp) B1
  have B2 := K5.blk (by simp) B2
  have B3 := K5.blk (by simp) B3
  try have Bq := (K5).blk (by simp) Bq
  have K := K.new0 K5; have Z5 := K5.1
  refine rA rfl rfl <| rN <| tr_seq ?_
  refine tr_draw [(true, 5), (false, 1)] _ (by kernel_rfl) (by kernel_rfl) (by kernel_rfl) ?_
  refine rx_any (Keep []) (keep_pre _) ?_
  refine rm_v (keep_pre _) (fun h' hk => v_move rfl) ?_
  refine rm_v (keep_pre _) (fun h' hk => v_loadAgg (vs := [_, _]) many_impl_Bound rfl (Blk.sub (hk.blk (by simp) B1) 0 2 rfl)) ?_
  refine rm_w (fun v h' => RBnd (fun x => h5.size ≤ x ∧ x < h'.size) h' v (⟨.empty, false⟩ : BndD).opt) (fun v _ _ k1 k2 hr => (hr.stab (k2.stab fun x hx => ⟨hx.2, by simp⟩)).mono fun x hx => ⟨hx.1, Nat.lt_of_lt_of_le hx.2 k2.1⟩) (fun h' hk => OpW.mono (w_call (vs := [_]) ok_impl_Bound_bytes rfl ⟨rfl, trivial⟩ (c_Bound_bytes χ h' (⟨.empty, false⟩ : BndD) (by decide))) (fun v h'' hv => ⟨hv.2, hv.1.mono fun x hx => ⟨Nat.le_trans hk.1 hx.1, hx.2⟩⟩)) ?_
  refine rm_v (keep_pre _) (fun h' hk => v_loadAgg (vs := [_, _]) many_impl_Bound rfl (Blk.sub (hk.blk (by simp) B2) 0 2 rfl)) ?_
  refine rm_w (fun v h' => RBnd (fun x => h5.size ≤ x ∧ x < h'.size) h' v (⟨.empty, false⟩ : BndD).opt) (fun v _ _ k1 k2 hr => (hr.stab (k2.stab fun x hx => ⟨hx.2, by simp⟩)).mono fun x hx => ⟨hx.1, Nat.lt_of_lt_of_le hx.2 k2.1⟩) (fun h' hk => OpW.mono (w_call (vs := [_]) ok_impl_Bound_bytes rfl ⟨rfl, trivial⟩ (c_Bound_bytes χ h' (⟨.empty, false⟩ : BndD) (by decide))) (fun v h'' hv => ⟨hv.2, hv.1.mono fun x hx => ⟨Nat.le_trans hk.1 hx.1, hx.2⟩⟩)) ?_
  refine rm_end ?_; intro ha Ka; simp only [endM, hypF, ofE, argE, List.nil_append]
  intro v21 h21 v19 h19
  obtain ⟨a1, n1, c1, rfl⟩ := h19.form
  obtain ⟨a2, n2, c2, rfl⟩ := h21.form
  have Bl := Ka.blk (by simp) Bl; have B1 := Ka.blk (by simp) B1; have B2 := Ka.blk (by simp) B2; have B3 := Ka.blk (by simp) B3; have Bq := Ka.blk (by simp) Bq
  have hPt := hPt.stab (Ka.stab fun b hb => ⟨hb.2, by simp⟩)
  have K := K.new0 Ka; have Za := Ka.1
  refine rx_seq <| rs_w (w_call (vs := [_, _, _]) ok_impl_list_SetBounds rfl ⟨rfl, rfl, rfl, trivial⟩ (c_SetBounds Bl)) rfl ?_
  rintro _ h6 ⟨rfl, Bl, K6⟩
  have hlbl := Bl.lt
  have hnl : ∀ x, x ≠ h4.size → x ∉ [h4.size] := fun x hx => by simpa using hx
  have B1 := K6.blk (hnl _ (by omega)) B1; have B2 := K6.blk (hnl _ (by omega)) B2; have B3 := K6.blk (hnl _ (by omega)) B3; have Bq := K6.blk (hnl _ (by omega)) Bq
  have hPt := hPt.stab (K6.stab fun b hb => ⟨by have := hb.2; omega, hnl _ (by have := hb.1; omega)⟩)
  have hlo1 := h19.stab (K6.stab fun b hb => ⟨hb.2, hnl _ (by have := hb.1; omega)⟩)
  have hup1 := h21.stab (K6.stab fun b hb => ⟨hb.2, hnl _ (by have := hb.1; omega)⟩)
  have K := K.new1 K6 (.inr (by omega)); have Z6 := K6.1
  refine rs_nil <| q_con ?_
  refine rx_nil ?_
  refine q_thn <| tr_seq ?_
  refine tr_draw [(true, 16), (false, 1)] _ (by kernel_rfl) (by kernel_rfl) (by kernel_rfl) ?_
  refine rx_any (Keep []) (keep_pre _) ?_
  refine rm_v (keep_pre _) (fun h' hk => v_move rfl) ?_
  refine rm_v (keep_pre _) (fun h' hk => v_move rfl) ?_
  refine rm_v (keep_pre _) (fun h' hk => v_makeIface u_p_impl_list rfl) ?_
  refine rm_v (keep_pre _) (fun h' hk => v_move rfl) ?_
  refine rm_v (keep_pre _) (fun h' hk => v_nilCheck_ptr rfl) ?_
  refine rm_v (keep_pre _) (fun h' hk => v_fieldAddr fa_base_Comparer_0 rfl) ?_
  refine rm_v (keep_pre _) (fun h' hk => v_load one_base_Compare rfl (Blk.cell (hk.blk (by simp) Bq) _ rfl)) ?_
  refine rm_v (keep_pre _) (fun h' hk => v_move rfl) ?_
  refine rm_w (fun v h' => PSpansN (Up N0 h6 h') h' v W) (fun v _ _ k1 k2 hr => (hr.stab (k2.st ((n0low _).up k1.1))).mono (Up.grow k2.1)) (fun h' hk => OpW.mono (w_call (vs := [_]) ok_impl_spans rfl ⟨rfl, trivial⟩ (c_spansN χ h' A (hA.mono (K.new0 hk).1) _ W (hW.stab ((K.new0 hk).st hA)) hWn hWm)) (fun v h'' hv => ⟨hv.2, hv.1.mono (Up.trans2 hk.1 (Nat.le_refl _))⟩)) ?_
  refine rm_o 31 (fun v h' => ∃ b a c, v = .pointer (some ⟨b, 0, none⟩) ∧ h6.size ≤ b ∧ Blk h' b (itL (.slice a W.length c) (-1)) 239 ∧ PSpansN (fun x => h6.size ≤ x ∧ x < b) h' (.slice a W.length c) W) rfl (by kernel_rfl) (fun v _ _ k1 k2 hr => by obtain ⟨b, a, c, e, hb, B, hp⟩ := hr; exact ⟨b, a, c, e, hb, k2.blk (by simp) B, hp.stab (k2.stab fun x hx => ⟨by have := B.lt; have := hx.2; omega, by simp⟩)⟩) (fun u h' hk hu => by
    obtain ⟨a, c, rfl⟩ := SlR.form2 hu
    exact OpW.mono (w_call (vs := [_, _]) ok_keyspan_NewIter rfl ⟨rfl, rfl, trivial⟩ (c_NewIter χ h' a W.length c)) (fun v h'' hv => by
      obtain ⟨e, B, Kn⟩ := hv
      exact ⟨Kn, _, a, c, e, hk.1, B, (PSpansN.stab hu (Kn.st ((n0low _).up hk.1))).mono (fun x hx => hx.elim (fun e => e.elim) id)⟩)) ?_
  refine rm_o 32 (fun v h' => ∃ b a c, v = .iface 131 (.pointer (some ⟨b, 0, none⟩)) ∧ h6.size ≤ b ∧ Blk h' b (itL (.slice a W.length c) (-1)) 239 ∧ PSpansN (fun x => h6.size ≤ x ∧ x < b) h' (.slice a W.length c) W) rfl (by kernel_rfl) (fun v _ _ k1 k2 hr => by obtain ⟨b, a, c, e, hb, B, hp⟩ := hr; exact ⟨b, a, c, e, hb, k2.blk (by simp) B, hp.stab (k2.stab fun x hx => ⟨by have := B.lt; have := hx.2; omega, by simp⟩)⟩) (fun u h' hk hu => by
    obtain ⟨b, a, c, rfl, hb, B, hp⟩ := hu
    exact (v_makeIface u_p_keyspan_Iter rfl).w.mono (fun _ _ e => by obtain ⟨e1, e2⟩ := e; subst e1; subst e2; exact ⟨Keep.refl _ _, b, a, c, rfl, hb, B, hp⟩)) ?_
  refine rm_v (keep_pre _) (fun h' hk => v_loadAgg (vs := [_, _]) many_impl_Bound rfl (Blk.sub (hk.blk (by simp) B1) 0 2 rfl)) ?_
  refine rm_w (fun v h' => RBnd (fun x => h6.size ≤ x ∧ x < h'.size) h' v (⟨.empty, false⟩ : BndD).opt) (fun v _ _ k1 k2 hr => (hr.stab (k2.stab fun x hx => ⟨hx.2, by simp⟩)).mono fun x hx => ⟨hx.1, Nat.lt_of_lt_of_le hx.2 k2.1⟩) (fun h' hk => OpW.mono (w_call (vs := [_]) ok_impl_Bound_bytes rfl ⟨rfl, trivial⟩ (c_Bound_bytes χ h' (⟨.empty, false⟩ : BndD) (by decide))) (fun v h'' hv => ⟨hv.2, hv.1.mono fun x hx => ⟨Nat.le_trans hk.1 hx.1, hx.2⟩⟩)) ?_
  refine rm_v (keep_pre _) (fun h' hk => v_loadAgg (vs := [_, _]) many_impl_Bound rfl (Blk.sub (hk.blk (by simp) B2) 0 2 rfl)) ?_
  refine rm_w (fun v h' => RBnd (fun x => h6.size ≤ x ∧ x < h'.size) h' v (⟨.empty, false⟩ : BndD).opt) (fun v _ _ k1 k2 hr => (hr.stab (k2.stab fun x hx => ⟨hx.2, by simp⟩)).mono fun x hx => ⟨hx.1, Nat.lt_of_lt_of_le hx.2 k2.1⟩) (fun h' hk => OpW.mono (w_call (vs := [_]) ok_impl_Bound_bytes rfl ⟨rfl, trivial⟩ (c_Bound_bytes χ h' (⟨.empty, false⟩ : BndD) (by decide))) (fun v h'' hv => ⟨hv.2, hv.1.mono fun x hx => ⟨Nat.le_trans hk.1 hx.1, hx.2⟩⟩)) ?_
  refine rm_o2 35 37 (fun v h' => ∃ a1 n1 c1 a2 n2 c2, v = .agg #[.nilIface, .slice a1 n1 c1, .slice a2 n2 c2] ∧ RBnd (fun x => h6.size ≤ x ∧ x < h'.size) h' (.slice a1 n1 c1) (⟨.empty, false⟩ : BndD).opt ∧ RBnd (fun x => h6.size ≤ x ∧ x < h'.size) h' (.slice a2 n2 c2) (⟨.empty, false⟩ : BndD).opt) rfl rfl rfl (by kernel_rfl) (by kernel_rfl)
    (fun v _ _ k1 k2 hr => by
      obtain ⟨a1, n1, c1, a2, n2, c2, e, r1, r2⟩ := hr
      exact ⟨a1, n1, c1, a2, n2, c2, e, (r1.stab (k2.stab fun x hx => ⟨hx.2, by simp⟩)).mono fun x hx => ⟨hx.1, Nat.lt_of_lt_of_le hx.2 k2.1⟩, (r2.stab (k2.stab fun x hx => ⟨hx.2, by simp⟩)).mono fun x hx => ⟨hx.1, Nat.lt_of_lt_of_le hx.2 k2.1⟩⟩)
    (fun u u2 h' hk hu hu2 => by
      obtain ⟨a1, n1, c1, rfl⟩ := RBnd.form hu
      obtain ⟨a2, n2, c2, rfl⟩ := RBnd.form hu2
      exact (v_build2 rfl rfl (bld_keyspan_InterleavingIterOpts_1_2 _ _ _ _ _ _)).w.mono (fun _ _ e => by obtain ⟨e1, e2⟩ := e; subst e1; subst e2; exact ⟨Keep.refl _ _, _, _, _, _, _, _, rfl, hu, hu2⟩)) ?_
  refine rm_end ?_; intro hb Kb; simp only [endM, hypF, ofE, argE, List.nil_append]
  intro v38 h38 v37 _ v35 _ v33 h33 v32 _ v31 _
  obtain ⟨bi, wa, wc, rfl, hbi, Bw, hPW⟩ := h33
  obtain ⟨b1a, b1n, b1c, b2a, b2n, b2c, rfl, hlo2, hup2⟩ := h38
  have Bl := Kb.blk (by simp) Bl; have B3 := Kb.blk (by simp) B3; have Bq := Kb.blk (by simp) Bq
  have hPt := hPt.stab (Kb.stab fun b hb => ⟨by have := hb.2; omega, by simp⟩)
  have hlo1 := hlo1.stab (Kb.stab fun b hb => ⟨by have := hb.2; omega, by simp⟩)
  have hup1 := hup1.stab (Kb.stab fun b hb => ⟨by have := hb.2; omega, by simp⟩)
  have K := K.new0 Kb; have Zb := Kb.1
  have hbl := Bw.lt
  refine rx_seq <| rs_w (w_call (vs := [_, _, _, _, _]) ok_keyspan_InterleavingIter_Init rfl ⟨rfl, rfl, rfl, rfl, rfl, trivial⟩ (c_iiInit B3 rfl Bq (by omega))) rfl ?_
  rintro _ h7 ⟨rfl, Bi, K7⟩
  have hni : ∀ x, x ≠ h2.size → x ∉ [h2.size] := fun x hx => by simpa using hx
  have Bw := K7.blk (hni _ (by omega)) Bw; have Bl := K7.blk (hni _ (by omega)) Bl; have Bq := K7.blk (hni _ (by omega)) Bq
  have hPW := hPW.stab (K7.stab fun x hx => ⟨by have := hx.2; omega, hni _ (by have := hx.1; omega)⟩)
  have hPt := hPt.stab (K7.stab fun b hb => ⟨by have := hb.2; omega, hni _ (by have := hb.1; omega)⟩)
  have hlo1 := hlo1.stab (K7.stab fun b hb => ⟨by have := hb.2; omega, hni _ (by have := hb.1; omega)⟩)
  have hup1 := hup1.stab (K7.stab fun b hb => ⟨by have := hb.2; omega, hni _ (by have := hb.1; omega)⟩)
  have hlo2 := hlo2.stab (K7.stab fun b hb => ⟨hb.2, hni _ (by have := hb.1; omega)⟩)
  have hup2 := hup2.stab (K7.stab fun b hb => ⟨hb.2, hni _ (by have := hb.1; omega)⟩)
  have K := K.new1 K7 (.inr (by omega)); have Z7 := K7.1
  refine rs_nil <| q_con ?_
  refine rx_nil ?_
  have e1 : Value.slice a1 n1 c1 = .slice none 0 0 := hlo1
  have e2 : Value.slice a2 n2 c2 = .slice none 0 0 := hup1
  have e3 : Value.slice b1a b1n b1c = .slice none 0 0 := hlo2
  have e4 : Value.slice b2a b2n b2c = .slice none 0 0 := hup2
  obtain ⟨v, hv1, hv2, hv3, hv4, hLS, _, _⟩ := mk_lev hPW hWOK bi
  rw [e3, e4] at Bi
  rw [e1, e2] at Bl
  have Bl : Blk h7 P.lb (P.C 0) 236 := by rw [hP2]; show Blk _ _ (lsC P.ka P.es.length P.kc P.va P.vn P.vc _ P.lo P.up) _; rw [hP3, hP4]; exact Bl
  have hsz7 := K.1
  have hlowA : Low (fun b => h3.size ≤ b ∧ b < h7.size ∧ b ≠ h4.size ∧ b ≠ bi) h7 := fun b hb => hb.2.1
  have hPI := plain_PI (A := fun b => A b ∨ (h3.size ≤ b ∧ b < h7.size ∧ b ≠ h4.size ∧ b ≠ bi)) (P := P) (v := v) (ib := h2.size) (cb := h3.size) (hPt.mono fun b hb => .inr ⟨by have := hb.1; omega, by have := hb.2; omega, by have := hb.1; omega, by have := hb.2; omega⟩) (hLS.mono fun b hb => .inr ⟨by have := hb.1; omega, by have := hb.2; omega, by have := hb.1; omega, by have := hb.2; omega⟩) (fun b hb => hb.elim (fun ha => by have := hA b ha; omega) (fun hb => hb.2.1))
    (fun hb => hb.elim (fun ha => by have := hA _ ha; omega) (fun hb => by have := hb.1; omega)) (fun hb => hb.elim (fun ha => by have := hA _ ha; omega) (fun hb => hb.2.2.1 hP2)) (fun hb => hb.elim (fun ha => by have := hA _ ha; omega) (fun hb => hb.2.2.2 hv4)) (by omega) (by omega) (by omega) (by rw [Pts.us, hP1]; exact hR) (by rw [hv1]; exact hWOK.sp hWne) (.inr ⟨Nat.le_refl _, by omega, by omega, by omega⟩) (Bq.cell 1 rfl) (by rw [hP2, hv4]; exact Bi) Bl (by rw [hv4, hv1, hv2, hv3]; exact Bw)
  have hlowA2 : Low (fun b => A b ∨ (h3.size ≤ b ∧ b < h7.size ∧ b ≠ h4.size ∧ b ≠ bi)) h7 := fun b hb => hb.elim (fun ha => by have := hA b ha; omega) (fun hb => hb.2.1)
  refine q_thn <| rG <| rM rfl rfl ?_
  refine rs_w (w_call (vs := [_, _]) ok_impl_walkPoints rfl ⟨rfl, rfl, trivial⟩ (c_walkPoints (X := plainX P v h2.size h3.size) hlowA2 (plain_noB _ _ _ _).save (by rw [show (plainX P v h2.size h3.size).P.es = P.es from rfl, hP1]; exact hseq) hPI (fun b hb hf => by
      have h9 : b = h2.size ∨ b = P.lb ∨ b = v.c := by
        rcases hf with e | e | e | e | e
        · exact .inl e
        · exact .inr (.inl e)
        · exact .inr (.inr e)
        · exact .inl e
        · simp [Value.ownBlock] at e
      rcases hb with ha | hb
      · have := hA b ha; omega
      · omega) ((hS.stab (K.st hA)).mono (fun b hb => .inl hb)) hsn hz (fun s _ => plain_key _ _ _ _ s))) rfl ?_
  rintro r9 h8 ⟨hans, KP⟩
  refine rA rfl rfl <| rN <| tr_ret <| q_ret (res_tmp rfl rfl) ?_
  have h60 := K.1
  rw [show (plainX P v h2.size h3.size).P.es = es from hP1, show (plainX P v h2.size h3.size).V = W from hv1, mk_none (X := plainX P v h2.size h3.size) rfl] at hans
  exact ⟨hans.mono (n0up h60 (Nat.le_refl _)), keep_of_p K KP (fun b hb => by
    rcases hb with e | e | e | e | e
    · have e : b = h2.size := e
      omega
    · have e : b = P.lb := e
      omega
    · have e : b = v.c := e
      omega
    · have e : b = h2.size := e
      omega
    · simp [Value.ownBlock] at e)⟩
set_option maxHeartbeats 2000000
def okM (q : Option PP) : Bool := match q with | some (.pt _) => true | some (.ins _ _) => true | _ => false
section
variable {h h' : Heap} {c : Nat} {n x : Int} {T : TypeId} {p p' : PP} {q : Option PP}
end
set_option maxHeartbeats 4000000
section
variable {es : List EntD} {V : List SpanD}
theorem mkE_st {k : Nat} (h : stAt (es.map EntD.user) V k = true) : (markE es V k).user = atS V (mst (es.map EntD.user) V k).2 := by
  unfold markE; rw [h]; rfl
theorem mkE_pt {k : Nat} (hk : k < nM (es.map EntD.user) V) (h : stAt (es.map EntD.user) V k = false) : (markE es V k).user = atB (es.map EntD.user) (mst (es.map EntD.user) V k).1 ∧ (mst (es.map EntD.user) V k).1 < (es.map EntD.user).length := by
  have hp := pt_lt (us := es.map EntD.user) (W := V) hk h
  refine ⟨?_, hp⟩
  have hp' := hp
  rw [List.length_map] at hp'
  obtain ⟨e, he⟩ := ex_get (L := es) hp'
  unfold markE; rw [h]
  rw [atB_some (x := e.user) (by rw [List.getElem?_map, he]; rfl), he]; rfl
end
set_option maxHeartbeats 1000000
def fit13 (l : List EntD) : Bool := decide (l.length ≤ MX) && l.all fit12
def pless (a b : EntD) : Bool := if seq' a.user b.user then decide (b.tr < a.tr) else slt a.user b.user
def ERng (e : EntD) : Prop := 0 ≤ e.tr ∧ e.tr < 18446744073709551616
def seqB (e : EntD) : Bool := decide (e.tr.toNat / 256 < 72057594037927935)
def ptsB (L : List EntD) : Bool := L.all seqB && chainB pless L
theorem pless_le {a b : EntD} (h : pless a b = true) : sle a.user b.user = true := by
  unfold pless at h
  cases e : seq' a.user b.user with
  | true => rw [seq_iff.1 e]; exact sle_refl _
  | false => rw [e] at h; exact slt_sle h
theorem rise_of {L : List EntD} (h : chainB pless L = true) : Rise (L.map EntD.user) := by
  have h1 := (chainB_iff pless L).1 h
  have key : ∀ d i, i + d < L.length → ∀ x y, L[i]? = some x → L[i + d]? = some y → sle x.user y.user = true := by
    intro d
    induction d with
    | zero => intro i _ x y hx hy; rw [Nat.add_zero, hx] at hy; cases hy; exact sle_refl _
    | succ d ih =>
      intro i hi x y hx hy
      obtain ⟨z, hz⟩ := ex_get (L := L) (k := i + d) (by omega)
      exact sle_trans (ih i (by omega) x z hx hz) (pless_le (h1 (i + d) z y hz hy))
  unfold Rise
  rw [List.pairwise_map, List.pairwise_iff_getElem]
  intro i j hi hj hij
  exact key (j - i) i (by omega) _ _ (List.getElem?_eq_getElem hi) (by rw [show i + (j - i) = j from by omega]; exact List.getElem?_eq_getElem hj)
theorem seqlow_of {L : List EntD} (h : L.all seqB = true) (hr : ∀ e, e ∈ L → ERng e) : SeqLow L := fun e he => by
  have h1 := List.all_eq_true.1 h e he
  have h2 := hr e he
  simp only [seqB, decide_eq_true_eq] at h1
  unfold ERng at h2
  exact ⟨e.tr.toNat, by omega, h1, by omega⟩
theorem fit13_small {L : List EntD} (h : fit13 L = true) : ∀ e, e ∈ L → e.small := fun e he => by
  simp only [fit13, Bool.and_eq_true, List.all_eq_true, decide_eq_true_eq] at h
  have := h.2 e he
  simp only [fit12, Bool.and_eq_true, decide_eq_true_eq] at this
  exact this
theorem nxF_no (N : Nat) : ∀ f k, nxF (fun _ => false) N f k = k
  | 0, k => rfl
  | f + 1, k => by unfold nxF; simp
theorem nB_no : ∀ k, nB (fun _ => false) k = k
  | 0 => rfl
  | k + 1 => by unfold nB; simp
theorem stepK_no (us : List ByteArray) (V : List SpanD) (p : PP) (s : StepD) : stepK us V (fun _ => false) p s = stepM us V p s := by
  have hF : ∀ N k, nF (fun _ => false) N k = k := fun N k => nxF_no N _ k
  have e1 : kFirst (fun _ => false) (nM us V) = ppFirst us V := by
    unfold kFirst ppFirst; rw [hF]
    by_cases h : nM us V = 0
    · rw [if_pos h, if_neg (by omega)]
    · rw [if_neg h, if_pos (by omega)]
  have e2 : kLast (fun _ => false) (nM us V) = ppLast us V := by unfold kLast ppLast; rw [nB_no]
  have e3 : kNext (fun _ => false) (nM us V) p = ppNext us V p := by cases p <;> simp only [kNext, ppNext, hF, ptF]
  have e4 : kPrev (fun _ => false) (nM us V) p = ppPrev us V p := by cases p <;> simp only [kPrev, ppPrev, nB_no, ptB]
  have e5 : kGE (fun _ => false) us V s.key = ppGE us V s.key := by unfold kGE ppGE; rw [hF]; rfl
  have e6 : kLT (fun _ => false) us V s.key = ppLT us V s.key := by unfold kLT ppLT; rw [nB_no]; rfl
  unfold stepK stepM
  rw [e1, e2, e3, e4, e5, e6]
theorem walkK_no (es : List EntD) (V : List SpanD) : ∀ (l : List StepD) (p : PP), walkK es V (fun _ => false) p l = walkM es V p l
  | [], p => rfl
  | x :: l, p => by simp only [walkK, walkM, stepK_no, walkK_no es V l]
theorem c_zzFits13 (χ : Chi) (h : Heap) (A : Nat → Prop) (v : Value) (L : List EntD) (hL : REnts A h v L) :
    Cl Tryz.prog χ 10 #[v] h (fun r h' => r = .bool (fit13 L) ∧ Keep [] h h') := by
  obtain ⟨hlen, a, c, rfl, hx⟩ := SlR.form hL
  refine cl_intro Tryz.func10 rfl rfl rfl ?_
  have K : Keep [] h h := Keep.refl _ _
  refine rG <| rA rfl rfl <| rN <| tr_seq <| rG <| rM rfl rfl <| rs_v (v_len u_sl_spec_Entry rfl) rfl ?_
  refine rs_v (v_gt rfl rfl) rfl ?_
  refine rN ?_
  refine tr_if rfl (fun hif => ?_) (fun hif => ?_)
  · -- yes
    simp only [dT, dF] at hif
    refine rG <| rA rfl rfl <| rN <| tr_ret <| q_thn_ret <| q_ret (res_tmp rfl rfl) ?_
    refine ⟨?_, K⟩
    simp only [fit13, ofNat_gt hif, Bool.false_and]
  -- no
  simp only [dT, dF] at hif
  have hmx := ofNat_le hif
  clear hif
  refine tr_skip <| q_thn <| tr_seq <| rG <| rM rfl rfl <| rs_v (v_len u_sl_spec_Entry rfl) rfl ?_
  refine rM rfl rfl <| rN <| tr_block ?_
  refine tr_loop (fun m E h' => ∃ k, k ≤ L.length ∧ m = L.length - k ∧ E = [(0, .slice a L.length c), (8, .slice a L.length c), (9, .int .i64 (L.length : Int)), (10, .int .i64 (k : Int))] ∧ Keep [] h h' ∧ (L.take k).all fit12 = true) L.length [(0, _), (8, _), (9, _), (10, _)] ⟨rfl, rfl, rfl, rfl, trivial⟩ ⟨0, Nat.zero_le _, rfl, rfl, K, rfl⟩ ?_
  rintro m E hL1 ⟨k, hk, rfl, rfl, K, hall⟩
  refine rG <| rs_v (v_lt rfl rfl) rfl <| rN <| tr_seq ?_
  refine tr_ifn rfl (fun hif => ?_) (fun hif => ?_)
  · -- no
    simp only [dT, dF] at hif
    have hkk : k = L.length := by omega
    subst hkk
    refine tr_exit <| q_thn_exit <| q_lp_exit <| q_blk_hit <| q_thn <| rG <| rA rfl rfl <| rN <| tr_ret <| q_ret (res_tmp rfl rfl) ?_
    refine ⟨?_, K⟩
    rw [List.take_length] at hall
    simp only [fit13, hall, hmx, Bool.true_and]
  -- yes
  simp only [dT, dF] at hif
  rcases hx with rfl | ⟨b, o, rfl, hAb, hR⟩
  · simp at hif; omega
  obtain ⟨x, hxk⟩ := ex_get (L := L) (k := k) (by omega)
  have hcells : CellsAt _ b (o + k * 3) x.cells := K.cells (by simp) (hR k x hxk)
  refine tr_skip <| q_thn <| tr_seq <| tr_block <| rG <| rs_v (v_indexAddrN u_sl_spec_Entry siz_spec_Entry rfl rfl (by omega)) rfl ?_
  refine rs_v (v_loadAgg (vs := [_, _, _]) many_spec_Entry rfl (by exact hcells)) rfl ?_
  refine rs_w (w_new zero_spec_Entry) rfl ?_
  rintro _ h2 ⟨rfl, B2, K2, Z2⟩
  have S2 := K.1; have K := K.new0 K2
  refine rs_w0 (w_put siz_spec_Entry rfl rfl rfl rfl B2 rfl) ?_
  rintro _ h3 ⟨B3, K3⟩
  have B2 := B3; have K := K.new1 K3 (by first | (right; omega) | (left; simp; done)); have Z3 := K3.1
  refine rN <| rG <| rs_v (v_loadAgg (vs := [_, _, _]) many_spec_Entry rfl (by exact B2.sub _ 3 rfl)) rfl ?_
  refine rs_w (w_call (vs := [_]) ok_laws_zzFits12 rfl ⟨rfl, trivial⟩ (c_zzFits12 χ _ x)) rfl ?_
  rintro _ h4 ⟨rfl, K4⟩
  have B2 := K4.blk (by simp) B2
  have K := K.new0 K4; have Z4 := K4.1
  refine rs_v (v_not rfl) rfl <| rN ?_
  refine tr_if rfl (fun hif => ?_) (fun hif => ?_)
  · -- yes
    simp only [Bool.not_eq_true'] at hif
    refine rG <| rA rfl rfl <| rN <| tr_ret <| q_blk_ret <| q_thn_ret ?_
    refine q_lp_ret ?_
    refine q_blk_ret <| q_thn_ret <| q_ret (res_tmp rfl rfl) ?_
    refine ⟨?_, K⟩
    simp only [fit13, all_hit hxk hif, Bool.and_false]
  -- no
  simp only [Bool.not_eq_false'] at hif
  refine tr_skip <| q_blk_n <| q_thn <| tr_reg <| rs_v (v_add rfl rfl (by omega) (by omega)) rfl ?_
  refine rM rfl rfl <| rs_nil ?_
  refine q_lp (L.length - (k + 1)) [(0, _), (8, _), (9, _), (10, _)] (by omega) ⟨rfl, rfl, rfl, rfl, trivial⟩ ⟨k + 1, by omega, rfl, rfl, K, ?_⟩
  rw [take_all hxk, hall, hif]
  rfl
theorem c_PointLess (χ : Chi) (h : Heap) (x y : EntD) :
    Cl Tryz.prog χ 50 #[.agg x.cells.toArray, .agg y.cells.toArray] h (fun r h' => r = .bool (pless x y) ∧ Keep [] h h') := by
  refine cl_intro Tryz.func50 rfl rfl rfl ?_
  have K : Keep [] h h := Keep.refl _ _
  refine rG <| rs_w (w_newbox rfl) rfl ?_
  rintro _ h1 ⟨rfl, B1, K1, Z1⟩
  have S1 := K.1; have K := K.new0 K1
  refine rs_w (w_newbox rfl) rfl ?_
  rintro _ h2 ⟨rfl, B2, K2, Z2⟩
  have B1 := K2.blk (by simp) B1
  have S2 := K.1; have K := K.new0 K2
  refine rA rfl rfl <| rN <| tr_seq <| rG <| rF fa_spec_Entry_0 rfl rfl <| rs_v (v_load one_string rfl (by exact B1.cell _ rfl)) rfl ?_
  refine rF fa_spec_Entry_0 rfl rfl <| rs_v (v_load one_string rfl (by exact B2.cell _ rfl)) rfl ?_
  refine rs_v (v_sne rfl rfl) rfl ?_
  refine rN ?_
  refine tr_if rfl (fun hif => ?_) (fun hif => ?_)
  · -- yes
    skip
    refine rG <| rF fa_spec_Entry_0 rfl rfl <| rs_v (v_load one_string rfl (by exact B1.cell _ rfl)) rfl ?_
    refine rF fa_spec_Entry_0 rfl rfl <| rs_v (v_load one_string rfl (by exact B2.cell _ rfl)) rfl ?_
    refine rs_v (v_slt rfl rfl) rfl ?_
    refine rA rfl rfl <| rN <| tr_ret <| q_thn_ret <| q_ret (res_tmp rfl rfl) ?_
    exact ⟨by unfold pless; rw [if_neg (by simpa using hif)], K⟩
  -- no
  skip
  refine tr_skip <| q_thn <| rG <| rF fa_spec_Entry_1 rfl rfl <| rs_v (v_load one_uint64 rfl (by exact B1.cell _ rfl)) rfl ?_
  refine rF fa_spec_Entry_1 rfl rfl <| rs_v (v_load one_uint64 rfl (by exact B2.cell _ rfl)) rfl ?_
  refine rs_v (v_gt rfl rfl) rfl ?_
  refine rA rfl rfl <| rN <| tr_ret <| q_ret (res_tmp rfl rfl) ?_
  exact ⟨by unfold pless; rw [if_pos (by simpa using hif)], K⟩
theorem c_PointsWell (χ : Chi) (h : Heap) (A : Nat → Prop) (hA : ∀ b, A b → b < h.size) (v : Value) (L : List EntD) (hL : REnts A h v L) (hrg : ∀ e, e ∈ L → ERng e) :
    Cl Tryz.prog χ 13 #[v] h (fun r h' => r = .bool (ptsB L) ∧ Keep [] h h') := by
  obtain ⟨hlen, a, c, rfl, hx⟩ := SlR.form hL
  refine cl_intro Tryz.func13 rfl rfl rfl ?_
  have K : Keep [] h h := Keep.refl _ _
  refine rG <| rA rfl rfl <| rN <| tr_seq <| rG <| rM rfl rfl <| rs_v (v_len u_sl_spec_Entry rfl) rfl ?_
  refine rM rfl rfl <| rN <| tr_block ?_
  refine tr_loop (fun m E h' => ∃ k, k ≤ L.length ∧ m = L.length - k ∧ E = [(0, .slice a L.length c), (5, .slice a L.length c), (6, .int .i64 (L.length : Int)), (7, .int .i64 (k : Int))] ∧ Keep [] h h' ∧ (L.take k).all seqB = true ∧ ∀ (i : Nat) x y, i + 1 < k → L[i]? = some x → L[i + 1]? = some y → pless x y = true) L.length [(0, _), (5, _), (6, _), (7, _)] ⟨rfl, rfl, rfl, rfl, trivial⟩ ⟨0, Nat.zero_le _, rfl, rfl, K, rfl, fun i _ _ hi => by omega⟩ ?_
  rintro m E hL1 ⟨k, hk, rfl, rfl, K, hall, hch⟩
  refine rG <| rs_v (v_lt rfl rfl) rfl <| rN <| tr_seq ?_
  refine tr_ifn rfl (fun hif => ?_) (fun hif => ?_)
  · -- no
    simp only [dT, dF] at hif
    have hkk : k = L.length := by omega
    subst hkk
    refine tr_exit <| q_thn_exit <| q_lp_exit <| q_blk_hit <| q_thn <| rG <| rA rfl rfl <| rN <| tr_ret <| q_ret (res_tmp rfl rfl) ?_
    refine ⟨?_, K⟩
    rw [List.take_length] at hall
    have : chainB pless L = true := (chainB_iff _ L).2 fun i x y hx hy => hch i x y (by have := (List.getElem?_eq_some_iff.1 hy).1; omega) hx hy
    simp only [ptsB, hall, this]; rfl
  -- yes
  simp only [dT, dF] at hif
  rcases hx with rfl | ⟨b, o, rfl, hAb, hR⟩
  · simp at hif; omega
  obtain ⟨x, hxk⟩ := ex_get (L := L) (k := k) (by omega)
  have hcells : CellsAt _ b (o + k * 3) x.cells := K.cells (by simp) (hR k x hxk)
  obtain ⟨hr1, hr2⟩ := hrg x (List.mem_of_getElem? hxk)
  obtain ⟨T, hT⟩ : ∃ T : Nat, x.tr = (T : Int) := ⟨x.tr.toNat, by omega⟩
  have hTl : T < 18446744073709551616 := by omega
  refine tr_skip <| q_thn <| tr_seq <| tr_block <| rG <| rM rfl rfl <| rs_v (v_indexAddrN u_sl_spec_Entry siz_spec_Entry rfl rfl (by omega)) rfl ?_
  refine rs_v (v_loadAgg (vs := [_, _, _]) many_spec_Entry rfl (by exact hcells)) rfl ?_
  refine rs_w (w_new zero_spec_Entry) rfl ?_
  rintro _ h2 ⟨rfl, B2, K2, Z2⟩
  have S2 := K.1; have K := K.new0 K2
  refine rA rfl rfl <| rs_w0 (w_put siz_spec_Entry rfl rfl rfl rfl B2 rfl) ?_
  rintro _ h3 ⟨B3, K3⟩
  have B2 := B3; have K := K.new1 K3 (by first | (right; omega) | (left; simp; done)); have Z3 := K3.1
  refine rN ?_
  refine tr_cut (fun E h' => ∃ bad, E = [(0, .slice (some ⟨b, o, none⟩) L.length c), (5, .slice (some ⟨b, o, none⟩) L.length c), (6, .int .i64 (L.length : Int)), (7, .int .i64 (k : Int)), (29, .bool bad)] ∧ Keep [] h h' ∧ (bad = false ↔ seqB x = true ∧ ∀ j y, k = j + 1 → L[j]? = some y → pless y x = true)) ?_ ?_
  ·
    have hcall : ∀ {h' : Heap}, Cl Tryz.prog χ 49 #[.int .u64 x.tr] h' (fun r h'' => r = .int .u64 ((T / 256 : Nat) : Int) ∧ Keep [] h' h'') := by intro h'; rw [hT]; exact c_SpanSeq hTl
    have hse : seqB x = decide (T / 256 < 72057594037927935) := by unfold seqB; rw [hT]; rfl
    rcases Bool.eq_false_or_eq_true (seqB x) with hf | hf
    rcases Nat.eq_zero_or_pos k with hk0 | hk0
    · -- the first one
      have hz : decide ((0 : Int) < (k : Int)) = false := by simp; omega
      have hf2 : decide ((72057594037927935 : Int) ≤ ((T / 256 : Nat) : Int)) = false := by rw [hse, decide_eq_true_eq] at hf; rw [decide_eq_false_iff_not]; omega
      refine tr_any (Keep []) (keep_pre _) (by kernel_rfl) (by kernel_rfl) ?_
      refine rm_v (keep_pre _) (fun h' hk => v_fieldAddr fa_spec_Entry_1 rfl) ?_
      refine rm_v (keep_pre _) (fun h' hk => v_load one_uint64 rfl (by exact (hk.blk (by simp) B2).cell _ rfl)) ?_
      refine rm_c (fun h' hk => w_call (vs := [_]) ok_spec_SpanSeq rfl ⟨rfl, trivial⟩ hcall) ?_
      refine rm_v (keep_pre _) (fun h' hk => v_ge rfl rfl) ?_
      refine rm_v (keep_pre _) (fun h' hk => v_move rfl) ?_
      refine rm_gv (keep_pre _) rfl (lkm hf2) (fun h' hk => v_move rfl) ?_
      refine rm_gv (keep_pre _) rfl (lkm hf2) (fun h' hk => v_gt rfl rfl) ?_
      refine rm_gv (keep_pre _) rfl (lkm hf2) (fun h' hk => v_move rfl) ?_
      refine rm_gs (keep_pre _) rfl (lkm hz) rfl ?_
      refine rm_gs (keep_pre _) rfl (lkm hz) rfl ?_
      refine rm_gs (keep_pre _) rfl (lkm hz) rfl ?_
      refine rm_gs (keep_pre _) rfl (lkm hz) rfl ?_
      refine rm_gs (keep_pre _) rfl (lkm hz) rfl ?_
      refine rm_gs (keep_pre _) rfl (lkm hz) rfl ?_
      refine rm_gs (keep_pre _) rfl (lkm hz) rfl ?_
      refine rm_gs (keep_pre _) rfl (lkm hz) rfl ?_
      refine rm_gv (keep_pre _) rfl (lkm hf2) (fun h' hk => v_pick_f (lkb hz) rfl) ?_
      refine rm_v (keep_pre _) (fun h' hk => v_pick_f (lkb hf2) rfl) ?_
      refine rm_end ?_; intro h4 K4; simp only [endM, hypF, ofE, argE, List.nil_append]
      have B2 := K4.blk (by simp) B2
      have K := K.new0 K4; have Z4 := K4.1
      refine q_cut [(0, _), (5, _), (6, _), (7, _), (29, _)] ⟨rfl, rfl, rfl, rfl, rfl, trivial⟩ ⟨_, rfl, K, ⟨fun _ => ⟨hf, fun j y hj => by omega⟩, fun _ => rfl⟩⟩
    · -- a later one
      obtain ⟨j, rfl⟩ : ∃ j, k = j + 1 := ⟨k - 1, by omega⟩
      obtain ⟨y, hyj⟩ := ex_get (L := L) (k := j) (by omega)
      have hcells2 : CellsAt _ b (o + j * 3) y.cells := K.cells (by simp) (hR j y hyj)
      have hz : decide ((0 : Int) < ((j + 1 : Nat) : Int)) = true := by simp
      have hf2 : decide ((72057594037927935 : Int) ≤ ((T / 256 : Nat) : Int)) = false := by rw [hse, decide_eq_true_eq] at hf; rw [decide_eq_false_iff_not]; omega
      refine tr_any (Keep []) (keep_pre _) (by kernel_rfl) (by kernel_rfl) ?_
      refine rm_v (keep_pre _) (fun h' hk => v_fieldAddr fa_spec_Entry_1 rfl) ?_
      refine rm_v (keep_pre _) (fun h' hk => v_load one_uint64 rfl (by exact (hk.blk (by simp) B2).cell _ rfl)) ?_
      refine rm_c (fun h' hk => w_call (vs := [_]) ok_spec_SpanSeq rfl ⟨rfl, trivial⟩ hcall) ?_
      refine rm_v (keep_pre _) (fun h' hk => v_ge rfl rfl) ?_
      refine rm_v (keep_pre _) (fun h' hk => v_move rfl) ?_
      refine rm_gv (keep_pre _) rfl (lkm hf2) (fun h' hk => v_move rfl) ?_
      refine rm_gv (keep_pre _) rfl (lkm hf2) (fun h' hk => v_gt rfl rfl) ?_
      refine rm_gv (keep_pre _) rfl (lkm hf2) (fun h' hk => v_move rfl) ?_
      refine rm_gv (keep_pre _) rfl (lkm hz) (fun h' hk => v_move rfl) ?_
      refine rm_gv (keep_pre _) rfl (lkm hz) (fun h' hk => v_move rfl) ?_
      refine rm_gv (keep_pre _) rfl (lkm hz) (fun h' hk => v_sub rfl rfl (by omega) (by omega)) ?_
      refine rm_gv (keep_pre _) rfl (lkm hz) (fun h' hk => v_indexAddrE (i := j) u_sl_spec_Entry siz_spec_Entry rfl rfl (by omega) (by omega)) ?_
      refine rm_gv (keep_pre _) rfl (lkm hz) (fun h' hk => v_loadAgg (vs := [_, _, _]) many_spec_Entry rfl (by exact hk.cells (by simp) hcells2)) ?_
      refine rm_gv (keep_pre _) rfl (lkm hz) (fun h' hk => v_loadAgg (vs := [_, _, _]) many_spec_Entry rfl (by exact (hk.blk (by simp) B2).sub _ 3 rfl)) ?_
      refine rm_gc rfl (lkm hz) (fun h' hk => w_call (vs := [_, _]) ok_spec_PointLess rfl ⟨rfl, rfl, trivial⟩ (c_PointLess χ _ y x)) ?_
      refine rm_gv (keep_pre _) rfl (lkm hz) (fun h' hk => v_not rfl) ?_
      refine rm_gv (keep_pre _) rfl (lkm hf2) (fun h' hk => v_pick_t (lkb hz) rfl) ?_
      refine rm_v (keep_pre _) (fun h' hk => v_pick_f (lkb hf2) rfl) ?_
      refine rm_end ?_; intro h5 K5; simp only [endM, hypF, ofE, argE, List.nil_append]
      have B2 := K5.blk (by simp) B2
      have K := K.new0 K5; have Z5 := K5.1
      refine q_cut [(0, _), (5, _), (6, _), (7, _), (29, _)] ⟨rfl, rfl, rfl, rfl, rfl, trivial⟩ ⟨_, rfl, K, ⟨fun hb => ⟨hf, fun i z hi hz2 => ?_⟩, fun hb => ?_⟩⟩
      · have : i = j := by omega
        subst this
        rw [hyj] at hz2; cases hz2
        simpa using hb
      · have := hb.2 j y rfl hyj
        simpa using this
    · -- a number that is too large
      have hf2 : decide ((72057594037927935 : Int) ≤ ((T / 256 : Nat) : Int)) = true := by rw [hse, decide_eq_false_iff_not] at hf; rw [decide_eq_true_eq]; omega
      refine tr_any (Keep []) (keep_pre _) (by kernel_rfl) (by kernel_rfl) ?_
      refine rm_v (keep_pre _) (fun h' hk => v_fieldAddr fa_spec_Entry_1 rfl) ?_
      refine rm_v (keep_pre _) (fun h' hk => v_load one_uint64 rfl (by exact (hk.blk (by simp) B2).cell _ rfl)) ?_
      refine rm_c (fun h' hk => w_call (vs := [_]) ok_spec_SpanSeq rfl ⟨rfl, trivial⟩ hcall) ?_
      refine rm_v (keep_pre _) (fun h' hk => v_ge rfl rfl) ?_
      refine rm_v (keep_pre _) (fun h' hk => v_move rfl) ?_
      refine rm_gs (keep_pre _) rfl (lkm hf2) rfl ?_
      refine rm_gs (keep_pre _) rfl (lkm hf2) rfl ?_
      refine rm_gs (keep_pre _) rfl (lkm hf2) rfl ?_
      refine rm_gu (keep_pre _) rfl rfl ?_
      refine rm_gu (keep_pre _) rfl rfl ?_
      refine rm_gu (keep_pre _) rfl rfl ?_
      refine rm_gu (keep_pre _) rfl rfl ?_
      refine rm_gu (keep_pre _) rfl rfl ?_
      refine rm_gu (keep_pre _) rfl rfl ?_
      refine rm_gu (keep_pre _) rfl rfl ?_
      refine rm_gu (keep_pre _) rfl rfl ?_
      refine rm_gs (keep_pre _) rfl (lkm hf2) rfl ?_
      refine rm_v (keep_pre _) (fun h' hk => v_pick_t (lkb hf2) rfl) ?_
      refine rm_end ?_; intro h6 K6; simp only [endM, hypF, ofE, argE, List.nil_append]
      have B2 := K6.blk (by simp) B2
      have K := K.new0 K6; have Z6 := K6.1
      refine q_cut [(0, _), (5, _), (6, _), (7, _), (29, _)] ⟨rfl, rfl, rfl, rfl, rfl, trivial⟩ ⟨true, rfl, K, ⟨fun e => (by cases e), fun e => (by rw [hf] at e; cases e.1)⟩⟩
  rintro E h4 ⟨bad, rfl, K, hbad⟩
  refine tr_if rfl (fun hif => ?_) (fun hif => ?_)
  · -- yes
    subst hif
    refine rG <| rA rfl rfl <| rN <| tr_ret <| q_blk_ret <| q_thn_ret ?_
    refine q_lp_ret ?_
    refine q_blk_ret <| q_thn_ret <| q_ret (res_tmp rfl rfl) ?_
    refine ⟨?_, K⟩
    have : ptsB L = false := by
      cases hw : ptsB L with
      | false => rfl
      | true =>
        simp only [ptsB, Bool.and_eq_true] at hw
        have h1 : seqB x = true := List.all_eq_true.1 hw.1 x (List.mem_of_getElem? hxk)
        have := hbad.2 ⟨h1, fun j y hj hy => (chainB_iff _ L).1 hw.2 j y x hy (by rw [← hj]; exact hxk)⟩
        cases this
    rw [this]
  -- no
  subst hif
  refine tr_skip <| q_blk_n <| q_thn <| tr_reg <| rs_v (v_add rfl rfl (by omega) (by omega)) rfl ?_
  refine rM rfl rfl <| rs_nil ?_
  have hb2 := hbad.1 rfl
  refine q_lp (L.length - (k + 1)) [(0, _), (5, _), (6, _), (7, _)] (by omega) ⟨rfl, rfl, rfl, rfl, trivial⟩ ⟨k + 1, by omega, rfl, rfl, K, ?_, ?_⟩
  · rw [take_all hxk, hall, hb2.1]; rfl
  · intro i x' y' hi hx' hy'
    rcases Nat.lt_or_ge (i + 1) k with hlt | hge
    · exact hch i x' y' hlt hx' hy'
    · have : i + 1 = k := by omega
      subst this
      rw [hxk] at hy'; cases hy'
      exact hb2.2 i x' rfl hx'
set_option maxHeartbeats 2000000
theorem eqEntB (a : EntD) (w : World) : (Op.equalIn 10000 53 (.agg #[.string a.user, .int .u64 a.tr, .string a.val]) (.agg #[.string a.user, .int .u64 a.tr, .string a.val])).run Tryz.prog w = .ok true w := by
  have hS : Tryz.prog.underlying 53 = some (.struct (Tryz.prog.fieldsOf 53)) := by kernel_rfl
  have hp : Tryz.prog.stoodInHeld 53 = false := by kernel_rfl
  rw [show (10000 : Nat) = 9999 + 1 from rfl, run_equalIn_struct w 9999 53 _ _ hS hp]
  have hf : (Tryz.prog.fieldsOf 53).toList = [(Tryz.prog.fieldsOf 53).toList.getD 0 default, (Tryz.prog.fieldsOf 53).toList.getD 1 default, (Tryz.prog.fieldsOf 53).toList.getD 2 default] := by kernel_rfl
  rw [hf]
  have e0 : (Op.eqFields 9999 #[.string a.user, .int .u64 a.tr, .string a.val] #[.string a.user, .int .u64 a.tr, .string a.val] []).run Tryz.prog w = .ok true w := by simp [Op.eqFields]
  have e2 := eqF_cons (P := Tryz.prog) (d := 9999) (f := (Tryz.prog.fieldsOf 53).toList.getD 2 default) (a := .string a.val) (c := .string a.val) (b := true) (xs := #[.string a.user, .int .u64 a.tr, .string a.val]) (ys := #[.string a.user, .int .u64 a.tr, .string a.val])
    (by decide +kernel) (by kernel_rfl) (by kernel_rfl) (by
      rw [show ((Tryz.prog.fieldsOf 53).toList.getD 2 default).type = 9 from by kernel_rfl, show (9999 : Nat) = 9998 + 1 from rfl, run_equalIn_string w _ _ _ _ u_string]; simp) e0
  have e1 := eqF_cons (P := Tryz.prog) (d := 9999) (f := (Tryz.prog.fieldsOf 53).toList.getD 1 default) (a := .int .u64 a.tr) (c := .int .u64 a.tr) (b := true) (xs := #[.string a.user, .int .u64 a.tr, .string a.val]) (ys := #[.string a.user, .int .u64 a.tr, .string a.val])
    (by decide +kernel) (by kernel_rfl) (by kernel_rfl) (by
      rw [show ((Tryz.prog.fieldsOf 53).toList.getD 1 default).type = 45 from by kernel_rfl, show (9999 : Nat) = 9998 + 1 from rfl, run_equalIn_int w _ _ _ _ _ _ u_uint64]; simp) e2
  have e9 := eqF_cons (P := Tryz.prog) (d := 9999) (f := (Tryz.prog.fieldsOf 53).toList.getD 0 default) (a := .string a.user) (c := .string a.user) (b := true) (xs := #[.string a.user, .int .u64 a.tr, .string a.val]) (ys := #[.string a.user, .int .u64 a.tr, .string a.val])
    (by decide +kernel) (by kernel_rfl) (by kernel_rfl) (by
      rw [show ((Tryz.prog.fieldsOf 53).toList.getD 0 default).type = 9 from by kernel_rfl, show (9999 : Nat) = 9998 + 1 from rfl, run_equalIn_string w _ _ _ _ u_string]; simp) e1
  rw [e9]; rfl
set_option maxHeartbeats 2000000
theorem REnts.kk {h h' : Heap} {v : Value} {es : List EntD} (hr : REnts (All h) h v es) (K : Keep [] h h') : REnts (All h') h' v es := (REnts.stab hr (all_st K)).mono (all_up K)
theorem cov_mem {V : List SpanD} {u : ByteArray} {s : SpanD} (h : covS V u = some s) : s ∈ V := by
  have key : ∀ (l : List SpanD) (a : Option SpanD), (l.foldl (fun a s => if inS u s then some s else a) a = some s) → s ∈ l ∨ a = some s := by
    intro l
    induction l with
    | nil => intro a h; exact .inr h
    | cons x l ih =>
      intro a h
      rw [List.foldl_cons] at h
      rcases ih _ h with h1 | h1
      · exact .inl (by simp [h1])
      · split at h1
        · cases h1; exact .inl (by simp)
        · exact .inr h1
  rcases key V none h with h1 | h1
  · exact h1
  · cases h1
theorem ansM_mem {es : List EntD} {V : List SpanD} {q : Option PP} (hh : (ansM es V q).has = true) : (ansM es V q).sp ∈ V := by
  have key : ∀ e mk, (ptAns V e mk).has = true → (ptAns V e mk).sp ∈ V := fun e mk h => by
    unfold ptAns at h ⊢
    simp only at h ⊢
    cases hc : covS V e.user with
    | none => rw [hc] at h; simp at h
    | some s => exact cov_mem hc
  cases q with
  | none => simp [ansM] at hh
  | some p => cases p with
    | pt k => exact key _ _ hh
    | ins k ky => exact key _ _ hh
    | _ => simp [ansM] at hh
theorem walkM_mem {es : List EntD} {V : List SpanD} : ∀ (l : List StepD) (p : PP) a, a ∈ walkM es V p l → a.has = true → a.sp ∈ V
  | [], p, a, h, _ => by simp [walkM] at h
  | s :: l, p, a, h, ho => by
    simp only [walkM, List.mem_cons] at h
    rcases h with rfl | h
    · exact ansM_mem ho
    · exact walkM_mem l _ a h ho
def someE : EntD := ⟨⟨#[97]⟩, 257, .empty⟩
theorem some_pwalk : walkK [someE] someW (fun _ => false) .nowhere (fwdS 1) = [ptAns someW ⟨⟨#[97]⟩, 0, .empty⟩ true, ptAns someW someE false] := by
  rw [walkK_no]
  have hs0 : stAt ([someE].map EntD.user) someW 0 = true := by
    unfold stAt isSt
    simp [mst, someW, someE, atS, atB, sle_refl]
  have hm1 : mst ([someE].map EntD.user) someW 1 = (0, 1) := mst_st hs0
  have hs1 : stAt ([someE].map EntD.user) someW 1 = false := by
    unfold stAt isSt; rw [hm1]; rfl
  have e0 : markE [someE] someW 0 = ⟨⟨#[97]⟩, 0, .empty⟩ := by unfold markE; rw [hs0]; rfl
  have e1 : markE [someE] someW 1 = someE := by unfold markE; rw [hs1, hm1]; rfl
  have w : walkM [someE] someW .nowhere (fwdS 1) = [ansM [someE] someW (some (.pt 0)), ansM [someE] someW (some (.pt 1))] := rfl
  rw [w]
  simp only [ansM, e0, e1, hs0, hs1]
theorem some_seq : SeqLow [someE] := fun e he => by simp at he; subst he; exact ⟨257, rfl, by decide, by decide⟩
theorem some_rise : Rise ([someE].map EntD.user) := by simp [Rise]
theorem some_esmall : ∀ e, e ∈ [someE] → e.small := fun e he => by simp at he; subst he; exact ⟨by decide, by decide⟩
theorem some_wokW : WOK someW := some_wok someW (by simp)
theorem fwdS_mx (n : Nat) : ∀ s, s ∈ fwdS n → s.key.size ≤ 2147483647 := by
  intro s hs
  simp only [fwdS, List.mem_cons, List.mem_replicate] at hs
  rcases hs with rfl | ⟨_, rfl⟩ <;> decide
theorem some_has : (ptAns someW someE false).has = true := by
  unfold ptAns covS
  simp [someW, someE, inS, sle_refl, ab_lt]
theorem c_toEntries {χ : Chi} {h : Heap} {A : Nat → Prop} {v : Value} {es : List EntD} (hE : REnts A h v es) (hn : es.length ≤ 100000) :
    Cl Tryz.prog χ 16 #[v] h (fun r h' => REnts (Up N0 h h') h' r es ∧ Keep [] h h') := by
  obtain ⟨hlen, a, c, rfl, hx⟩ := SlR.form hE
  refine cl_intro Tryz.func16 rfl rfl rfl ?_
  have K : Keep [] h h := Keep.refl _ _
  refine rG <| rA rfl rfl <| rN <| rG <| rA rfl rfl <| rN <| tr_seq <| rG <| rM rfl rfl <| rs_v (v_len u_sl_spec_Entry rfl) rfl ?_
  refine rM rfl rfl <| rN <| tr_block ?_
  refine tr_loop (fun m E h' => ∃ k v xs, k ≤ es.length ∧ m = es.length - k ∧ E = [(3, v), (6, .slice a es.length c), (7, .int .i64 (es.length : Int)), (8, .int .i64 (k : Int))] ∧ Keep [] h h' ∧ Own h' h.size 47 3 v k xs ∧ RowsR 3 (fun c (e : EntD) => c = e.cells) xs (es.take k)) es.length [(3, _), (6, _), (7, _), (8, _)] ⟨rfl, rfl, rfl, rfl, trivial⟩ ⟨0, _, [], Nat.zero_le _, rfl, rfl, K, Own.nil _ _ _ _, RowsR.nil _ _⟩ ?_
  rintro m E hL1 ⟨k, v, xs, hk, rfl, rfl, K, O, hrow⟩
  have hob := own_ne O; have KL := Keep.refl [] hL1
  refine rG <| rs_v (v_lt rfl rfl) rfl <| rN <| tr_seq ?_
  refine tr_ifn rfl (fun hif => ?_) (fun hif => ?_)
  · -- no
    simp only [dT, dF] at hif
    have hkk : k = es.length := by omega
    subst hkk
    refine tr_exit <| q_thn_exit <| q_lp_exit <| q_blk_hit <| q_thn <| rG <| rM rfl rfl <| rA rfl rfl <| rN <| tr_ret <| q_ret (res_tmp rfl rfl) ?_
    rw [List.take_length] at hrow
    exact ⟨SlR.of_rows O rfl hrow (fun b h1 h2 => .inr ⟨h1, h2⟩) (fun b o c a hc he => by cases he; exact hc), K⟩
  -- yes
  simp only [dT, dF] at hif
  rcases hx with rfl | ⟨b, o, rfl, hAb, hR⟩
  · simp at hif; omega
  obtain ⟨e, hsk⟩ := ex_get (L := es) (k := k) (by omega)
  have hcells : CellsAt _ b (o + k * 3) e.cells := K.cells (by simp) (hR k e hsk)
  refine tr_skip <| q_thn <| tr_seq <| tr_block <| rG <| rs_v (v_indexAddrN u_sl_spec_Entry siz_spec_Entry rfl rfl (by omega)) rfl ?_
  refine rs_v (v_loadAgg (vs := [_, _, _]) many_spec_Entry rfl (by exact hcells)) rfl ?_
  refine rs_w (w_new zero_spec_Entry) rfl ?_
  rintro _ h2 ⟨rfl, B2, K2, Z2⟩
  have O := O.keep2 K2 (fun x hm => by have := hob x hm; simp; try omega)
  have S2 := K.1; have K := K.new0 K2
  refine rs_w0 (w_put siz_spec_Entry rfl rfl rfl rfl B2 rfl) ?_
  rintro _ h3 ⟨B3, K3⟩
  have O := O.keep2 K3 (fun x hm => by have := hob x hm; simp; try omega)
  have B2 := B3; have K := K.new1 K3 (by first | (right; omega) | (left; simp; done)); have Z3 := K3.1
  refine rN <| tr_reg <| rM rfl rfl <| rs_v (v_loadAgg (vs := [_, _, _]) many_spec_Entry rfl (by exact B2.sub _ 3 rfl)) rfl ?_
  refine rs_w (w_new1 u_sl_impl_Entry siz_impl_Entry zero_impl_Entry rfl rfl rfl rfl rfl) rfl ?_
  rintro _ h4 ⟨rfl, B4, K4, Z4⟩
  have B2 := K4.blk (by simp) B2
  have O := O.keep2 K4 (fun x hm => by have := hob x hm; simp; try omega)
  have S4 := K.1; have K := K.new0 K4
  refine rs_w (w_app1 u_sl_impl_Entry info_impl_Entry rfl rfl rfl O rfl rfl B4 rfl (by omega) (by omega) (by omega)) rfl ?_
  rintro v5 h5 ⟨O5, K5, N5, F5⟩
  have K := K.newX K5 (fun x hm => .inr (by have := hob x hm; omega)); have Z5 := K5.1
  have B2 := K5.blk (fun hm => by first | (have := hob _ hm; omega) | exact absurd rfl (hnb _ hm)) B2
  have B4 := K5.blk (fun hm => by first | (have := hob _ hm; omega) | exact absurd rfl (hnb _ hm)) B4
  refine rA rfl rfl <| rs_nil <| q_blk_n <| q_thn <| tr_reg <| rs_v (v_add rfl rfl (by omega) (by omega)) rfl ?_
  refine rM rfl rfl <| rs_nil ?_
  refine q_lp (es.length - (k + 1)) [(3, _), (6, _), (7, _), (8, _)] (by omega) ⟨rfl, rfl, rfl, rfl, trivial⟩ ⟨k + 1, _, _, by omega, rfl, rfl, K, O5, by rw [take_snoc' hsk]; exact hrow.snoc rfl rfl⟩
theorem c_pointSome {χ : Chi} {h : Heap} :
    Cl Tryz.prog χ 21 #[] h (fun r h' => r = .bool true ∧ Keep [] h h') := by
  have hA0 := n0low h
  refine cl_intro Tryz.func21 rfl rfl rfl ?_
  have K : Keep [] h h := Keep.refl _ _
  refine rG <| rA rfl rfl <| rN <| rG <| rs_v (v_build2 rfl rfl (bld_impl_Entry_0_1 _ _)) rfl ?_
  refine rs_w (w_new1 u_sl_impl_Entry siz_impl_Entry zero_impl_Entry rfl rfl rfl rfl rfl) rfl ?_
  rintro _ h1 ⟨rfl, B1, K1, Z1⟩
  have S1 := K.1; have K := K.new0 K1
  refine rs_w (w_call (vs := []) ok_laws_spanSome rfl trivial (c_spanSome χ _)) rfl ?_
  rintro hWv h2 ⟨hW, K2⟩
  have hW := RSpans.mono hW (upN K2)
  obtain ⟨hWa, hWc, rfl⟩ := SlR.form2 hW
  have hP : REnts (All h2) h2 (.slice (some ⟨h.size, 0, none⟩) 1 1) [someE] := ⟨by simp, _, _, rfl, fun i x hi => ⟨h.size, 0, rfl, by have := B1.lt; have := K2.1; unfold All; omega, by
    cases i with
    | zero => simp at hi; subst hi; exact (K2.blk (by simp) B1).cells
    | succ i => simp at hi⟩⟩
  have B1 := K2.blk (by simp) B1
  have K := K.new0 K2; have Z2 := K2.1
  refine rs_v (v_build0 (bld_impl_Bound_)) rfl ?_
  refine rs_v (v_build0 (bld_impl_Bound_)) rfl ?_
  refine rs_w (w_call (vs := [_]) ok_laws_spanForth rfl ⟨rfl, trivial⟩ (c_spanForth χ _ 1 (by decide))) rfl ?_
  rintro _ h3 ⟨⟨hQ, hQa, hQc, rfl, hQz⟩, K3⟩
  have hQ := RSteps.mono hQ (upN K3)
  have B1 := K3.blk (by simp) B1
  have hW := RSpans.kk hW K3
  have hP := REnts.kk hP K3
  have K := K.new0 K3; have Z3 := K3.1
  refine rs_w (w_call (vs := [_, _, _, _, _]) ok_impl_SpanInterleaved rfl ⟨rfl, rfl, rfl, rfl, rfl, trivial⟩ (c_implSpanInterleaved (all_low _) (es := [someE]) (W := someW) hP (by decide) some_esmall some_seq some_rise hW some_good.small some_wokW (fun s hs => (some_good.full s hs).2.1) hQ (by decide) (fwdS_mx 1))) rfl ?_
  rintro gv h4 ⟨hg, K4⟩
  have hg : RPAnss _ _ _ [ptAns someW ⟨⟨#[97]⟩, 0, .empty⟩ true, ptAns someW someE false] := some_pwalk ▸ hg
  obtain ⟨hgl, ga, gc, rfl, hgx⟩ := SlR.form hg
  rcases hgx with e | ⟨gb, go, rfl, hgA, hgR⟩
  · simp at e
  obtain ⟨k0, hc0, _⟩ := hgR 0 _ rfl
  obtain ⟨k1, hc1, _⟩ := hgR 1 _ rfl
  have hh1 := some_has
  have B1 := K4.blk (by simp) B1
  have hW := RSpans.kk hW K4
  have hP := REnts.kk hP K4
  have hQ := RSteps.kk hQ K4
  have K := K.new0 K4; have Z4 := K4.1
  refine rA rfl rfl <| rN <| rG <| rM rfl rfl <| rs_v (v_len u_sl_impl_PointAnswer rfl) rfl ?_
  refine rs_v (v_eq rfl rfl) rfl <| rM rfl rfl <| rs_gv rfl (rfl) (v_move rfl) rfl ?_
  refine rs_gv rfl (rfl) (v_indexAddrE (i := 0) u_sl_impl_PointAnswer siz_impl_PointAnswer rfl rfl rfl (by decide)) rfl ?_
  refine rs_gv rfl (rfl) (v_fieldAddr fa_impl_PointAnswer_2 rfl) rfl ?_
  refine rs_gv rfl (rfl) (v_load one_bool rfl (by exact hc0 2 _ rfl)) rfl ?_
  refine rs_v (v_pick_t rfl rfl) rfl ?_
  refine rM rfl rfl <| rs_gv rfl (rfl) (v_move rfl) rfl ?_
  refine rs_gv rfl (rfl) (v_indexAddrE (i := 1) u_sl_impl_PointAnswer siz_impl_PointAnswer rfl rfl rfl (by decide)) rfl ?_
  refine rs_gv rfl (rfl) (v_fieldAddr fa_impl_PointAnswer_1 rfl) rfl ?_
  refine rs_gv rfl (rfl) (v_load one_bool rfl (by exact hc1 1 _ rfl)) rfl ?_
  refine rs_v (v_pick_t rfl rfl) rfl ?_
  refine rM rfl rfl <| rs_gv rfl (rfl) (v_move rfl) rfl ?_
  refine rs_gv rfl (rfl) (v_indexAddrE (i := 1) u_sl_impl_PointAnswer siz_impl_PointAnswer rfl rfl rfl (by decide)) rfl ?_
  refine rs_gv rfl (rfl) (v_fieldAddr fa_impl_PointAnswer_4 rfl) rfl ?_
  refine rs_gv rfl (rfl) (v_load one_bool rfl (by exact hc1 6 _ rfl)) rfl ?_
  refine rs_v (v_pick_t rfl rfl) rfl ?_
  refine rA rfl rfl <| rN <| tr_ret <| q_ret (res_tmp rfl rfl) ?_
  exact ⟨by rw [hh1], K⟩
open Go.Tess Go.ChangeShapes Go.WideShapes Go.ChangeAt Go.RowKit
set_option maxHeartbeats 1000000
section
variable {H : Type} {enc : TypeId × Value → H} {χ : Chi} {h : Heap} {d : Nat} {sp : Nat → Bool} {hd : Bool}
theorem open_entR {n : Nat} {cs : List Value} {x : DataW H × List MemPlace} (hx : DataW.trod enc Tryz.prog (mkw χ h d) 0 sp hd n 53 cs = some x) : ∃ k : EntD, cs = k.cells ∧ ERng k := by
  have hl := struct_len st_entry hx (sz := 3) (by kernel_rfl)
  match cs, hl with
  | [c0, c1, c2], _ =>
    obtain ⟨_, _, y0⟩ := field_open st_entry hx 0 9 0 1 (by kernel_rfl) (by kernel_rfl)
    obtain ⟨_, _, y1⟩ := field_open st_entry hx 1 45 1 1 (by kernel_rfl) (by kernel_rfl)
    obtain ⟨_, _, y2⟩ := field_open st_entry hx 2 9 2 1 (by kernel_rfl) (by kernel_rfl)
    obtain ⟨s, e1, _⟩ := DataW.trod_string u_string y0
    obtain ⟨i, e0, _, hw⟩ := DataW.trod_int u_uint64 y1
    obtain ⟨u, e2, _⟩ := DataW.trod_string u_string y2
    cases e0; cases e1; cases e2
    exact ⟨⟨s, i, u⟩, rfl, wf64 hw⟩
theorem open_ents {n : Nat} {v : Value} {x : DataW H × List MemPlace} (hx : DataW.trod enc Tryz.prog (mkw χ h d) 0 sp hd n 22 [v] = some x) : ∃ (es : List EntD) (a : Option Addr) (c : Nat), v = .slice a es.length c ∧ REnts (All h) h (.slice a es.length c) es ∧ es.length ≤ c ∧ ∀ e, e ∈ es → ERng e := by
  obtain ⟨es, hk⟩ := sl_open (R := fun cs (k : EntD) => cs = k.cells ∧ ERng k) u_sl_spec_Entry (sz := 3) (by kernel_rfl) (by omega) (fun n cs x hx => open_entR hx) hx
  have hE : REnts (All h) h v es := SlR.mono hk (fun _ h => h) fun b o x _ hc => by obtain ⟨cs, h1, rfl, _⟩ := hc; exact h1
  obtain ⟨a, c, rfl⟩ := SlR.form2 hE
  refine ⟨es, a, c, rfl, hE, ?_, sl_all hk fun b o a ⟨_, _, _, h⟩ => h⟩
  rcases Deep.open_slice u_sl_spec_Entry hx with ⟨hcs, _⟩ | ⟨a', len, cap, m, n, D, Pl, hcs, _, hl, _⟩
  · injection hcs with hcs; injection hcs with e1 e2 e3; omega
  · injection hcs with hcs; injection hcs with e1 e2 e3; omega
end
set_option maxHeartbeats 2000000
section
variable {es : List EntD} {W : List SpanD}
theorem walk_next : ∀ (m j i : Nat), i < m → j + 1 + i ≤ nM (es.map EntD.user) W → (walkM es W (.pt j) (List.replicate m nextS))[i]? = some (ansM es W (some (if j + 1 + i < nM (es.map EntD.user) W then .pt (j + 1 + i) else .behind)))
  | 0, _, _, h, _ => by omega
  | m + 1, j, i, h, hi => by
    have e : stepM (es.map EntD.user) W (.pt j) nextS = some (if j + 1 < nM (es.map EntD.user) W then .pt (j + 1) else .behind) := rfl
    rw [List.replicate_succ]
    simp only [walkM, e, Option.getD_some]
    cases i with
    | zero => rfl
    | succ i =>
      rw [List.getElem?_cons_succ, if_pos (by omega), walk_next m (j + 1) i (by omega) (by omega)]
      rw [show j + 1 + 1 + i = j + 1 + (i + 1) from by omega]
theorem fwd_facts {n : Nat} (hn : nM (es.map EntD.user) W ≤ n) : (∀ k, k < nM (es.map EntD.user) W → (walkM es W .nowhere (fwdS n))[k]? = some (ansM es W (some (.pt k)))) ∧ ∃ a, (walkM es W .nowhere (fwdS n))[nM (es.map EntD.user) W]? = some a ∧ a.ok = false := by
  have e : walkM es W .nowhere (fwdS n) = ansM es W (some (ppFirst (es.map EntD.user) W)) :: walkM es W (ppFirst (es.map EntD.user) W) (List.replicate n nextS) := rfl
  rw [e]
  by_cases h0 : nM (es.map EntD.user) W = 0
  · refine ⟨fun k hk => by omega, _, by rw [h0]; rfl, ?_⟩
    rw [ppFirst, if_pos h0]; rfl
  · rw [ppFirst, if_neg h0]
    refine ⟨fun k hk => ?_, ?_⟩
    · cases k with
      | zero => rfl
      | succ k => rw [List.getElem?_cons_succ, walk_next n 0 k (by omega) (by omega), if_pos (by omega), show 0 + 1 + k = k + 1 from by omega]
    · obtain ⟨N, hN⟩ : ∃ N, nM (es.map EntD.user) W = N + 1 := ⟨nM (es.map EntD.user) W - 1, by omega⟩
      refine ⟨ansM es W (some .behind), ?_, rfl⟩
      rw [hN, List.getElem?_cons_succ, walk_next n 0 N (by omega) (by omega), if_neg (by omega)]
theorem ansM_few (hf : ∀ s, s ∈ W → few s) (q : Option PP) : few (ansM es W q).sp := by
  cases hh : (ansM es W q).has with
  | true => exact hf _ (ansM_mem hh)
  | false =>
    have key : ∀ e mk, (ptAns W e mk).has = false → few (ptAns W e mk).sp := fun e mk h => by
      unfold ptAns at h ⊢
      simp only at h ⊢
      cases hc : covS W e.user with
      | none => show few zeroSpan; unfold few; decide
      | some s => rw [hc] at h; simp at h
    have hz : few zeroSpan := by unfold few; decide
    cases q with
    | none => exact hz
    | some p => cases p with
      | pt k => exact key _ _ hh
      | ins k ky => exact key _ _ hh
      | _ => exact hz
theorem cell_of {h : Heap} {b i : Nat} {cs : List Value} {T : TypeId} {v : Value} (B : Blk h b cs T) (hc : cellH h b i = some v) : cs[i]? = some v := by
  simp only [cellH, Blk] at *
  rw [B] at hc
  simpa using hc
theorem pans_pos {A : Nat → Prop} {h : Heap} {a : Option Addr} {n c : Nat} {G : List PAnsD} (H : RPAnss A h (.slice a n c) G) (hn : 0 < G.length) : ∃ b o, a = some ⟨b, o, none⟩ ∧ A b ∧ ∀ i x, G[i]? = some x → RPAns A h b (o + i * 10) x := by
  obtain ⟨_, a', c', e, hx⟩ := SlR.form H
  injection e with e1 e2 e3
  subst e1
  rcases hx with e | hx
  · rw [e] at hn; simp at hn
  · exact hx
end
set_option maxHeartbeats 1000000
def GetP (v : Lev) (key : ByteArray) (h : Heap) (r : Value) (h' : Heap) : Prop :=
  ∃ qv, r = .pointer qv ∧ Keep [v.c] h h' ∧ ((qv = none ∧ covS v.W key = none) ∨ ∃ s x, qv = v.sa (s + 1) ∧ v.W[s]? = some x ∧ covS v.W key = some x)
theorem c_Get_1 {χ : Chi} {A : Nat → Prop} {v : Lev} {h : Heap} {y : Nat} {kv : Value} {key : ByteArray} (hS : LevS A v h) (hlow : Low A h) (hAc : ¬ A v.c) (hI : LevY v y h) (hkey : RBytes (fun b => b ≠ v.c) h kv key) (n0 : ltI v.W key = 0) (hn : v.W.length = 0) (hcv : covS v.W key = none) :
    Cl Tryz.prog χ 70 #[cmpF, v.it, kv] h (GetP v key h) := by
  unfold cmpF Lev.it
  refine cl_intro Tryz.func70 rfl rfl rfl ?_
  have K : Keep [v.c] h h := Keep.refl _ _
  refine rG <| rA rfl rfl <| rN <| rG <| rM rfl rfl <| rM rfl rfl <| rs_w (w_mcall (vs := [_]) (ly_SeekLT hS hlow hAc hI hkey) rfl ⟨rfl, trivial⟩) rfl ?_
  rintro rv1 h1 ⟨hrv1, hI1, KP1⟩
  have KPt := KP1
  have hS1 : LevS A v h1 := hS.stab (KPt.stab fun b hb => ⟨hlow b hb, by simp; rintro rfl; exact hAc hb⟩)
  have hke : RBy h1 kv key := RBytes.by ((RBytes.lowen hkey).stab (KPt.stab fun b hb => ⟨hb.2, by simpa using hb.1⟩))
  rw [show v.sa (ltI v.W key) = none from Lev.sa_no (by omega)] at hrv1
  subst hrv1
  refine rA rfl rfl <| rN <| tr_seq <| rG <| rM rfl rfl <| rs_v (v_peq u_p_keyspan_Span rfl rfl) rfl ?_
  refine rN <| tr_if_t rfl ?_
  refine rG <| rM rfl rfl <| rs_w (w_mcall (vs := []) (ly_Next hS1 (ltI_le _ _) hI1) rfl trivial) rfl ?_
  rintro rv2 h2 ⟨hrv2, hI2, KP2⟩
  have KPt := KPt.trans KP2
  have hS2 : LevS A v h2 := hS.stab (KPt.stab fun b hb => ⟨hlow b hb, by simp; rintro rfl; exact hAc hb⟩)
  have hke : RBy h2 kv key := RBytes.by ((RBytes.lowen hkey).stab (KPt.stab fun b hb => ⟨hb.2, by simpa using hb.1⟩))
  rw [show v.sa (ltI v.W key + 1) = none from Lev.sa_no (by omega)] at hrv2
  subst hrv2
  refine rA rfl rfl <| rN <| tr_seq <| rG <| rM rfl rfl <| rs_v (v_peq u_p_keyspan_Span rfl rfl) rfl ?_
  refine rN <| tr_if_t rfl ?_
  refine rG <| rA rfl rfl <| rN <| tr_ret <| q_thn_ret <| q_thn_ret <| q_ret (res_tmp rfl rfl) ?_
  exact ⟨none, rfl, KPt, .inl ⟨rfl, hcv⟩⟩
theorem c_Get_2 {χ : Chi} {A : Nat → Prop} {v : Lev} {h : Heap} {y : Nat} {kv : Value} {key : ByteArray} (hS : LevS A v h) (hlow : Low A h) (hAc : ¬ A v.c) (hI : LevY v y h) (hkey : RBytes (fun b => b ≠ v.c) h kv key) (n0 : ltI v.W key = 0) {s : SpanD} (hs : v.W[0]? = some s) (gss : decide (cmpB key s.s < 0) = true) (hcv : covS v.W key = none) :
    Cl Tryz.prog χ 70 #[cmpF, v.it, kv] h (GetP v key h) := by
  unfold cmpF Lev.it
  refine cl_intro Tryz.func70 rfl rfl rfl ?_
  have K : Keep [v.c] h h := Keep.refl _ _
  refine rG <| rA rfl rfl <| rN <| rG <| rM rfl rfl <| rM rfl rfl <| rs_w (w_mcall (vs := [_]) (ly_SeekLT hS hlow hAc hI hkey) rfl ⟨rfl, trivial⟩) rfl ?_
  rintro rv1 h1 ⟨hrv1, hI1, KP1⟩
  have KPt := KP1
  have hS1 : LevS A v h1 := hS.stab (KPt.stab fun b hb => ⟨hlow b hb, by simp; rintro rfl; exact hAc hb⟩)
  have hke : RBy h1 kv key := RBytes.by ((RBytes.lowen hkey).stab (KPt.stab fun b hb => ⟨hb.2, by simpa using hb.1⟩))
  rw [show v.sa (ltI v.W key) = none from Lev.sa_no (by omega)] at hrv1
  subst hrv1
  refine rA rfl rfl <| rN <| tr_seq <| rG <| rM rfl rfl <| rs_v (v_peq u_p_keyspan_Span rfl rfl) rfl ?_
  refine rN <| tr_if_t rfl ?_
  refine rG <| rM rfl rfl <| rs_w (w_mcall (vs := []) (ly_Next hS1 (ltI_le _ _) hI1) rfl trivial) rfl ?_
  rintro rv2 h2 ⟨hrv2, hI2, KP2⟩
  have KPt := KPt.trans KP2
  have hS2 : LevS A v h2 := hS.stab (KPt.stab fun b hb => ⟨hlow b hb, by simp; rintro rfl; exact hAc hb⟩)
  have hke : RBy h2 kv key := RBytes.by ((RBytes.lowen hkey).stab (KPt.stab fun b hb => ⟨hb.2, by simpa using hb.1⟩))
  obtain ⟨b2, o2, ha2, hA2, hcell2, rs2, re2, _⟩ := hS2.cells 0 s hs
  have hlt2 := (List.getElem?_eq_some_iff.1 hs).1
  rw [show ltI v.W key + 1 = 0 + 1 from by omega, Lev.sa_at hlt2 ha2] at hrv2
  subst hrv2
  refine rA rfl rfl <| rN <| tr_seq <| rG <| rM rfl rfl <| rs_v (v_peq u_p_keyspan_Span rfl rfl) rfl ?_
  refine rN <| tr_if_f rfl ?_
  refine tr_skip <| q_thn <| rG <| rM rfl rfl <| rM rfl rfl <| rM rfl rfl <| rC rfl rfl <| rF fa_keyspan_Span_0 rfl rfl <| rs_v (v_load one_sl_uint8 rfl (by exact hcell2 0 _ rfl)) rfl ?_
  refine rs_w (w_callv (first := []) (cap := []) (vs := [_, _]) ok_bytes_Compare rfl ⟨rfl, rfl, trivial⟩ (c_Compare χ _ _ _ key s.s hke (RBytes.by rs2))) rfl ?_
  rintro _ h3 ⟨rfl, hsame⟩; have hsame := hsame.symm; subst hsame
  refine rs_v (v_lt rfl rfl) rfl <| rN <| tr_if_t (lkb gss) ?_
  refine rG <| rA rfl rfl <| rN <| tr_ret <| q_thn_ret <| q_ret (res_tmp rfl rfl) ?_
  exact ⟨none, rfl, KPt, .inl ⟨rfl, hcv⟩⟩
theorem c_Get_3 {χ : Chi} {A : Nat → Prop} {v : Lev} {h : Heap} {y : Nat} {kv : Value} {key : ByteArray} (hS : LevS A v h) (hlow : Low A h) (hAc : ¬ A v.c) (hI : LevY v y h) (hkey : RBytes (fun b => b ≠ v.c) h kv key) (n0 : ltI v.W key = 0) {s : SpanD} (hs : v.W[0]? = some s) (gss : decide (cmpB key s.s < 0) = false) (es : decide (0 ≤ cmpB key s.e) = false) (hcv : covS v.W key = some s) :
    Cl Tryz.prog χ 70 #[cmpF, v.it, kv] h (GetP v key h) := by
  unfold cmpF Lev.it
  refine cl_intro Tryz.func70 rfl rfl rfl ?_
  have K : Keep [v.c] h h := Keep.refl _ _
  refine rG <| rA rfl rfl <| rN <| rG <| rM rfl rfl <| rM rfl rfl <| rs_w (w_mcall (vs := [_]) (ly_SeekLT hS hlow hAc hI hkey) rfl ⟨rfl, trivial⟩) rfl ?_
  rintro rv1 h1 ⟨hrv1, hI1, KP1⟩
  have KPt := KP1
  have hS1 : LevS A v h1 := hS.stab (KPt.stab fun b hb => ⟨hlow b hb, by simp; rintro rfl; exact hAc hb⟩)
  have hke : RBy h1 kv key := RBytes.by ((RBytes.lowen hkey).stab (KPt.stab fun b hb => ⟨hb.2, by simpa using hb.1⟩))
  rw [show v.sa (ltI v.W key) = none from Lev.sa_no (by omega)] at hrv1
  subst hrv1
  refine rA rfl rfl <| rN <| tr_seq <| rG <| rM rfl rfl <| rs_v (v_peq u_p_keyspan_Span rfl rfl) rfl ?_
  refine rN <| tr_if_t rfl ?_
  refine rG <| rM rfl rfl <| rs_w (w_mcall (vs := []) (ly_Next hS1 (ltI_le _ _) hI1) rfl trivial) rfl ?_
  rintro rv2 h2 ⟨hrv2, hI2, KP2⟩
  have KPt := KPt.trans KP2
  have hS2 : LevS A v h2 := hS.stab (KPt.stab fun b hb => ⟨hlow b hb, by simp; rintro rfl; exact hAc hb⟩)
  have hke : RBy h2 kv key := RBytes.by ((RBytes.lowen hkey).stab (KPt.stab fun b hb => ⟨hb.2, by simpa using hb.1⟩))
  obtain ⟨b2, o2, ha2, hA2, hcell2, rs2, re2, _⟩ := hS2.cells 0 s hs
  have hlt2 := (List.getElem?_eq_some_iff.1 hs).1
  rw [show ltI v.W key + 1 = 0 + 1 from by omega, Lev.sa_at hlt2 ha2] at hrv2
  subst hrv2
  refine rA rfl rfl <| rN <| tr_seq <| rG <| rM rfl rfl <| rs_v (v_peq u_p_keyspan_Span rfl rfl) rfl ?_
  refine rN <| tr_if_f rfl ?_
  refine tr_skip <| q_thn <| rG <| rM rfl rfl <| rM rfl rfl <| rM rfl rfl <| rC rfl rfl <| rF fa_keyspan_Span_0 rfl rfl <| rs_v (v_load one_sl_uint8 rfl (by exact hcell2 0 _ rfl)) rfl ?_
  refine rs_w (w_callv (first := []) (cap := []) (vs := [_, _]) ok_bytes_Compare rfl ⟨rfl, rfl, trivial⟩ (c_Compare χ _ _ _ key s.s hke (RBytes.by rs2))) rfl ?_
  rintro _ h3 ⟨rfl, hsame⟩; have hsame := hsame.symm; subst hsame
  refine rs_v (v_lt rfl rfl) rfl <| rN <| tr_if_f (lkb gss) ?_
  refine tr_skip <| q_thn <| tr_seq <| rG <| rM rfl rfl <| rM rfl rfl <| rM rfl rfl <| rC rfl rfl <| rF fa_keyspan_Span_1 rfl rfl <| rs_v (v_load one_sl_uint8 rfl (by exact hcell2 1 _ rfl)) rfl ?_
  refine rs_w (w_callv (first := []) (cap := []) (vs := [_, _]) ok_bytes_Compare rfl ⟨rfl, rfl, trivial⟩ (c_Compare χ _ _ _ key s.e hke (RBytes.by re2))) rfl ?_
  rintro _ h4 ⟨rfl, hsame⟩; have hsame := hsame.symm; subst hsame
  refine rs_v (v_ge rfl rfl) rfl ?_
  refine rN <| tr_if_f (lkb es) ?_
  refine tr_skip <| q_thn <| rG <| rM rfl rfl <| rA rfl rfl <| rN <| tr_ret <| q_ret (res_tmp rfl rfl) ?_
  exact ⟨_, rfl, KPt, .inr ⟨0, s, (Lev.sa_at hlt2 ha2).symm, hs, hcv⟩⟩
theorem c_Get_4 {χ : Chi} {A : Nat → Prop} {v : Lev} {h : Heap} {y : Nat} {kv : Value} {key : ByteArray} (hS : LevS A v h) (hlow : Low A h) (hAc : ¬ A v.c) (hI : LevY v y h) (hkey : RBytes (fun b => b ≠ v.c) h kv key) {j : Nat} {s : SpanD} (n0 : ltI v.W key = j + 1) (hs : v.W[j]? = some s) (es : decide (0 ≤ cmpB key s.e) = false) (hcv : covS v.W key = some s) :
    Cl Tryz.prog χ 70 #[cmpF, v.it, kv] h (GetP v key h) := by
  unfold cmpF Lev.it
  refine cl_intro Tryz.func70 rfl rfl rfl ?_
  have K : Keep [v.c] h h := Keep.refl _ _
  refine rG <| rA rfl rfl <| rN <| rG <| rM rfl rfl <| rM rfl rfl <| rs_w (w_mcall (vs := [_]) (ly_SeekLT hS hlow hAc hI hkey) rfl ⟨rfl, trivial⟩) rfl ?_
  rintro rv1 h1 ⟨hrv1, hI1, KP1⟩
  have KPt := KP1
  have hS1 : LevS A v h1 := hS.stab (KPt.stab fun b hb => ⟨hlow b hb, by simp; rintro rfl; exact hAc hb⟩)
  have hke : RBy h1 kv key := RBytes.by ((RBytes.lowen hkey).stab (KPt.stab fun b hb => ⟨hb.2, by simpa using hb.1⟩))
  obtain ⟨b1, o1, ha1, hA1, hcell1, rs1, re1, _⟩ := hS1.cells j s hs
  have hlt1 := (List.getElem?_eq_some_iff.1 hs).1
  rw [show ltI v.W key = j + 1 from by omega, Lev.sa_at hlt1 ha1] at hrv1
  subst hrv1
  refine rA rfl rfl <| rN <| tr_seq <| rG <| rM rfl rfl <| rs_v (v_peq u_p_keyspan_Span rfl rfl) rfl ?_
  refine rN <| tr_if_f rfl ?_
  refine tr_skip <| q_thn <| tr_seq <| rG <| rM rfl rfl <| rM rfl rfl <| rM rfl rfl <| rC rfl rfl <| rF fa_keyspan_Span_1 rfl rfl <| rs_v (v_load one_sl_uint8 rfl (by exact hcell1 1 _ rfl)) rfl ?_
  refine rs_w (w_callv (first := []) (cap := []) (vs := [_, _]) ok_bytes_Compare rfl ⟨rfl, rfl, trivial⟩ (c_Compare χ _ _ _ key s.e hke (RBytes.by re1))) rfl ?_
  rintro _ h2 ⟨rfl, hsame⟩; have hsame := hsame.symm; subst hsame
  refine rs_v (v_ge rfl rfl) rfl ?_
  refine rN <| tr_if_f (lkb es) ?_
  refine tr_skip <| q_thn <| rG <| rM rfl rfl <| rA rfl rfl <| rN <| tr_ret <| q_ret (res_tmp rfl rfl) ?_
  exact ⟨_, rfl, KPt, .inr ⟨j, s, (Lev.sa_at hlt1 ha1).symm, hs, hcv⟩⟩
theorem c_Get_5 {χ : Chi} {A : Nat → Prop} {v : Lev} {h : Heap} {y : Nat} {kv : Value} {key : ByteArray} (hS : LevS A v h) (hlow : Low A h) (hAc : ¬ A v.c) (hI : LevY v y h) (hkey : RBytes (fun b => b ≠ v.c) h kv key) {j : Nat} {s : SpanD} (n0 : ltI v.W key = j + 1) (hs : v.W[j]? = some s) (es : decide (0 ≤ cmpB key s.e) = true) (hn : v.W.length = j + 1) (hcv : covS v.W key = none) :
    Cl Tryz.prog χ 70 #[cmpF, v.it, kv] h (GetP v key h) := by
  unfold cmpF Lev.it
  refine cl_intro Tryz.func70 rfl rfl rfl ?_
  have K : Keep [v.c] h h := Keep.refl _ _
  refine rG <| rA rfl rfl <| rN <| rG <| rM rfl rfl <| rM rfl rfl <| rs_w (w_mcall (vs := [_]) (ly_SeekLT hS hlow hAc hI hkey) rfl ⟨rfl, trivial⟩) rfl ?_
  rintro rv1 h1 ⟨hrv1, hI1, KP1⟩
  have KPt := KP1
  have hS1 : LevS A v h1 := hS.stab (KPt.stab fun b hb => ⟨hlow b hb, by simp; rintro rfl; exact hAc hb⟩)
  have hke : RBy h1 kv key := RBytes.by ((RBytes.lowen hkey).stab (KPt.stab fun b hb => ⟨hb.2, by simpa using hb.1⟩))
  obtain ⟨b1, o1, ha1, hA1, hcell1, rs1, re1, _⟩ := hS1.cells j s hs
  have hlt1 := (List.getElem?_eq_some_iff.1 hs).1
  rw [show ltI v.W key = j + 1 from by omega, Lev.sa_at hlt1 ha1] at hrv1
  subst hrv1
  refine rA rfl rfl <| rN <| tr_seq <| rG <| rM rfl rfl <| rs_v (v_peq u_p_keyspan_Span rfl rfl) rfl ?_
  refine rN <| tr_if_f rfl ?_
  refine tr_skip <| q_thn <| tr_seq <| rG <| rM rfl rfl <| rM rfl rfl <| rM rfl rfl <| rC rfl rfl <| rF fa_keyspan_Span_1 rfl rfl <| rs_v (v_load one_sl_uint8 rfl (by exact hcell1 1 _ rfl)) rfl ?_
  refine rs_w (w_callv (first := []) (cap := []) (vs := [_, _]) ok_bytes_Compare rfl ⟨rfl, rfl, trivial⟩ (c_Compare χ _ _ _ key s.e hke (RBytes.by re1))) rfl ?_
  rintro _ h2 ⟨rfl, hsame⟩; have hsame := hsame.symm; subst hsame
  refine rs_v (v_ge rfl rfl) rfl ?_
  refine rN <| tr_if_t (lkb es) ?_
  refine rG <| rM rfl rfl <| rs_w (w_mcall (vs := []) (ly_Next hS1 (ltI_le _ _) hI1) rfl trivial) rfl ?_
  rintro rv2 h3 ⟨hrv2, hI2, KP2⟩
  have KPt := KPt.trans KP2
  have hS2 : LevS A v h3 := hS.stab (KPt.stab fun b hb => ⟨hlow b hb, by simp; rintro rfl; exact hAc hb⟩)
  have hke : RBy h3 kv key := RBytes.by ((RBytes.lowen hkey).stab (KPt.stab fun b hb => ⟨hb.2, by simpa using hb.1⟩))
  rw [show v.sa (ltI v.W key + 1) = none from Lev.sa_no (by omega)] at hrv2
  subst hrv2
  refine rA rfl rfl <| rN <| rG <| rM rfl rfl <| rs_v (v_peq u_p_keyspan_Span rfl rfl) rfl ?_
  refine rM rfl rfl <| rs_gs rfl (rfl) rfl rfl <| rs_gs rfl (rfl) rfl rfl <| rs_gs rfl (rfl) rfl rfl <| rs_gs rfl (rfl) rfl rfl <| rs_gs rfl (rfl) rfl rfl <| rs_gs rfl (rfl) rfl rfl <| rs_gs rfl (rfl) rfl rfl <| rs_gs rfl (rfl) rfl rfl <| rs_v (v_pick_t rfl rfl) rfl ?_
  refine rN <| tr_if_t rfl ?_
  refine rG <| rA rfl rfl <| rN <| tr_ret <| q_thn_ret <| q_ret (res_tmp rfl rfl) ?_
  exact ⟨none, rfl, KPt, .inl ⟨rfl, hcv⟩⟩
theorem c_Get_6 {χ : Chi} {A : Nat → Prop} {v : Lev} {h : Heap} {y : Nat} {kv : Value} {key : ByteArray} (hS : LevS A v h) (hlow : Low A h) (hAc : ¬ A v.c) (hI : LevY v y h) (hkey : RBytes (fun b => b ≠ v.c) h kv key) {j : Nat} {s : SpanD} (n0 : ltI v.W key = j + 1) (hs : v.W[j]? = some s) (es : decide (0 ≤ cmpB key s.e) = true) {u : SpanD} (hu : v.W[j + 1]? = some u) (gsu : decide (cmpB key u.s < 0) = true) (hcv : covS v.W key = none) :
    Cl Tryz.prog χ 70 #[cmpF, v.it, kv] h (GetP v key h) := by
  unfold cmpF Lev.it
  refine cl_intro Tryz.func70 rfl rfl rfl ?_
  have K : Keep [v.c] h h := Keep.refl _ _
  refine rG <| rA rfl rfl <| rN <| rG <| rM rfl rfl <| rM rfl rfl <| rs_w (w_mcall (vs := [_]) (ly_SeekLT hS hlow hAc hI hkey) rfl ⟨rfl, trivial⟩) rfl ?_
  rintro rv1 h1 ⟨hrv1, hI1, KP1⟩
  have KPt := KP1
  have hS1 : LevS A v h1 := hS.stab (KPt.stab fun b hb => ⟨hlow b hb, by simp; rintro rfl; exact hAc hb⟩)
  have hke : RBy h1 kv key := RBytes.by ((RBytes.lowen hkey).stab (KPt.stab fun b hb => ⟨hb.2, by simpa using hb.1⟩))
  obtain ⟨b1, o1, ha1, hA1, hcell1, rs1, re1, _⟩ := hS1.cells j s hs
  have hlt1 := (List.getElem?_eq_some_iff.1 hs).1
  rw [show ltI v.W key = j + 1 from by omega, Lev.sa_at hlt1 ha1] at hrv1
  subst hrv1
  refine rA rfl rfl <| rN <| tr_seq <| rG <| rM rfl rfl <| rs_v (v_peq u_p_keyspan_Span rfl rfl) rfl ?_
  refine rN <| tr_if_f rfl ?_
  refine tr_skip <| q_thn <| tr_seq <| rG <| rM rfl rfl <| rM rfl rfl <| rM rfl rfl <| rC rfl rfl <| rF fa_keyspan_Span_1 rfl rfl <| rs_v (v_load one_sl_uint8 rfl (by exact hcell1 1 _ rfl)) rfl ?_
  refine rs_w (w_callv (first := []) (cap := []) (vs := [_, _]) ok_bytes_Compare rfl ⟨rfl, rfl, trivial⟩ (c_Compare χ _ _ _ key s.e hke (RBytes.by re1))) rfl ?_
  rintro _ h2 ⟨rfl, hsame⟩; have hsame := hsame.symm; subst hsame
  refine rs_v (v_ge rfl rfl) rfl ?_
  refine rN <| tr_if_t (lkb es) ?_
  refine rG <| rM rfl rfl <| rs_w (w_mcall (vs := []) (ly_Next hS1 (ltI_le _ _) hI1) rfl trivial) rfl ?_
  rintro rv2 h3 ⟨hrv2, hI2, KP2⟩
  have KPt := KPt.trans KP2
  have hS2 : LevS A v h3 := hS.stab (KPt.stab fun b hb => ⟨hlow b hb, by simp; rintro rfl; exact hAc hb⟩)
  have hke : RBy h3 kv key := RBytes.by ((RBytes.lowen hkey).stab (KPt.stab fun b hb => ⟨hb.2, by simpa using hb.1⟩))
  obtain ⟨b2, o2, ha2, hA2, hcell2, rs2, re2, _⟩ := hS2.cells (j + 1) u hu
  have hlt2 := (List.getElem?_eq_some_iff.1 hu).1
  rw [show ltI v.W key + 1 = (j + 1) + 1 from by omega, Lev.sa_at hlt2 ha2] at hrv2
  subst hrv2
  refine rA rfl rfl <| rN <| rG <| rM rfl rfl <| rs_v (v_peq u_p_keyspan_Span rfl rfl) rfl ?_
  refine rM rfl rfl <| rs_gv rfl (rfl) (v_move rfl) rfl ?_
  refine rs_gv rfl (rfl) (v_move rfl) rfl ?_
  refine rs_gv rfl (rfl) (v_move rfl) rfl ?_
  refine rs_gv rfl (rfl) (v_nilCheck_ptr rfl) rfl ?_
  refine rs_gv rfl (rfl) (v_fieldAddr fa_keyspan_Span_0 rfl) rfl ?_
  refine rs_gv rfl (rfl) (v_load one_sl_uint8 rfl (by exact hcell2 0 _ rfl)) rfl ?_
  refine rs_gw rfl (rfl) (w_callv (first := []) (cap := []) (vs := [_, _]) ok_bytes_Compare rfl ⟨rfl, rfl, trivial⟩ (c_Compare χ _ _ _ key u.s hke (RBytes.by rs2))) rfl ?_
  rintro _ h4 ⟨rfl, hsame⟩; have hsame := hsame.symm; subst hsame
  refine rs_gv rfl (rfl) (v_lt rfl rfl) rfl ?_
  refine rs_v (v_pick_f rfl rfl) rfl ?_
  refine rN <| tr_if_t (lkb gsu) ?_
  refine rG <| rA rfl rfl <| rN <| tr_ret <| q_thn_ret <| q_ret (res_tmp rfl rfl) ?_
  exact ⟨none, rfl, KPt, .inl ⟨rfl, hcv⟩⟩
theorem c_Get_7 {χ : Chi} {A : Nat → Prop} {v : Lev} {h : Heap} {y : Nat} {kv : Value} {key : ByteArray} (hS : LevS A v h) (hlow : Low A h) (hAc : ¬ A v.c) (hI : LevY v y h) (hkey : RBytes (fun b => b ≠ v.c) h kv key) {j : Nat} {s : SpanD} (n0 : ltI v.W key = j + 1) (hs : v.W[j]? = some s) (es : decide (0 ≤ cmpB key s.e) = true) {u : SpanD} (hu : v.W[j + 1]? = some u) (gsu : decide (cmpB key u.s < 0) = false) (hcv : covS v.W key = some u) :
    Cl Tryz.prog χ 70 #[cmpF, v.it, kv] h (GetP v key h) := by
  unfold cmpF Lev.it
  refine cl_intro Tryz.func70 rfl rfl rfl ?_
  have K : Keep [v.c] h h := Keep.refl _ _
  refine rG <| rA rfl rfl <| rN <| rG <| rM rfl rfl <| rM rfl rfl <| rs_w (w_mcall (vs := [_]) (ly_SeekLT hS hlow hAc hI hkey) rfl ⟨rfl, trivial⟩) rfl ?_
  rintro rv1 h1 ⟨hrv1, hI1, KP1⟩
  have KPt := KP1
  have hS1 : LevS A v h1 := hS.stab (KPt.stab fun b hb => ⟨hlow b hb, by simp; rintro rfl; exact hAc hb⟩)
  have hke : RBy h1 kv key := RBytes.by ((RBytes.lowen hkey).stab (KPt.stab fun b hb => ⟨hb.2, by simpa using hb.1⟩))
  obtain ⟨b1, o1, ha1, hA1, hcell1, rs1, re1, _⟩ := hS1.cells j s hs
  have hlt1 := (List.getElem?_eq_some_iff.1 hs).1
  rw [show ltI v.W key = j + 1 from by omega, Lev.sa_at hlt1 ha1] at hrv1
  subst hrv1
  refine rA rfl rfl <| rN <| tr_seq <| rG <| rM rfl rfl <| rs_v (v_peq u_p_keyspan_Span rfl rfl) rfl ?_
  refine rN <| tr_if_f rfl ?_
  refine tr_skip <| q_thn <| tr_seq <| rG <| rM rfl rfl <| rM rfl rfl <| rM rfl rfl <| rC rfl rfl <| rF fa_keyspan_Span_1 rfl rfl <| rs_v (v_load one_sl_uint8 rfl (by exact hcell1 1 _ rfl)) rfl ?_
  refine rs_w (w_callv (first := []) (cap := []) (vs := [_, _]) ok_bytes_Compare rfl ⟨rfl, rfl, trivial⟩ (c_Compare χ _ _ _ key s.e hke (RBytes.by re1))) rfl ?_
  rintro _ h2 ⟨rfl, hsame⟩; have hsame := hsame.symm; subst hsame
  refine rs_v (v_ge rfl rfl) rfl ?_
  refine rN <| tr_if_t (lkb es) ?_
  refine rG <| rM rfl rfl <| rs_w (w_mcall (vs := []) (ly_Next hS1 (ltI_le _ _) hI1) rfl trivial) rfl ?_
  rintro rv2 h3 ⟨hrv2, hI2, KP2⟩
  have KPt := KPt.trans KP2
  have hS2 : LevS A v h3 := hS.stab (KPt.stab fun b hb => ⟨hlow b hb, by simp; rintro rfl; exact hAc hb⟩)
  have hke : RBy h3 kv key := RBytes.by ((RBytes.lowen hkey).stab (KPt.stab fun b hb => ⟨hb.2, by simpa using hb.1⟩))
  obtain ⟨b2, o2, ha2, hA2, hcell2, rs2, re2, _⟩ := hS2.cells (j + 1) u hu
  have hlt2 := (List.getElem?_eq_some_iff.1 hu).1
  rw [show ltI v.W key + 1 = (j + 1) + 1 from by omega, Lev.sa_at hlt2 ha2] at hrv2
  subst hrv2
  refine rA rfl rfl <| rN <| rG <| rM rfl rfl <| rs_v (v_peq u_p_keyspan_Span rfl rfl) rfl ?_
  refine rM rfl rfl <| rs_gv rfl (rfl) (v_move rfl) rfl ?_
  refine rs_gv rfl (rfl) (v_move rfl) rfl ?_
  refine rs_gv rfl (rfl) (v_move rfl) rfl ?_
  refine rs_gv rfl (rfl) (v_nilCheck_ptr rfl) rfl ?_
  refine rs_gv rfl (rfl) (v_fieldAddr fa_keyspan_Span_0 rfl) rfl ?_
  refine rs_gv rfl (rfl) (v_load one_sl_uint8 rfl (by exact hcell2 0 _ rfl)) rfl ?_
  refine rs_gw rfl (rfl) (w_callv (first := []) (cap := []) (vs := [_, _]) ok_bytes_Compare rfl ⟨rfl, rfl, trivial⟩ (c_Compare χ _ _ _ key u.s hke (RBytes.by rs2))) rfl ?_
  rintro _ h4 ⟨rfl, hsame⟩; have hsame := hsame.symm; subst hsame
  refine rs_gv rfl (rfl) (v_lt rfl rfl) rfl ?_
  refine rs_v (v_pick_f rfl rfl) rfl ?_
  refine rN <| tr_if_f (lkb gsu) ?_
  refine tr_skip <| q_thn <| rG <| rM rfl rfl <| rA rfl rfl <| rN <| tr_ret <| q_ret (res_tmp rfl rfl) ?_
  exact ⟨_, rfl, KPt, .inr ⟨(j + 1), u, (Lev.sa_at hlt2 ha2).symm, hu, hcv⟩⟩
theorem c_Get {χ : Chi} {A : Nat → Prop} {v : Lev} {h : Heap} {y : Nat} {kv : Value} {key : ByteArray} (hS : LevS A v h) (hlow : Low A h) (hAc : ¬ A v.c) (hI : LevY v y h) (hkey : RBytes (fun b => b ≠ v.c) h kv key) :
    Cl Tryz.prog χ 70 #[cmpF, v.it, kv] h (GetP v key h) := by
  have hO := hS.ord
  have d1 : ∀ {a b : ByteArray} {v : Bool}, slt a b = v → decide (cmpB a b < 0) = v := fun {a b v} e => by rw [← slt_cmp]; exact e
  have d2 : ∀ {a b : ByteArray} {v : Bool}, slt a b = v → decide (0 ≤ cmpB a b) = !v := fun {a b v} e => by
    cases v with
    | true => have := slt_iff.1 e; exact decide_eq_false (by omega)
    | false => have := slt_no.1 e; exact decide_eq_true (by omega)
  rcases Nat.eq_zero_or_pos (ltI v.W key) with e0 | e0
  · by_cases hW : v.W.length = 0
    · refine c_Get_1 hS hlow hAc hI hkey e0 hW (cov_no fun u hu => ?_)
      rw [List.eq_nil_of_length_eq_zero hW] at hu; simp at hu
    · obtain ⟨s, hs0⟩ := ex_get (L := v.W) (k := 0) (by omega)
      cases e1 : slt key s.s with
      | true =>
        refine c_Get_2 hS hlow hAc hI hkey e0 hs0 (d1 e1) (cov_no fun u hu => ?_)
        obtain ⟨i, hi⟩ := List.getElem?_of_mem hu
        have h1 := hO.starts (Nat.zero_le i) hs0 hi
        unfold inS
        rw [show sle u.s key = false from not_sle.2 (slt_of_slt_sle e1 h1)]; rfl
      | false =>
        have e2 : slt key s.e = true := slt_of_sle_slt (not_slt.1 (ltI_above (k := key) 0 s (by omega) hs0)) (hO.1 s (List.mem_of_getElem? hs0))
        exact c_Get_3 hS hlow hAc hI hkey e0 hs0 (d1 e1) (d2 e2) (cov_yes hO hs0 (inS_iff.2 ⟨not_slt.1 e1, e2⟩))
  · obtain ⟨j, hj⟩ : ∃ j, ltI v.W key = j + 1 := ⟨ltI v.W key - 1, by omega⟩
    have hl := ltI_le v.W key
    obtain ⟨s, hs⟩ := ex_get (L := v.W) (k := j) (by omega)
    have hlt : slt s.s key = true := ltI_at (W := v.W) (k := key) (s := s) (by omega) (by rw [hj]; exact hs)
    cases e1 : slt key s.e with
    | true => exact c_Get_4 hS hlow hAc hI hkey hj hs (d2 e1) (cov_yes hO hs (inS_iff.2 ⟨slt_sle hlt, e1⟩))
    | false =>
      have hpast : ∀ i u, i ≤ j → v.W[i]? = some u → inS key u = false := fun i u hi hu => by
        unfold inS
        rw [show slt key u.e = false from ?_, Bool.and_false]
        rcases Nat.lt_or_ge i j with e | e
        · exact not_slt.2 (sle_trans (hO.le i j u s e hu hs) (sle_trans (slt_sle (hO.1 s (List.mem_of_getElem? hs))) (not_slt.1 e1)))
        · obtain rfl : i = j := by omega
          rw [hs] at hu; cases hu; exact e1
      by_cases hn : j + 1 < v.W.length
      · obtain ⟨u, hu⟩ := ex_get (L := v.W) (k := j + 1) hn
        cases e3 : slt key u.s with
        | true =>
          refine c_Get_6 hS hlow hAc hI hkey hj hs (d2 e1) hu (d1 e3) (cov_no fun x hx => ?_)
          obtain ⟨i, hi⟩ := List.getElem?_of_mem hx
          rcases Nat.lt_or_ge j i with e | e
          · unfold inS
            rw [show sle x.s key = false from not_sle.2 (slt_of_slt_sle e3 (hO.starts (show j + 1 ≤ i by omega) hu hi))]; rfl
          · exact hpast i x e hi
        | false =>
          exact c_Get_7 hS hlow hAc hI hkey hj hs (d2 e1) hu (d1 e3) (cov_yes hO hu (inS_iff.2 ⟨not_slt.1 e3, slt_of_sle_slt (not_slt.1 (ltI_above (k := key) (j + 1) u (by omega) hu)) (hO.1 u (List.mem_of_getElem? hu))⟩))
      · refine c_Get_5 hS hlow hAc hI hkey hj hs (d2 e1) (by omega) (cov_no fun x hx => ?_)
        obtain ⟨i, hi⟩ := List.getElem?_of_mem hx
        have := (List.getElem?_eq_some_iff.1 hi).1
        exact hpast i x (by omega) hi
end Go.Proofs.YtblhkgldhcbmeaaGreat
namespace Go.Tess
open Go.RowKit
theorem res_ct {P : Program} {χ : Chi} {n : Nat} {fn : Func} {E : Env} {h : Heap} {t p : Nat} {ty : TypeId} {b o : Nat} {v : Value} {vs : List Value} (hr : fn.results = #[.cell p ty, .tmp t]) (ht : E.lookup t = some v) (hv : E.lookup p = some (.pointer (some ⟨b, o, none⟩))) (hm : Many P ty vs.length) (hc : CellsAt h b o vs) :
    ResV P χ n fn E h (.tuple #[.agg vs.toArray, v]) := by
  intro a d ha
  have h1 := ha.2.2 p _ hv
  have h2 := ha.2.2 t _ ht
  have hl := run_loadCells_list (P := P) (mkw χ h d) ⟨b, o, none⟩ vs (fun j v hj => by rw [addr_add, cell_mkw]; exact hc j v hj)
  simp [results, hr, h1, h2, Array.getD_eq_getD_getElem?, asAddr, loadVar, hm.1 (mkw χ h d), hm.2 (mkw χ h d), hl]
end Go.Tess
namespace Go.Proofs.YtblhkgldhcbmeaaGreat
open Go.Tess Go.RowKit
set_option maxRecDepth 100000
set_option maxHeartbeats 1000000
theorem c_SpValid {χ : Chi} {h : Heap} {b o : Nat} {sv ev kv : Value} (hc : CellsAt h b o [sv, ev, kv, .int .i8 0]) (h1 : NN sv) (h2 : NN ev) :
    Cl Tryz.prog χ 115 #[.pointer (some ⟨b, o, none⟩)] h (fun r h' => r = .bool true ∧ h' = h) := by
  obtain ⟨a1, n1, c1, rfl⟩ := h1
  obtain ⟨a2, n2, c2, rfl⟩ := h2
  refine cl_intro Tryz.func115 rfl rfl rfl ?_
  have K : Keep [] h h := Keep.refl _ _
  refine rG <| rA rfl rfl <| rN <| rG <| rM rfl rfl <| rC rfl rfl <| rF fa_keyspan_Span_0 rfl rfl <| rs_v (v_load one_sl_uint8 rfl (by exact hc 0 _ rfl)) rfl ?_
  refine rs_v (v_snen u_sl_uint8 rfl rfl) rfl ?_
  refine rM rfl rfl <| rs_gv rfl (rfl) (v_move rfl) rfl ?_
  refine rs_gv rfl (rfl) (v_nilCheck_ptr rfl) rfl ?_
  refine rs_gv rfl (rfl) (v_fieldAddr fa_keyspan_Span_1 rfl) rfl ?_
  refine rs_gv rfl (rfl) (v_load one_sl_uint8 rfl (by exact hc 1 _ rfl)) rfl ?_
  refine rs_gv rfl (rfl) (v_snen u_sl_uint8 rfl rfl) rfl ?_
  refine rs_v (v_pick_t rfl rfl) rfl ?_
  refine rA rfl rfl <| rN <| tr_ret <| q_ret (res_tmp rfl rfl) ?_
  exact ⟨rfl, rfl⟩
theorem c_plainOrNone_n {χ : Chi} {h : Heap} :
    Cl Tryz.prog χ 69 #[.pointer none] h (fun r h' => r = .tuple #[.agg #[.string ByteArray.empty, .string ByteArray.empty, .slice none 0 0], .bool false] ∧ Keep [] h h') := by
  refine cl_intro Tryz.func69 rfl rfl rfl ?_
  have K : Keep [] h h := Keep.refl _ _
  refine rG <| rs_w (w_new zero_impl_Span) rfl ?_
  rintro _ h1 ⟨rfl, B1, K1, Z1⟩
  have S1 := K.1; have K := K.new0 K1
  refine rA rfl rfl <| rN <| tr_seq <| rG <| rM rfl rfl <| rs_v (v_peq u_p_keyspan_Span rfl rfl) rfl ?_
  refine rM rfl rfl <| rs_gs rfl (rfl) rfl rfl <| rs_gs rfl (rfl) rfl rfl <| rs_gs rfl (rfl) rfl rfl <| rs_v (v_pick_t rfl rfl) rfl ?_
  refine rN <| tr_if_t rfl ?_
  refine rG <| rs_v (v_build0 (bld_impl_Span_)) rfl ?_
  refine rs_w0 (w_put siz_impl_Span rfl rfl rfl rfl B1 rfl) ?_
  rintro _ h2 ⟨B2, K2⟩
  have B1 := B2; have K := K.new1 K2 (by first | (right; omega) | (left; simp; done)); have Z2 := K2.1
  refine rA rfl rfl <| rN <| tr_ret <| q_thn_ret <| q_ret (res_ct (vs := [_, _, _]) rfl rfl rfl many_impl_Span (by exact B1.sub 0 3 rfl)) ?_
  exact ⟨rfl, K⟩
theorem c_plainOrNone_s {χ : Chi} {h : Heap} {A : Nat → Prop} (hA : Low A h) {s : SpanD} {b o : Nat} {sv ev kv : Value} (hc : CellsAt h b o [sv, ev, kv, .int .i8 0]) (g1 : NN sv) (g2 : NN ev) (r1 : RBytes A h sv s.s) (r2 : RBytes A h ev s.e) (r3 : PKeys A h kv s.ks) (hn : s.ks.length ≤ 100000) :
    Cl Tryz.prog χ 69 #[.pointer (some ⟨b, o, none⟩)] h (fun r h' => (∃ a n c, r = .tuple #[.agg #[.string s.s, .string s.e, .slice a n c], .bool true] ∧ RKeys (Up N0 h h') h' (.slice a n c) s.ks) ∧ Keep [] h h') := by
  obtain ⟨a1, n1, c1, rfl⟩ := id g1
  obtain ⟨a2, n2, c2, rfl⟩ := id g2
  obtain ⟨a3, n3, c3, rfl⟩ := r3.form2
  refine cl_intro Tryz.func69 rfl rfl rfl ?_
  have K : Keep [] h h := Keep.refl _ _
  refine rG <| rs_w (w_new zero_impl_Span) rfl ?_
  rintro _ h1 ⟨rfl, B1, K1, Z1⟩
  have S1 := K.1; have K := K.new0 K1
  refine rA rfl rfl <| rN <| tr_seq <| rG <| rM rfl rfl <| rs_v (v_peq u_p_keyspan_Span rfl rfl) rfl ?_
  refine rM rfl rfl <| rs_gv rfl (rfl) (v_move rfl) rfl ?_
  refine rs_gw rfl (rfl) (w_call (vs := [_]) ok_keyspan_Span_Valid rfl ⟨rfl, trivial⟩ (c_SpValid (K.cells (by simp) hc) g1 g2)) rfl ?_
  rintro _ h2 ⟨rfl, hsame⟩; have hsame := hsame.symm; subst hsame
  refine rs_gv rfl (rfl) (v_not rfl) rfl ?_
  refine rs_v (v_pick_f rfl rfl) rfl ?_
  refine rN <| tr_if_f rfl ?_
  refine tr_skip <| q_thn <| rG <| rM rfl rfl <| rC rfl rfl <| rs_v (v_loadAgg (vs := [_, _, _, _]) many_keyspan_Span rfl (by exact K.cells (by simp) hc)) rfl ?_
  refine rs_w (w_call (vs := [_]) ok_impl_plainSpan rfl ⟨rfl, trivial⟩ (c_plainSpan χ _ A (hA.mono (by omega)) s _ _ _ 0 (r1.stab (K.st hA)) (r2.stab (K.st hA)) (r3.stab (K.st hA)) hn)) rfl ?_
  rintro _ h3 ⟨⟨kv3, rfl, hk3⟩, K3⟩
  obtain ⟨ka, kc, rfl⟩ := hk3.form2
  have hkk := hk3
  have Zk := K3.1
  have B1 := K3.blk (by simp) B1
  have K := K.new0 K3; have Z3 := K3.1
  refine rs_w0 (w_put siz_impl_Span rfl rfl rfl rfl B1 rfl) ?_
  rintro _ h4 ⟨B4, K4⟩
  have B1 := B4; have K := K.new1 K4 (by first | (right; omega) | (left; simp; done)); have Z4 := K4.1
  refine rA rfl rfl <| rN <| tr_ret <| q_ret (res_ct (vs := [_, _, _]) rfl rfl rfl many_impl_Span (by exact B1.sub 0 3 rfl)) ?_
  exact ⟨⟨_, _, _, rfl, (rk_skip hkk Zk K4 (by omega)).mono (fun b hb => hb.elim (fun e => e.elim) (fun e => .inr ⟨by omega, e.2⟩))⟩, K⟩
def FoundAt (A : Nat → Prop) (h : Heap) (qv : Option Addr) (q : Option SpanD) : Prop :=
  (qv = none ∧ q = none) ∨ ∃ s b o sv ev kv, q = some s ∧ qv = some ⟨b, o, none⟩ ∧ CellsAt h b o [sv, ev, kv, .int .i8 0] ∧ NN sv ∧ NN ev ∧ RBytes A h sv s.s ∧ RBytes A h ev s.e ∧ PKeys A h kv s.ks ∧ s.ks.length ≤ 100000
theorem c_plainOrNone {χ : Chi} {h : Heap} {A : Nat → Prop} (hA : Low A h) {qv : Option Addr} {q : Option SpanD} (H : FoundAt A h qv q) :
    Cl Tryz.prog χ 69 #[.pointer qv] h (fun r h' => (∃ a n c, r = .tuple #[.agg #[.string (q.getD zeroSpan).s, .string (q.getD zeroSpan).e, .slice a n c], .bool q.isSome] ∧ RKeys (Up N0 h h') h' (.slice a n c) (q.getD zeroSpan).ks) ∧ Keep [] h h') := by
  rcases H with ⟨rfl, rfl⟩ | ⟨s, b, o, sv, ev, kv, rfl, rfl, hc, h1, h2, r1, r2, r3, hn⟩
  · exact c_plainOrNone_n.mono fun r h' ⟨e, K⟩ => ⟨⟨_, _, _, e, SlR.nil _ _ _ _⟩, K⟩
  · exact c_plainOrNone_s hA hc h1 h2 r1 r2 r3 hn
theorem found_of {A : Nat → Prop} {v : Lev} {h : Heap} {key : ByteArray} {qv : Option Addr} (hS : LevS A v h) (hf : ∀ s, s ∈ v.W → s.ks.length ≤ 100000) (hq : (qv = none ∧ covS v.W key = none) ∨ ∃ s x, qv = v.sa (s + 1) ∧ v.W[s]? = some x ∧ covS v.W key = some x) : FoundAt A h qv (covS v.W key) := by
  rcases hq with ⟨e1, e2⟩ | ⟨s, x, e1, hx, e2⟩
  · exact .inl ⟨e1, e2⟩
  · obtain ⟨b, o, ha, hA, hc, r1, r2, r3⟩ := hS.cells s x hx
    obtain ⟨n1, n2⟩ := hS.nn s x hx
    exact .inr ⟨x, b, o + s * 4, _, _, _, e2, by rw [e1]; exact Lev.sa_at (List.getElem?_eq_some_iff.1 hx).1 ha, hc, n1, n2, r1, r2, r3, hf x (List.mem_of_getElem? hx)⟩
theorem c_SpanGet {χ : Chi} {h : Heap} {A : Nat → Prop} (hA : Low A h) {wv : Value} {W : List SpanD} {key : ByteArray} (hW : RSpans A h wv W) (hWm : ∀ s, s ∈ W → SpanD.small s) (hWOK : WOK W) (hkl : key.size ≤ 9223372036854775807) :
    Cl Tryz.prog χ 33 #[wv, .string key] h (fun r h' => (∃ a n c, r = .tuple #[.agg #[.string ((covS W key).getD zeroSpan).s, .string ((covS W key).getD zeroSpan).e, .slice a n c], .bool (covS W key).isSome] ∧ RKeys (Up N0 h h') h' (.slice a n c) ((covS W key).getD zeroSpan).ks) ∧ Keep [] h h') := by
  have hWn : W.length ≤ 100000 := by have := hWOK.1; omega
  refine cl_intro Tryz.func33 rfl rfl rfl ?_
  have K : Keep [] h h := Keep.refl _ _
  refine rG <| rs_w (w_new zero_impl_Span) rfl ?_
  rintro _ h1 ⟨rfl, B1, K1, Z1⟩
  have S1 := K.1; have K := K.new0 K1
  refine rA rfl rfl <| rN <| rG <| rs_w (w_call (vs := []) ok_base_DefaultComparer rfl trivial (c_DefaultComparer χ _)) rfl ?_
  rintro _ h2 ⟨rfl, ⟨rest, Bq⟩, K2⟩
  have B1 := K2.blk (by simp) B1
  have K := K.new0 K2; have Z2 := K2.1
  refine rC rfl rfl <| rF fa_base_Comparer_0 rfl rfl <| rs_v (v_load one_base_Compare rfl (by exact Bq.cell _ rfl)) rfl ?_
  refine rA rfl rfl <| rN <| rG <| rM rfl rfl <| rM rfl rfl <| rM rfl rfl <| rs_w (w_call (vs := [_]) ok_impl_spans rfl ⟨rfl, trivial⟩ (c_spansN χ _ A (hA.mono (by omega)) _ W (hW.stab (K.st hA)) hWn hWm)) rfl ?_
  rintro w3 h3 ⟨hPW, K3⟩
  obtain ⟨wa, wc, rfl⟩ := SlR.form2 hPW
  have Zw := K3.1
  have B1 := K3.blk (by simp) B1
  have K := K.new0 K3; have Z3 := K3.1
  refine rs_w (w_call (vs := [_, _]) ok_keyspan_NewIter rfl ⟨rfl, rfl, trivial⟩ (c_NewIter χ _ wa W.length wc)) rfl ?_
  rintro _ h4 ⟨rfl, Bi, K4⟩
  have hPW5 := hPW.stab (K4.st ((n0low _).up Zw))
  have hbi := Bi.lt
  obtain ⟨v, hv1, hv2, hv3, hv4, hLS, _, _⟩ := mk_lev hPW5 hWOK h3.size
  have Bw : Blk h4 v.c (itL (.slice v.a v.W.length v.cc) (-1)) 239 := by rw [hv4, hv1, hv2, hv3]; exact Bi
  have hlw : Low (Up N0 h2 h3) h4 := fun b hb => Nat.lt_of_lt_of_le ((n0low _).up Zw b hb) K4.1
  have hAc : ¬ Up N0 h2 h3 v.c := fun hb => hb.elim (fun e => e.elim) (fun e => by rw [hv4] at e; have := e.2; omega)
  have B1 := K4.blk (by simp) B1
  have K := K.new0 K4; have Z4 := K4.1
  refine rs_v (v_makeIface u_p_keyspan_Iter rfl) rfl ?_
  refine rM rfl rfl <| rs_w (w_bytes u_string u_sl_uint8 u_uint8 rfl hkl) rfl ?_
  rintro _ h5 ⟨cb, rfl, K5, hby⟩
  have B1 := K5.blk (by simp) B1
  have Bw := K5.blk (by simp) Bw
  have hLS := hLS.stab (K5.st hlw)
  have hlw : Low (Up N0 h2 h3) _ := hlw.mono (K5).1
  have K := K.new0 K5; have Z5 := K5.1
  refine rs_w (w_call (vs := [_, _, _]) ok_keyspan_Get rfl ⟨rfl, rfl, rfl, trivial⟩ (by rw [show (Value.iface 131 (.pointer (some ⟨h3.size, 0, none⟩))) = v.it from by unfold Lev.it; rw [hv4]]; exact c_Get (y := 0) (v := v) hLS hlw hAc (by unfold LevY; rw [if_pos (Nat.zero_le _)]; exact ⟨-1, Bw, by simp [lvX]⟩) (hby.mono fun b hb e => by have := hb.1; omega))) rfl ?_
  rintro _ h6 ⟨qv, rfl, K6, hq⟩
  have B1 := K6.blk (by simp; omega) B1
  have hLS := hLS.stab (K6.stab fun b hb => ⟨hlw b hb, by simp; rintro rfl; exact hAc hb⟩)
  have hlw : Low (Up N0 h2 h3) h6 := hlw.mono K6.1
  have Z6 := K6.1
  have K := K.new1 K6 (.inr (by omega))
  rw [hv1] at hq
  refine rs_w (w_call (vs := [_]) ok_impl_plainOrNone rfl ⟨rfl, trivial⟩ (c_plainOrNone (q := covS W key) hlw (by have h9 := found_of (key := key) hLS (fun s hs => by rw [hv1] at hs; have := (hWOK.2.2 s hs).1; omega) (by rw [hv1]; exact hq); rw [hv1] at h9; exact h9))) rfl ?_
  rintro _ h7 ⟨⟨pa, pn, pc, rfl, hpk⟩, K7⟩
  have Zp := K7.1
  have hzp : h.size < h6.size := B1.lt
  have B1 := K7.blk (by simp) B1
  have K := K.new0 K7; have Z7 := K7.1
  refine rs_v (v_extract rfl rfl) rfl <| rs_v (v_extract rfl rfl) rfl <| rs_w0 (w_put siz_impl_Span rfl rfl rfl rfl B1 rfl) ?_
  rintro _ h8 ⟨B8, K8⟩
  have B1 := B8; have K := K.new1 K8 (by first | (right; omega) | (left; simp; done)); have Z8 := K8.1
  refine rA rfl rfl <| rN <| tr_ret <| q_ret (res_ct (vs := [_, _, _]) rfl rfl rfl many_impl_Span (by exact B1.sub 0 3 rfl)) ?_
  exact ⟨⟨_, _, _, rfl, (rk_skip hpk Zp K8 hzp).mono (fun b hb => hb.elim (fun e => e.elim) (fun e => .inr ⟨by omega, e.2⟩))⟩, K⟩
end Go.Proofs.YtblhkgldhcbmeaaGreat
