/- Thirty-fourth part: Truncate, and impl.SpanTruncated. Conditions: those that each theorem names. -/
import Derived.Test.YtgebfbnndgjkiaaW33
set_option linter.unusedVariables false
set_option linter.unusedSimpArgs false
namespace Go.Proofs.Ytgebfbnndgjkiaa
open Go.Tess Go.RowKit
set_option maxRecDepth 100000
set_option maxHeartbeats 1000000
theorem cutLo_ge (lo : ByteArray) (s : SpanD) : sle s.s (cutLo lo s) = true := by
  unfold cutLo
  split
  · rename_i h; exact slt_sle h
  · exact sle_refl _
theorem cutUp_le (up : ByteArray) (s : SpanD) : sle (cutUp up s) s.e = true := by
  unfold cutUp
  split
  · rename_i h; exact slt_sle h
  · exact sle_refl _
theorem ffT_some {st en : Option ByteArray} {lo up : ByteArray} {s s' : SpanD} (h : ffT st en lo up s = some s') : slt (cutLo lo s) (cutUp up s) = true ∧ s' = ⟨cutLo lo s, cutUp up s, s.ks⟩ := by
  unfold ffT at h
  split at h
  · cases h
  split at h
  · cases h
  split at h
  · rename_i hlt; cases h; exact ⟨hlt, rfl⟩
  · cases h
theorem ffT_shrink (st en : Option ByteArray) (lo up : ByteArray) (W : List SpanD) : Shrink (ffT st en lo up) W := fun s s' _ hf => by
  obtain ⟨h1, rfl⟩ := ffT_some hf
  exact ⟨cutLo_ge lo s, h1, cutUp_le up s⟩
theorem ffT_len {st en : Option ByteArray} {lo up : ByteArray} {W : List SpanD} (hm : ∀ s, s ∈ W → s.ks.length ≤ 100000) : ∀ s, s ∈ W.filterMap (ffT st en lo up) → s.ks.length ≤ 100000 := by
  intro s hs
  obtain ⟨x, hx, hf⟩ := List.mem_filterMap.1 hs
  obtain ⟨_, rfl⟩ := ffT_some hf
  exact hm x hx
def fnTv (bst bcm ben blo bup bpn : Nat) : Value := .func (.func 91) #[] #[.pointer (some ⟨bst, 0, none⟩), .pointer (some ⟨bcm, 0, none⟩), .pointer (some ⟨ben, 0, none⟩), .pointer (some ⟨blo, 0, none⟩), .pointer (some ⟨bup, 0, none⟩), .pointer (some ⟨bpn, 0, none⟩)]
theorem fnT_ok (χ : Chi) (W : List SpanD) (bst bcm ben blo bup bpn : Nat) (st en : Option ByteArray) (lo up : ByteArray) (G : Nat → Prop) (hWn : ∀ s, s ∈ W → s.ks.length ≤ 100000 ∧ s.ks ≠ [] ∧ en ≠ some s.s) :
    FnOK χ W (ffT st en lo up) (fnTv bst bcm ben blo bup bpn) G (EnvT bst bcm ben blo bup bpn st en lo up G) where
  form := ⟨_, [.pointer (some ⟨bst, 0, none⟩), .pointer (some ⟨bcm, 0, none⟩), .pointer (some ⟨ben, 0, none⟩), .pointer (some ⟨blo, 0, none⟩), .pointer (some ⟨bup, 0, none⟩), .pointer (some ⟨bpn, 0, none⟩)], rfl, ok_keyspan_Truncate_c1, fun h Fin s bi oi c x0 x1 x2 sv0 ev0 kv0 kk n0 xs0 hl hin hbi B hcF O hx hE hg hmem =>
    c_fnT χ h Fin hl s bi oi hin hbi c x0 x1 x2 sv0 ev0 kv0 kk B hcF n0 xs0 O bst bcm ben blo bup bpn st en lo up G hE hx hg (hWn s hmem).1 (hWn s hmem).2.1 (hWn s hmem).2.2⟩
  low := fun hE => hE.low
  stab := fun hE hs hz => hE.stab hs hz

theorem c_Truncate (χ : Chi) (h : Heap) (t : TypeId) (v0 : Value) (al au : Option Addr) (nl cl nu cu : Nat) (ps pe : Option Addr) :
    Cl Try.prog χ 70 #[cmpF, .iface t v0, .slice al nl cl, .slice au nu cu, .pointer ps, .pointer pe, .bool false] h
      (fun r h' => ∃ b0 b1 b2 b3 b4 b5 c, h.size ≤ b0 ∧ b0 < b1 ∧ b1 < b2 ∧ b2 < b3 ∧ b3 < b4 ∧ b4 < b5 ∧ b5 < c ∧ r = .iface 183 (.pointer (some ⟨c, 0, none⟩)) ∧
        Blk h' c [.iface t v0, fnTv b3 b0 b4 b1 b2 b5, cmpF, .slice none 0 0, .slice none 0 0, .slice none 0 0, .int .i8 0] 185 ∧
        Blk h' b0 [cmpF] 104 ∧ Blk h' b1 [.slice al nl cl] 123 ∧ Blk h' b2 [.slice au nu cu] 123 ∧ Blk h' b3 [.pointer ps] 171 ∧ Blk h' b4 [.pointer pe] 171 ∧ Blk h' b5 [.bool false] 4 ∧ Keep [] h h') := by
  unfold cmpF
  refine cl_intro Try.func70 rfl rfl rfl ?_
  have K : Keep [] h h := Keep.refl _ _
  refine tr_seq ?_
  refine tr_reg ?_
  refine rs_w (w_newbox rfl) rfl ?_
  rintro _ h1 ⟨rfl, B1, K1, Z1⟩
  have S1 := K.1; have K := K.new0 K1
  refine rs_w (w_newbox rfl) rfl ?_
  rintro _ h2 ⟨rfl, B2, K2, Z2⟩
  have B1 := K2.blk (by simp) B1
  have S2 := K.1; have K := K.new0 K2
  refine rs_w (w_newbox rfl) rfl ?_
  rintro _ h3 ⟨rfl, B3, K3, Z3⟩
  have B1 := K3.blk (by simp) B1
  have B2 := K3.blk (by simp) B2
  have S3 := K.1; have K := K.new0 K3
  refine rs_w (w_newbox rfl) rfl ?_
  rintro _ h4 ⟨rfl, B4, K4, Z4⟩
  have B1 := K4.blk (by simp) B1
  have B2 := K4.blk (by simp) B2
  have B3 := K4.blk (by simp) B3
  have S4 := K.1; have K := K.new0 K4
  refine rs_w (w_newbox rfl) rfl ?_
  rintro _ h5 ⟨rfl, B5, K5, Z5⟩
  have B1 := K5.blk (by simp) B1
  have B2 := K5.blk (by simp) B2
  have B3 := K5.blk (by simp) B3
  have B4 := K5.blk (by simp) B4
  have S5 := K.1; have K := K.new0 K5
  refine rs_w (w_newbox rfl) rfl ?_
  rintro _ h6 ⟨rfl, B6, K6, Z6⟩
  have B1 := K6.blk (by simp) B1
  have B2 := K6.blk (by simp) B2
  have B3 := K6.blk (by simp) B3
  have B4 := K6.blk (by simp) B4
  have B5 := K6.blk (by simp) B5
  have S6 := K.1; have K := K.new0 K6
  refine rs_v (v_assign rfl) rfl ?_
  refine rs_nil ?_
  refine q_thn ?_
  refine tr_seq ?_
  refine tr_reg ?_
  refine rs_v (v_move rfl) rfl ?_
  refine rs_v (v_makeFunc (vs := [_, _, _, _, _, _]) ⟨rfl, rfl, rfl, rfl, rfl, rfl, trivial⟩) rfl ?_
  refine rs_v (v_load one_base_Compare rfl (by exact B1.cell _ rfl)) rfl ?_
  refine rs_w (w_call (vs := [_, _, _]) ok_keyspan_Filter rfl ⟨rfl, rfl, rfl, trivial⟩ (c_Filter χ _ _ _ _ _)) rfl ?_
  rintro _ h7 ⟨rfl, Bf, K7⟩
  have B1 := K7.blk (by simp) B1
  have B2 := K7.blk (by simp) B2
  have B3 := K7.blk (by simp) B3
  have B4 := K7.blk (by simp) B4
  have B5 := K7.blk (by simp) B5
  have B6 := K7.blk (by simp) B6
  have K := K.new0 K7; have Z7 := K7.1
  refine rs_v (v_assign rfl) rfl ?_
  refine rs_nil ?_
  refine q_thn ?_
  refine tr_ret ?_
  refine q_ret (res_tmp rfl rfl) ?_
  exact ⟨_, _, _, _, _, _, _, Nat.le_refl _, by omega, by omega, by omega, by omega, by omega, by omega, rfl, Bf, B1, B2, B3, B4, B5, B6, K⟩
theorem c_implSpanTruncated (χ : Chi) (h : Heap) (A : Nat → Prop) (hA : Low A h) (v sv : Value) (W : List SpanD) (steps : List StepD) (lo up : ByteArray) (hW : RSpans A h v W) (hn : W.length ≤ 100000) (hm : ∀ s, s ∈ W → SpanD.small s) (hne : ∀ s, s ∈ W → s.ks ≠ []) (hO : Tess.Ord W)
    (hlo : lo.size ≤ 9223372036854775807) (hup : up.size ≤ 9223372036854775807) (hS : RSteps A h sv steps) (hsn : steps.length ≤ 1000) (hz : ∀ s, s ∈ steps → s.key.size ≤ 9223372036854775807) :
    Cl Try.prog χ 37 #[v, .string lo, .string up, sv] h (fun r h' => RAnss (Up N0 h h') h' r (walkP (W.filterMap (ffT none none lo up)) .nowhere steps) ∧ Keep [] h h') := by
  refine cl_intro Try.func37 rfl rfl rfl ?_
  have K : Keep [] h h := Keep.refl _ _
  refine tr_seq ?_
  refine tr_reg ?_
  refine rs_v (v_assign rfl) rfl ?_
  refine rs_nil ?_
  refine q_thn ?_
  refine tr_seq ?_
  refine tr_reg ?_
  refine rs_w (w_call (vs := []) ok_base_DefaultComparer rfl trivial (c_DefaultComparer χ _)) rfl ?_
  rintro _ h1 ⟨rfl, ⟨rest, Bq⟩, K1⟩
  have K := K.new0 K1; have Z1 := K1.1
  refine rs_v (v_nilCheck_ptr rfl) rfl ?_
  refine rs_v (v_fieldAddr fa_base_Comparer_0 rfl) rfl ?_
  refine rs_v (v_load one_base_Compare rfl (by exact Bq.cell _ rfl)) rfl ?_
  refine rs_v (v_assign rfl) rfl ?_
  refine rs_nil ?_
  refine q_thn ?_
  refine tr_seq ?_
  refine tr_reg ?_
  refine rs_v (v_move rfl) rfl ?_
  refine rs_v (v_move rfl) rfl ?_
  refine rs_v (v_move rfl) rfl ?_
  refine rs_w (w_call (vs := [_]) ok_impl_spans rfl ⟨rfl, trivial⟩ (c_spans χ _ A (hA.mono (by omega)) v W (hW.stab (K.st hA)) hn hm)) rfl ?_
  rintro w2 h2 ⟨hPW, K2⟩
  obtain ⟨wa, wc, rfl⟩ := SlR.form2 hPW
  have K := K.new0 K2; have Z2 := K2.1
  refine rs_w (w_call (vs := [_, _]) ok_keyspan_NewIter rfl ⟨rfl, rfl, trivial⟩ (c_NewIter χ _ wa W.length wc)) rfl ?_
  rintro _ h3 ⟨rfl, Bi, K3⟩
  have hPW := hPW.stab (K3.st ((n0low _).up Z2))
  have hi3 := Bi.lt
  have K := K.new0 K3; have Z3 := K3.1
  refine rs_v (v_makeIface u_p_keyspan_Iter rfl) rfl ?_
  refine rs_v (v_move rfl) rfl ?_
  refine rs_w (w_bytes u_string u_sl_uint8 u_uint8 rfl (by omega)) rfl ?_
  rintro _ h4 ⟨cl, rfl, K4, hlv⟩
  have hPW := hPW.stab (K4.st (fun b hb => Nat.lt_of_lt_of_le ((n0low _).up Z2 b hb) Z3))
  have Bi := K4.blk (by simp) Bi
  have K := K.new0 K4; have Z4 := K4.1
  refine rs_v (v_move rfl) rfl ?_
  refine rs_w (w_bytes u_string u_sl_uint8 u_uint8 rfl (by omega)) rfl ?_
  rintro _ h5 ⟨cu, rfl, K5, huv⟩
  have hPW := hPW.stab (K5.st (fun b hb => Nat.lt_of_lt_of_le ((n0low _).up Z2 b hb) (Nat.le_trans Z3 Z4)))
  have Bi := K5.blk (by simp) Bi
  have hlv := hlv.stab (K5.stab fun b hb => ⟨hb.2, by simp⟩)
  have K := K.new0 K5; have Z5 := K5.1
  refine rs_w (w_call (vs := [_, _, _, _, _, _, _]) ok_keyspan_Truncate rfl ⟨rfl, rfl, rfl, rfl, rfl, rfl, rfl, trivial⟩ (c_Truncate χ _ _ _ _ _ _ _ _ _ none none)) rfl ?_
  rintro _ h6 ⟨b0, b1, b2, b3, b4, b5, c, g0, g1, g2, g3, g4, g5, g6, rfl, Bf, B0, B1, B2, B3, B4, B5, K6⟩
  have hPW := hPW.stab (K6.st (fun b hb => Nat.lt_of_lt_of_le ((n0low _).up Z2 b hb) (Nat.le_trans Z3 (Nat.le_trans Z4 Z5))))
  have Bi := K6.blk (by simp) Bi
  have hcl := Bf.lt
  have Z6' := K6.1
  have hEnv : EnvT b3 b0 b4 b1 b2 b5 none none lo up (fun b => h3.size ≤ b ∧ b < c) h6 := ⟨fun b hb => by have := hb.2; omega, ⟨⟨by omega, by omega⟩, ⟨by omega, by omega⟩, ⟨by omega, by omega⟩, ⟨by omega, by omega⟩, ⟨by omega, by omega⟩, ⟨by omega, by omega⟩⟩,
    ⟨_, B3, rfl⟩, B0, ⟨_, B4, rfl⟩, ⟨_, B1, (hlv.stab (K6.stab fun b hb => ⟨by have := hb.2; omega, by simp⟩)).mono (fun b hb => ⟨hb.1, by have := hb.2; omega⟩)⟩, ⟨_, B2, (huv.stab (K6.stab fun b hb => ⟨hb.2, by simp⟩)).mono (fun b hb => ⟨by have := hb.1; omega, by have := hb.2; omega⟩)⟩, B5⟩
  have K := K.new0 K6; have Z6 := K6.1
  refine rs_v (v_move rfl) rfl ?_
  refine rs_w (w_call (vs := [_, _]) ok_impl_walkSpans rfl ⟨rfl, rfl, trivial⟩ (c_walkSpans χ h6 A (hA.mono K.1) (W.filterMap (ffT none none lo up)) _ _ _
    (fi_ok c (itB_ok χ h2.size wa wc W 187 hn hO) (fnT_ok χ W b3 b0 b4 b1 b2 b5 none none lo up (fun b => h3.size ≤ b ∧ b < c) (fun s hs => ⟨(hm s hs).2.2.1, hne s hs, by simp⟩)) (fun s hs => (hm s hs).2.2.1) hO (ffT_shrink _ _ _ _ W))
    (fun b => h.size ≤ b ∧ b < h6.size)
    ⟨.nowhere, (fun b => h1.size ≤ b ∧ b < h3.size), _, _, _, _, _, _, ⟨⟨_, Up N0 h1 h2, Bi, trivial, hPW, (fun b hb => by
        rcases hb with hb | hb
        · exact hb.elim
        · exact ⟨⟨hb.1, by omega⟩, by omega⟩), ⟨by omega, by omega⟩, (fun b hb => by have := hb.2; omega)⟩, Bf, Own.nil _ _ _ _, hEnv, (by simp [Value.ownBlock]), (fun hb => by have := hb.2; omega), (fun hb => by omega), (fun b hb hg => by have := hb.1; have := hb.2; omega),
        (fun b hb => ⟨by have := hb.1; omega, by have := hb.2; omega⟩), ⟨by omega, by omega⟩, (by simp [Value.ownBlock]), (fun b hb => by omega), (fun b hb => hb.2)⟩, trivial⟩
    (fun b hb hf => by have := hA b hb; have := hf.1; omega) sv steps (hS.stab (K.st hA)) hsn hz (ffT_len (fun s hs => (hm s hs).2.2.1)))) rfl ?_
  rintro r9 h7 ⟨hans, KP⟩
  refine rs_v (v_assign rfl) rfl ?_
  refine rs_nil ?_
  refine q_thn ?_
  refine tr_ret ?_
  refine q_ret (res_tmp rfl rfl) ?_
  have h60 := K.1
  exact ⟨hans.mono (n0up h60 (Nat.le_refl _)), keep_of_p K KP (fun b hb => hb.1)⟩
end Go.Proofs.Ytgebfbnndgjkiaa
