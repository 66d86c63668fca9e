/- Texts W45 to W46, laid together by a program of ours. Conditions: those that each theorem names. -/
import Derived.Test.YtgebfbnndgjkiaaK5
set_option linter.unusedVariables false
set_option linter.unusedSimpArgs false
set_option linter.unusedSectionVars false
/- Forty-fifth part: scripts that go through all spans; the spans that a script found. Conditions: those that each theorem names. -/
namespace Go.Proofs.Ytgebfbnndgjkiaa
open Go.Tess Go.RowKit
set_option maxRecDepth 100000
set_option maxHeartbeats 2000000
theorem v_slice_l {P : Program} {χ : Chi} {ρ : Operand → Option Value} {h : Heap} {dst : Option Tmp} {ty : TypeId} {pos : String} {after : Array Edge} {guard : Option (Nat × Bool)} {x y : Operand} {t e : TypeId} {sz b o m c i : Nat} {k : IntKind} {j : Int} (ht : P.underlying t = some (.slice e)) (hs : Siz P e sz)
    (hx : ρ x = some (.slice (some ⟨b, o, none⟩) m c)) (hy : ρ y = some (.int k j)) (hj : j = (i : Int)) (hi : i ≤ m) (hc : i < c) :
    OpV P χ ⟨dst, .slice t x (some y) none none, ty, pos, after, guard⟩ ρ h (.slice (some ⟨b, o + i * sz, none⟩) (m - i) (c - i)) := by
  intro r d hr
  have e1 := hr x (by simp [Op.operands]) _ hx
  have e2 := hr y (by simp [Op.operands]) _ hy
  subst hj
  have he := elem_of ht
  have h1 := run_slice_l (w := mkw χ h d) t (some ⟨b, o, none⟩) m c (by rw [he]; exact ht) k (i : Int) (by omega) (by omega)
  rw [he, hs, Result.andThen_ok] at h1
  have h2 : sliced (some ⟨b, o, none⟩) (Int.toNat (i : Int)) m c sz = .slice (some ⟨b, o + i * sz, none⟩) (m - i) (c - i) := by
    have hne : ¬ c = i := by omega
    simp only [sliced, Int.toNat_natCast, if_neg hne, Option.map_some, addr_add]
  rw [h2] at h1
  simp [execOp, e1, e2, run_sliceAt_slice (mkw χ h d) t _ _ _ _ (by rw [he]; exact ht), h1]
theorem own_new {h : Heap} {base b sz : Nat} {cs : List Value} {T : TypeId} (B : Blk h b cs T) (hb : base ≤ b) (hl : cs.length = sz) : Own h base T sz (.slice (some ⟨b, 0, none⟩) 1 1) 1 cs :=
  ⟨by omega, .inr ⟨b, 1, cs.toArray, rfl, hb, B, Nat.le_refl _, by decide, by simp [hl], by rw [Nat.one_mul, ← hl]; simp⟩⟩
theorem RowsR.app {α : Type} {sz : Nat} {R : List Value → α → Prop} {xs ys : List Value} {ls ms : List α} (h : RowsR sz R xs ls) (k : RowsR sz R ys ms) : RowsR sz R (xs ++ ys) (ls ++ ms) := by
  obtain ⟨c1, rfl, l1, h1⟩ := h
  obtain ⟨c2, rfl, l2, h2⟩ := k
  refine ⟨c1 ++ c2, by simp, by simp [l1, l2], fun i c a hc ha => ?_⟩
  rcases Nat.lt_or_ge i c1.length with hlt | hge
  · rw [List.getElem?_append_left hlt] at hc
    rw [List.getElem?_append_left (by omega)] at ha
    exact h1 i c a hc ha
  · rw [List.getElem?_append_right hge] at hc
    rw [List.getElem?_append_right (by omega)] at ha
    rw [l1] at hc
    exact h2 _ c a hc ha
def nextS : StepD := ⟨2, ByteArray.empty⟩
def fwdS (n : Nat) : List StepD := ⟨0, ByteArray.empty⟩ :: List.replicate n nextS
theorem fwdS_succ (n : Nat) : fwdS (n + 1) = fwdS n ++ [nextS] := by simp [fwdS, List.replicate_succ']
theorem fwdS_len (n : Nat) : (fwdS n).length = n + 1 := by simp [fwdS]
theorem fwdS_small (n : Nat) : ∀ s, s ∈ fwdS n → s.key.size ≤ 9223372036854775807 := by
  intro s hs
  simp only [fwdS, List.mem_cons, List.mem_replicate] at hs
  rcases hs with rfl | ⟨_, rfl⟩ <;> decide
def listOf (l : List AnsD) : List SpanD := (l.filter (·.ok)).map (·.sp)
theorem listOf_snoc (l : List AnsD) (x : AnsD) : listOf (l ++ [x]) = if x.ok then listOf l ++ [x.sp] else listOf l := by
  unfold listOf
  rw [List.filter_append]
  cases h : x.ok <;> simp [h]
theorem listOf_cons (x : AnsD) (l : List AnsD) : listOf (x :: l) = if x.ok then x.sp :: listOf l else listOf l := by
  unfold listOf
  rw [List.filter_cons]
  cases h : x.ok <;> simp
theorem listOf_le (l : List AnsD) : (listOf l).length ≤ l.length := by unfold listOf; simpa using List.length_filter_le _ l
/-- Nothing is found any more. -/
theorem listOf_end (W : List SpanD) (p : Pos) (hp : canNext p = false) : ∀ n, listOf (walkP W p (List.replicate n nextS)) = []
  | 0 => rfl
  | n + 1 => by
    have e : stepP W p nextS = none := by simp [stepP, nextS, hp]
    rw [List.replicate_succ, walkP, e, listOf_cons]
    simp only [ansOf, Option.getD_none]
    exact listOf_end W p hp n
theorem listOf_next (W : List SpanD) : ∀ (n j : Nat), W.length ≤ j + 1 + n → listOf (walkP W (.pt j) (List.replicate n nextS)) = W.drop (j + 1)
  | 0, j, hn => by rw [List.drop_eq_nil_of_le (by omega)]; rfl
  | n + 1, j, hn => by
    have e : stepP W (.pt j) nextS = some (pNext W (.pt j)) := by simp [stepP, nextS, canNext]
    rw [List.replicate_succ, walkP, e, listOf_cons]
    simp only [Option.getD_some]
    by_cases hj : j + 1 < W.length
    · rw [show pNext W (.pt j) = .pt (j + 1) from by rw [pNext_pt, if_pos hj]]
      have hc : cur W (.pt (j + 1)) = some W[j + 1] := List.getElem?_eq_getElem hj
      simp only [ansOf, hc, Option.isSome_some, if_true, Option.getD_some]
      rw [listOf_next W n (j + 1) (by omega), List.drop_eq_getElem_cons hj]
    · rw [show pNext W (.pt j) = .behind from by rw [pNext_pt, if_neg hj]]
      simp only [ansOf, cur, Option.isSome_none, Bool.false_eq_true, if_false]
      rw [listOf_end W .behind rfl, List.drop_eq_nil_of_le (by omega)]
theorem listOf_from (W : List SpanD) (p p0 : Pos) (s : StepD) (n : Nat) (hs : stepP W p s = some p0) (hp : p0 = if W.length = 0 then p0 else .pt 0) (h0 : W.length = 0 → canNext p0 = false) (hn : W.length ≤ n + 1) : listOf (walkP W p (s :: List.replicate n nextS)) = W := by
  rw [walkP, hs, listOf_cons]
  simp only [Option.getD_some]
  by_cases hz : W.length = 0
  · have e : W = [] := List.eq_nil_of_length_eq_zero hz
    rw [listOf_end W p0 (h0 hz)]
    subst e
    have hc : cur [] p0 = none := by cases p0 <;> simp [cur]
    simp [ansOf, hc]
  · rw [if_neg hz] at hp
    subst hp
    have hl : 0 < W.length := by omega
    have hc : cur W (.pt 0) = some W[0] := List.getElem?_eq_getElem hl
    simp only [ansOf, hc, Option.isSome_some, if_true, Option.getD_some]
    rw [listOf_next W n 0 (by omega)]
    have := List.drop_eq_getElem_cons hl
    rw [List.drop_zero] at this
    exact this.symm
theorem listOf_fwd (W : List SpanD) (n : Nat) (hn : W.length ≤ n + 1) : listOf (walkP W .nowhere (fwdS n)) = W := by
  refine listOf_from W .nowhere (pFirst W) _ n (by simp [stepP]) ?_ ?_ hn
  · unfold pFirst
    by_cases h : W.length = 0
    · rw [if_pos h, if_pos h]
    · rw [if_neg h, if_neg h]
  · intro h; unfold pFirst; rw [if_pos h]; rfl

theorem c_spanForth (χ : Chi) (h : Heap) (n : Nat) (hn : n ≤ 1000) :
    Cl Try.prog χ 43 #[.int .i64 (n : Int)] h (fun r h' => (RSteps (Up N0 h h') h' r (fwdS n) ∧ ∃ a c, r = .slice a (n + 1) c ∧ n + 1 ≤ c) ∧ Keep [] h h') := by
  refine cl_intro Try.func43 rfl rfl rfl ?_
  have K : Keep [] h h := Keep.refl _ _
  refine tr_seq ?_
  refine tr_reg ?_
  refine rs_v (v_assign rfl) rfl ?_
  refine rs_nil ?_
  refine q_thn ?_
  refine tr_seq ?_
  refine tr_reg ?_
  refine rs_v (v_build1 rfl (bld_impl_Step_0 _)) rfl ?_
  refine rs_w (w_new1 u_sl_impl_Step siz_impl_Step zero_impl_Step rfl rfl rfl rfl rfl) rfl ?_
  rintro _ h1 ⟨rfl, B1, K1, Z1⟩
  have S1 := K.1; have K := K.new0 K1
  refine rs_v (v_assign rfl) rfl ?_
  refine rs_nil ?_
  refine q_thn ?_
  refine tr_seq ?_
  refine tr_seq ?_
  refine tr_reg ?_
  refine rs_v (v_move rfl) rfl ?_
  refine rs_v (v_move rfl) rfl ?_
  refine rs_nil ?_
  refine q_thn ?_
  refine tr_block ?_
  refine tr_loop (fun m E h' => ∃ k v xs, k ≤ n ∧ m = n - k ∧ E = [(3, v), (6, .int .i64 (n : Int)), (7, .int .i64 (k : Int))] ∧ Keep [] h h' ∧ Own h' h.size 63 2 v (k + 1) xs ∧ RowsR 2 (cStep N0 h) xs (fwdS k)) n [(3, _), (6, _), (7, _)] ⟨rfl, rfl, rfl, trivial⟩ ⟨0, _, _, Nat.zero_le _, rfl, rfl, K, own_new B1 (Nat.le_refl _) rfl, (RowsR.nil 2 (cStep N0 h)).snoc rfl rfl⟩ ?_
  rintro m E hL2 ⟨k, v, xs, hk, rfl, rfl, K, O, hrow⟩
  have hob := own_ne O; have KL := Keep.refl [] hL2
  refine tr_seq ?_
  refine tr_reg ?_
  refine rs_v (v_lt rfl rfl) rfl ?_
  refine rs_nil ?_
  refine q_thn ?_
  refine tr_seq ?_
  refine tr_ifn rfl (fun hif => ?_) (fun hif => ?_)
  · -- no
    simp only [decide_eq_true_eq, decide_eq_false_iff_not] at hif
    have hkk : k = n := by omega
    subst hkk
    refine tr_exit ?_
    refine q_thn_exit ?_
    refine q_lp_exit ?_
    refine q_blk_hit ?_
    refine q_thn ?_
    refine tr_seq ?_
    refine tr_reg ?_
    refine rs_v (v_move rfl) rfl ?_
    refine rs_v (v_assign rfl) rfl ?_
    refine rs_nil ?_
    refine q_thn ?_
    refine tr_ret ?_
    refine q_ret (res_tmp rfl rfl) ?_
    obtain ⟨g, c9, rfl, hg1, hg2, _⟩ := own_some O
    have hcap : k + 1 ≤ c9 := by
      rcases O.2 with ⟨e, _⟩ | ⟨g', cap, cur, e, _, _, hle, _⟩
      · cases e
      · cases e; exact hle
    exact ⟨⟨SlR.of_rows O (fwdS_len k).symm hrow (fun b h1 h2 => .inr ⟨h1, h2⟩) (fun b o c a hc hr => cStep_r N0 _ _ _ _ _ hc hr), _, _, rfl, hcap⟩, K⟩
  -- yes
  simp only [decide_eq_true_eq, decide_eq_false_iff_not] at hif
  refine tr_skip ?_
  refine q_thn ?_
  refine tr_seq ?_
  refine tr_block ?_
  refine tr_reg ?_
  refine rs_v (v_move rfl) rfl ?_
  refine rs_v (v_build1 rfl (bld_impl_Step_0 _)) rfl ?_
  refine rs_w (w_new1 u_sl_impl_Step siz_impl_Step zero_impl_Step rfl rfl rfl rfl rfl) rfl ?_
  rintro _ h3 ⟨rfl, B3, K3, Z3⟩
  have O := O.keep2 K3 (fun x hm => by have := hob x hm; simp; try omega)
  have S3 := K.1; have K := K.new0 K3
  refine rs_w (w_app1 u_sl_impl_Step info_impl_Step rfl rfl rfl O rfl rfl B3 rfl (by omega) (by omega) (by omega)) rfl ?_
  rintro v4 h4 ⟨O4, K4, N4, F4⟩
  have K := K.newX K4 (fun x hm => .inr (by have := hob x hm; omega)); have Z4 := K4.1
  have B3 := K4.blk (fun hm => by have := hob _ hm; omega) B3
  refine rs_v (v_assign rfl) rfl ?_
  refine rs_nil ?_
  refine q_blk_n ?_
  refine q_thn ?_
  refine tr_reg ?_
  refine rs_v (v_add rfl rfl (by omega) (by omega)) rfl ?_
  refine rs_v (v_move rfl) rfl ?_
  refine rs_nil ?_
  refine q_lp (n - (k + 1)) [(3, _), (6, _), (7, _)] (by omega) ⟨rfl, rfl, rfl, trivial⟩ ⟨k + 1, _, _, by omega, rfl, rfl, K, O4, ?_⟩
  rw [fwdS_succ]
  exact hrow.snoc rfl rfl
theorem c_spanList (χ : Chi) (h : Heap) (A : Nat → Prop) (hA : Low A h) (v : Value) (G : List AnsD) (hG : RAnss A h v G) (hn : G.length ≤ 100000) :
    Cl Try.prog χ 44 #[v] h (fun r h' => RSpans (Up A h h') h' r (listOf G) ∧ Keep [] h h') := by
  obtain ⟨hlen, a, c, rfl, hx⟩ := hG.form
  refine cl_intro Try.func44 rfl rfl rfl ?_
  have K : Keep [] h h := Keep.refl _ _
  refine tr_seq ?_
  refine tr_reg ?_
  refine rs_v (v_assign rfl) rfl ?_
  refine rs_nil ?_
  refine q_thn ?_
  refine tr_seq ?_
  refine tr_reg ?_
  refine rs_v (v_assign rfl) rfl ?_
  refine rs_nil ?_
  refine q_thn ?_
  refine tr_seq ?_
  refine tr_seq ?_
  refine tr_reg ?_
  refine rs_v (v_move rfl) rfl ?_
  refine rs_v (v_len u_sl_impl_SpanAnswer rfl) rfl ?_
  refine rs_v (v_move rfl) rfl ?_
  refine rs_nil ?_
  refine q_thn ?_
  refine tr_block ?_
  refine tr_loop (fun m E h' => ∃ k v n, k ≤ G.length ∧ m = G.length - k ∧ E = [(3, v), (6, .slice a G.length c), (7, .int .i64 (G.length : Int)), (8, .int .i64 (k : Int))] ∧ Keep [] h h' ∧ n = (listOf (G.take k)).length ∧ OutR A h h' h.size 61 3 cSpan v n (listOf (G.take k))) G.length [(3, _), (6, _), (7, _), (8, _)] ⟨rfl, rfl, rfl, rfl, trivial⟩ ⟨0, _, 0, Nat.zero_le _, rfl, rfl, K, rfl, OutR.nil _ _ _ _ _ _ _⟩ ?_
  rintro m E hL1 ⟨k, v, n, hk, rfl, rfl, K, hn, hout⟩
  have hout0 := hout
  obtain ⟨xs, F, O, hrow, hF⟩ := hout
  have KL0 := K.1
  have hob := own_ne O; have KL := Keep.refl [] hL1
  refine tr_seq ?_
  refine tr_reg ?_
  refine rs_v (v_lt rfl rfl) rfl ?_
  refine rs_nil ?_
  refine q_thn ?_
  refine tr_seq ?_
  refine tr_ifn rfl (fun hif => ?_) (fun hif => ?_)
  · -- no
    simp only [decide_eq_true_eq, decide_eq_false_iff_not] at hif
    have hkk : k = G.length := by omega
    subst hkk
    refine tr_exit ?_
    refine q_thn_exit ?_
    refine q_lp_exit ?_
    refine q_blk_hit ?_
    refine q_thn ?_
    refine tr_seq ?_
    refine tr_reg ?_
    refine rs_v (v_move rfl) rfl ?_
    refine rs_v (v_assign rfl) rfl ?_
    refine rs_nil ?_
    refine q_thn ?_
    refine tr_ret ?_
    refine q_ret (res_tmp rfl rfl) ?_
    rw [List.take_length] at hout0 hn
    exact ⟨hout0.fin cSpan_st hn (Nat.le_refl _) cSpan_r, K⟩
  -- yes
  simp only [decide_eq_true_eq, decide_eq_false_iff_not] at hif
  rcases hx with rfl | ⟨b, o, rfl, hAb, hR⟩
  · simp at hif; omega
  obtain ⟨x, hsk⟩ := ex_get (L := G) (k := k) (by omega)
  have hkl : k < G.length := (List.getElem?_eq_some_iff.1 hsk).1
  have KL0 := K.1
  obtain ⟨kv, hcc, hkx⟩ := hR k x hsk
  obtain ⟨ka, kc, rfl⟩ := hkx.form2
  have hcells := K.cells (by simp) hcc
  have hnk : n ≤ k := by rw [hn]; exact Nat.le_trans (listOf_le _) (by rw [List.length_take]; omega)
  refine tr_skip ?_
  refine q_thn ?_
  refine tr_seq ?_
  refine tr_block ?_
  refine tr_seq ?_
  refine tr_reg ?_
  refine rs_v (v_indexAddrN u_sl_impl_SpanAnswer siz_impl_SpanAnswer rfl rfl (by omega)) rfl ?_
  refine rs_v (v_loadAgg (vs := [_, _, _, _, _]) many_impl_SpanAnswer rfl (by exact hcells)) rfl ?_
  refine rs_w (w_new zero_impl_SpanAnswer) rfl ?_
  rintro _ h2 ⟨rfl, B2, K2, Z2⟩
  have O := O.keep2 K2 (fun x hm => by have := hob x hm; simp; try omega)
  have S2 := K.1; have K := K.new0 K2; have KL := KL.new0 K2
  refine rs_w0 (w_put siz_impl_SpanAnswer rfl rfl rfl rfl B2 rfl) ?_
  rintro _ h3 ⟨B3, K3⟩
  have O := O.keep2 K3 (fun x hm => by have := hob x hm; simp; try omega)
  have B2 := B3; have K := K.new1 K3 (by first | (right; omega) | (left; simp; done)); have Z3 := K3.1; have KL := KL.new1 K3 (.inr (by omega))
  refine rs_nil ?_
  refine q_thn ?_
  refine tr_seq ?_
  refine tr_reg ?_
  refine rs_v (v_fieldAddr fa_impl_SpanAnswer_1 rfl) rfl ?_
  refine rs_v (v_load one_bool rfl (by exact B2.cell _ rfl)) rfl ?_
  refine rs_nil ?_
  refine q_thn ?_
  refine tr_if rfl (fun hif => ?_) (fun hif => ?_)
  · -- yes
    skip
    refine tr_reg ?_
    refine rs_v (v_move rfl) rfl ?_
    refine rs_v (v_fieldAddr fa_impl_SpanAnswer_2 rfl) rfl ?_
    refine rs_v (v_loadAgg (vs := [_, _, _]) many_impl_Span rfl (by exact B2.sub _ 3 rfl)) rfl ?_
    refine rs_w (w_new1 u_sl_impl_Span siz_impl_Span zero_impl_Span rfl rfl rfl rfl rfl) rfl ?_
    rintro _ h4 ⟨rfl, B4, K4, Z4⟩
    have B2 := K4.blk (by simp) B2
    have O := O.keep2 K4 (fun x hm => by have := hob x hm; simp; try omega)
    have S4 := K.1; have K := K.new0 K4; have KL := KL.new0 K4
    refine rs_w (w_app1 u_sl_impl_Span info_impl_Span rfl rfl rfl O rfl rfl B4 rfl (by omega) (by omega) (by omega)) rfl ?_
    have K70 := K
    have KL70 := KL
    rintro v5 h5 ⟨O5, K5, N5, F5⟩
    have K := K.newX K5 (fun x hm => .inr (by have := hob x hm; omega)); have Z5 := K5.1
    have B2 := K5.blk (fun hm => by have := hob _ hm; omega) B2
    have B4 := K5.blk (fun hm => by have := hob _ hm; omega) B4
    refine rs_v (v_assign rfl) rfl ?_
    refine rs_nil ?_
    refine q_blk_n ?_
    refine q_thn ?_
    refine tr_reg ?_
    refine rs_v (v_add rfl rfl (by omega) (by omega)) rfl ?_
    refine rs_v (v_move rfl) rfl ?_
    refine rs_nil ?_
    refine q_lp (G.length - (k + 1)) [(3, _), (6, _), (7, _), (8, _)] (by omega) ⟨rfl, rfl, rfl, rfl, trivial⟩ ⟨k + 1, v5, n + 1, by omega, rfl, rfl, K, ?_, ?_⟩
    · rw [take_snoc' hsk, listOf_snoc, if_pos hif, List.length_append, ← hn]; rfl
    · rw [take_snoc' hsk, listOf_snoc, if_pos hif]
      exact OutR.snoc cSpan_st hA (by omega) hob hrow hF KL0 KL70 O5 K5 F5 rfl ⟨_, rfl, (hkx.stab (K70.st hA)).mono Up.old⟩
  -- no
  skip
  refine tr_skip ?_
  refine q_blk_n ?_
  refine q_thn ?_
  refine tr_reg ?_
  refine rs_v (v_add rfl rfl (by omega) (by omega)) rfl ?_
  refine rs_v (v_move rfl) rfl ?_
  refine rs_nil ?_
  refine q_lp (G.length - (k + 1)) [(3, _), (6, _), (7, _), (8, _)] (by omega) ⟨rfl, rfl, rfl, rfl, trivial⟩ ⟨k + 1, v, n, by omega, rfl, rfl, K, ?_, ?_⟩
  · rw [take_snoc' hsk, listOf_snoc, if_neg (by rw [hif]; decide)]; exact hn
  · rw [take_snoc' hsk, listOf_snoc, if_neg (by rw [hif]; decide)]
    exact hout0.keep cSpan_st KL
end Go.Proofs.Ytgebfbnndgjkiaa

/- Forty-sixth part: the law of spans within bounds that are truncated to them, walked. Conditions: those that each theorem names. -/
namespace Go.Proofs.Ytgebfbnndgjkiaa
open Go.Tess Go.RowKit
set_option maxRecDepth 100000
set_option maxHeartbeats 2000000
theorem RSteps.tail {A : Nat → Prop} {h : Heap} {b o : Nat} {s : StepD} {r : List StepD} (hR : ∀ (i : Nat) x, (s :: r)[i]? = some x → RStep h b (o + i * 2) x) :
    ∃ news, CellsAt h b (o + 1 * 2) news ∧ RowsR 2 (cStep A h) news r :=
  rows_of (fun i x hi => ⟨x.cells, rfl, by have := hR (i + 1) x (by simpa using hi); rwa [show o + (i + 1) * 2 = o + 1 * 2 + i * 2 from by omega] at this, rfl⟩) (by omega)
theorem cStep_one (A : Nat → Prop) (h : Heap) (c : List Value) (k : StepD) (hc : cStep A h c k) : c.all (fun u => u.oneCell') = true := by
  have e : c = k.cells := hc
  subst e; rfl
/-- What is truncated overlaps what it is truncated to. -/
theorem cut_within (a b : ByteArray) (W : List SpanD) : (W.filter (fun s => LoC (some a) s && UpC (some b) s)).filterMap (ffT none none a b) = W.filterMap (ffT none none a b) := by
  induction W with
  | nil => rfl
  | cons s r ih =>
    cases h : (LoC (some a) s && UpC (some b) s) with
    | true => rw [List.filter_cons, if_pos h, List.filterMap_cons, List.filterMap_cons, ih]
    | false =>
      rw [List.filter_cons, if_neg (by rw [h]; decide), List.filterMap_cons, ih]
      have hn : ffT none none a b s = none := by
        rw [ffT_plain]
        cases hc : slt (cutLo a s) (cutUp b s) with
        | false => rw [if_neg (by decide)]
        | true =>
          exfalso
          have h1 : sle a (cutLo a s) = true := by
            unfold cutLo
            cases hq : slt s.s a with
            | true => rw [if_pos rfl]; exact sle_refl _
            | false => rw [if_neg (by decide)]; exact not_slt.1 hq
          have h2 : sle (cutUp b s) b = true := by
            unfold cutUp
            cases hq : slt b s.e with
            | true => rw [if_pos rfl]; exact sle_refl _
            | false => rw [if_neg (by decide)]; exact not_slt.1 hq
          have h3 := slt_of_slt_sle (slt_of_sle_slt h1 hc) (cutUp_le b s)
          have h4 := slt_of_slt_sle (slt_of_sle_slt (cutLo_ge a s) hc) h2
          rw [show LoC (some a) s = true from h3, show UpC (some b) s = true from h4] at h
          cases h
      rw [hn]
/-- All spans within bounds are found by a seek to the lower one, and steps from there on. -/
theorem listOf_ge (a b : ByteArray) (W : List SpanD) (n : Nat) (hn : W.length ≤ n + 1) :
    listOf (walkP (W.filter (fun s => LoC (some a) s && UpC (some b) s)) .nowhere (⟨4, a⟩ :: List.replicate n nextS)) = W.filter (fun s => LoC (some a) s && UpC (some b) s) := by
  have hl := List.length_filter_le (fun s => LoC (some a) s && UpC (some b) s) W
  have hg : geI (W.filter (fun s => LoC (some a) s && UpC (some b) s)) a = 0 := by
    cases hW : W.filter (fun s => LoC (some a) s && UpC (some b) s) with
    | nil => rfl
    | cons s r =>
      have hm : s ∈ W.filter (fun s => LoC (some a) s && UpC (some b) s) := by rw [hW]; simp
      have hp := (List.mem_filter.1 hm).2
      simp only [LoC, Bool.and_eq_true] at hp
      simp only [geI, not_sle.2 hp.1, Bool.false_eq_true, if_false]
  refine listOf_from _ .nowhere (pGE (W.filter (fun s => LoC (some a) s && UpC (some b) s)) a) _ n rfl ?_ ?_ (by omega)
  · unfold pGE; rw [hg]
    by_cases hz : (W.filter (fun s => LoC (some a) s && UpC (some b) s)).length = 0
    · rw [if_pos hz]
    · rw [if_neg hz, if_pos (by omega)]
  · intro hz; unfold pGE; rw [hg, if_neg (by omega)]; rfl
theorem bld_bnd (x : ByteArray) : ∀ w, (Instr.build 48 #[(0, .string x), (1, .bool true)]).run Try.prog w = .ok (BndD.v ⟨x, true⟩) w := fun _ => by kernel_rfl
theorem Good.filter {W : List SpanD} (h : Good W) (P : SpanD → Bool) (hO : Tess.Ord (W.filter P)) : Good (W.filter P) :=
  ⟨Nat.le_trans (List.length_filter_le _ _) h.len, fun s hs => h.full s (List.mem_filter.1 hs).1, fun s hs => h.small s (List.mem_filter.1 hs).1, hO⟩
theorem ord_seg {W : List SpanD} (hO : Tess.Ord W) (i0 i1 : Nat) : Tess.Ord (segL W i0 i1) := by
  have hget : ∀ (j : Nat) s, (segL W i0 i1)[j]? = some s → W[i0 + j]? = some s := fun j s hs => by
    rw [segL_get] at hs
    split at hs
    · exact hs
    · cases hs
  refine ⟨fun s hs => ?_, fun i s t h1 h2 => hO.2 (i0 + i) s t (hget i s h1) (by have := hget (i + 1) t h2; rwa [show i0 + (i + 1) = i0 + i + 1 from by omega] at this)⟩
  obtain ⟨j, hj⟩ := List.getElem?_of_mem hs
  exact hO.1 s (List.mem_of_getElem? (hget j s hj))
/-- A span truncated to itself is found. -/
theorem first_found {W : List SpanD} {s : SpanD} {r : List SpanD} (hW : W = s :: r) (hs : slt s.s s.e = true) : (ansOf (W.filterMap (ffT none none s.s s.e)) (some (pFirst (W.filterMap (ffT none none s.s s.e))))).ok = true := by
  have h1 : cutLo s.s s = s.s := by unfold cutLo; split <;> rfl
  have h2 : cutUp s.e s = s.e := by unfold cutUp; split <;> rfl
  have h3 : ffT none none s.s s.e s = some s := by rw [ffT_plain, h1, h2, if_pos hs]
  rw [hW, List.filterMap_cons, h3]
  simp only [pFirst, List.length_cons]
  rw [if_neg (by omega)]
  simp [ansOf, cur]

theorem c_FnSpanBoundedCut (χ : Chi) (h : Heap) (A : Nat → Prop) (hA : Low A h) (v : Value) (W : List SpanD) (lo up : ByteArray) (hW : RSpans A h v W) :
    Cl Try.prog χ 10 #[v, .string lo, .string up] h (fun r h' => r = .bool true ∧ Keep [] h h') := by
  have hW := RSpans.mono hW hA
  obtain ⟨a, c, rfl⟩ := SlR.form2 hW
  refine cl_intro Try.func10 rfl rfl rfl ?_
  have K : Keep [] h h := Keep.refl _ _
  refine tr_seq ?_
  refine tr_reg ?_
  refine rs_v (v_assign rfl) rfl ?_
  refine rs_nil ?_
  refine q_thn ?_
  refine tr_seq ?_
  refine tr_cut (fun E h' => Keep [] h h' ∧ E = [(0, .slice a W.length c), (1, .string lo), (2, .string up), (6, .bool false), (23, .bool ((!fit4 W) || (decide ((2147483647 : Int) < (lo.size : Int))) || (decide ((2147483647 : Int) < (up.size : Int)))))]) ?_ ?_
  ·
    rcases bsplit3 (!fit4 W) (decide ((2147483647 : Int) < (lo.size : Int))) with g1 | ⟨g1, g2⟩ | ⟨g1, g2⟩
    · skip
      refine tr_reg ?_
      refine rs_v (v_move rfl) rfl ?_
      refine rs_w (w_call (vs := [_]) ok_laws_zzFits4 rfl ⟨rfl, trivial⟩ (c_zzFits4 χ h (All h) (all_low h) _ W hW)) rfl ?_
      rintro _ h1 ⟨rfl, K1⟩
      have K := K.new0 K1; have Z1 := K1.1
      refine rs_v (v_not rfl) rfl ?_
      refine rs_v (v_move rfl) rfl ?_
      refine rs_gs rfl (lkb g1) rfl rfl ?_
      refine rs_gs rfl (lkb g1) rfl rfl ?_
      refine rs_gs rfl (lkb g1) rfl rfl ?_
      refine rs_v (v_pick_t (lkb g1) rfl) rfl ?_
      refine rs_v (v_move rfl) rfl ?_
      refine rs_gs rfl (rfl) rfl rfl ?_
      refine rs_gs rfl (rfl) rfl rfl ?_
      refine rs_gs rfl (rfl) rfl rfl ?_
      refine rs_v (v_pick_t rfl rfl) rfl ?_
      refine rs_nil ?_
      exact q_cut [(0, _), (1, _), (2, _), (6, _), (23, _)] ⟨rfl, rfl, rfl, rfl, rfl, trivial⟩ ⟨K, by rw [show ((!fit4 W) || (decide ((2147483647 : Int) < (lo.size : Int))) || (decide ((2147483647 : Int) < (up.size : Int)))) = (true) from by simp only [g1, Bool.true_or, Bool.false_or]]⟩
    · skip
      refine tr_reg ?_
      refine rs_v (v_move rfl) rfl ?_
      refine rs_w (w_call (vs := [_]) ok_laws_zzFits4 rfl ⟨rfl, trivial⟩ (c_zzFits4 χ h (All h) (all_low h) _ W hW)) rfl ?_
      rintro _ h2 ⟨rfl, K2⟩
      have K := K.new0 K2; have Z2 := K2.1
      refine rs_v (v_not rfl) rfl ?_
      refine rs_v (v_move rfl) rfl ?_
      refine rs_gv rfl (lkb g1) (v_move rfl) rfl ?_
      refine rs_gv rfl (lkb g1) (v_lenStr u_string rfl) rfl ?_
      refine rs_gv rfl (lkb g1) (v_gt rfl rfl) rfl ?_
      refine rs_v (v_pick_f (lkb g1) rfl) rfl ?_
      refine rs_v (v_move rfl) rfl ?_
      refine rs_gs rfl (lkb g2) rfl rfl ?_
      refine rs_gs rfl (lkb g2) rfl rfl ?_
      refine rs_gs rfl (lkb g2) rfl rfl ?_
      refine rs_v (v_pick_t (lkb g2) rfl) rfl ?_
      refine rs_nil ?_
      exact q_cut [(0, _), (1, _), (2, _), (6, _), (23, _)] ⟨rfl, rfl, rfl, rfl, rfl, trivial⟩ ⟨K, by rw [show ((!fit4 W) || (decide ((2147483647 : Int) < (lo.size : Int))) || (decide ((2147483647 : Int) < (up.size : Int)))) = (true) from by simp only [g1, g2, Bool.true_or, Bool.false_or]]⟩
    · skip
      refine tr_reg ?_
      refine rs_v (v_move rfl) rfl ?_
      refine rs_w (w_call (vs := [_]) ok_laws_zzFits4 rfl ⟨rfl, trivial⟩ (c_zzFits4 χ h (All h) (all_low h) _ W hW)) rfl ?_
      rintro _ h3 ⟨rfl, K3⟩
      have K := K.new0 K3; have Z3 := K3.1
      refine rs_v (v_not rfl) rfl ?_
      refine rs_v (v_move rfl) rfl ?_
      refine rs_gv rfl (lkb g1) (v_move rfl) rfl ?_
      refine rs_gv rfl (lkb g1) (v_lenStr u_string rfl) rfl ?_
      refine rs_gv rfl (lkb g1) (v_gt rfl rfl) rfl ?_
      refine rs_v (v_pick_f (lkb g1) rfl) rfl ?_
      refine rs_v (v_move rfl) rfl ?_
      refine rs_gv rfl (lkb g2) (v_move rfl) rfl ?_
      refine rs_gv rfl (lkb g2) (v_lenStr u_string rfl) rfl ?_
      refine rs_gv rfl (lkb g2) (v_gt rfl rfl) rfl ?_
      refine rs_v (v_pick_f (lkb g2) rfl) rfl ?_
      refine rs_nil ?_
      exact q_cut [(0, _), (1, _), (2, _), (6, _), (23, _)] ⟨rfl, rfl, rfl, rfl, rfl, trivial⟩ ⟨K, by rw [show ((!fit4 W) || (decide ((2147483647 : Int) < (lo.size : Int))) || (decide ((2147483647 : Int) < (up.size : Int)))) = (decide ((2147483647 : Int) < (up.size : Int))) from by simp only [g1, g2, Bool.true_or, Bool.false_or]]⟩
  rintro E h99 ⟨K, rfl⟩
  refine tr_if rfl (fun hif => ?_) (fun hif => ?_)
  · -- yes
    skip
    refine tr_seq ?_
    refine tr_reg ?_
    refine rs_v (v_assign rfl) rfl ?_
    refine rs_nil ?_
    refine q_thn ?_
    refine tr_ret ?_
    refine q_thn_ret ?_
    refine q_ret (res_tmp rfl rfl) ?_
    exact ⟨rfl, K⟩
  -- no
  simp only [Bool.or_eq_false_iff, Bool.not_eq_false', decide_eq_false_iff_not] at hif
  obtain ⟨⟨hf4, hlo⟩, hup⟩ := hif
  refine tr_skip ?_
  refine q_thn ?_
  refine tr_seq ?_
  refine tr_cut (fun E h' => Keep [] h h' ∧ E = [(0, .slice a W.length c), (1, .string lo), (2, .string up), (6, .bool false), (40, .bool ((!(mostB W 30 && wellB W)) || (!(sle lo up)) || (seq' up ⟨#[]⟩) || (decide ((W.length : Int) = 0))))]) ?_ ?_
  ·
    rcases bsplit4 (!(mostB W 30 && wellB W)) (!(sle lo up)) (seq' up ⟨#[]⟩) with g1 | ⟨g1, g2⟩ | ⟨g1, g2, g3⟩ | ⟨g1, g2, g3⟩
    · skip
      refine tr_reg ?_
      refine rs_v (v_move rfl) rfl ?_
      refine rs_w (w_call (vs := [_, _]) ok_laws_spanWell rfl ⟨rfl, rfl, trivial⟩ (c_spanWell χ _ _ (all_low _) _ W 30 (RSpans.kk hW K))) rfl ?_
      rintro _ h5 ⟨rfl, K5⟩
      have K := K.new0 K5; have Z5 := K5.1
      refine rs_v (v_not rfl) rfl ?_
      refine rs_v (v_move rfl) rfl ?_
      refine rs_gs rfl (lkb g1) rfl rfl ?_
      refine rs_gs rfl (lkb g1) rfl rfl ?_
      refine rs_gs rfl (lkb g1) rfl rfl ?_
      refine rs_v (v_pick_t (lkb g1) rfl) rfl ?_
      refine rs_v (v_move rfl) rfl ?_
      refine rs_gs rfl (rfl) rfl rfl ?_
      refine rs_gs rfl (rfl) rfl rfl ?_
      refine rs_v (v_pick_t rfl rfl) rfl ?_
      refine rs_v (v_move rfl) rfl ?_
      refine rs_gs rfl (rfl) rfl rfl ?_
      refine rs_gs rfl (rfl) rfl rfl ?_
      refine rs_gs rfl (rfl) rfl rfl ?_
      refine rs_v (v_pick_t rfl rfl) rfl ?_
      refine rs_nil ?_
      exact q_cut [(0, _), (1, _), (2, _), (6, _), (40, _)] ⟨rfl, rfl, rfl, rfl, rfl, trivial⟩ ⟨K, by rw [show ((!(mostB W 30 && wellB W)) || (!(sle lo up)) || (seq' up ⟨#[]⟩) || (decide ((W.length : Int) = 0))) = (true) from by simp only [g1, Bool.true_or, Bool.false_or]]⟩
    · skip
      refine tr_reg ?_
      refine rs_v (v_move rfl) rfl ?_
      refine rs_w (w_call (vs := [_, _]) ok_laws_spanWell rfl ⟨rfl, rfl, trivial⟩ (c_spanWell χ _ _ (all_low _) _ W 30 (RSpans.kk hW K))) rfl ?_
      rintro _ h6 ⟨rfl, K6⟩
      have K := K.new0 K6; have Z6 := K6.1
      refine rs_v (v_not rfl) rfl ?_
      refine rs_v (v_move rfl) rfl ?_
      refine rs_gv rfl (lkb g1) (v_move rfl) rfl ?_
      refine rs_gv rfl (lkb g1) (v_move rfl) rfl ?_
      refine rs_gv rfl (lkb g1) (v_sgt rfl rfl) rfl ?_
      refine rs_v (v_pick_f (lkb g1) rfl) rfl ?_
      refine rs_v (v_move rfl) rfl ?_
      refine rs_gs rfl (lkb g2) rfl rfl ?_
      refine rs_gs rfl (lkb g2) rfl rfl ?_
      refine rs_v (v_pick_t (lkb g2) rfl) rfl ?_
      refine rs_v (v_move rfl) rfl ?_
      refine rs_gs rfl (rfl) rfl rfl ?_
      refine rs_gs rfl (rfl) rfl rfl ?_
      refine rs_gs rfl (rfl) rfl rfl ?_
      refine rs_v (v_pick_t rfl rfl) rfl ?_
      refine rs_nil ?_
      exact q_cut [(0, _), (1, _), (2, _), (6, _), (40, _)] ⟨rfl, rfl, rfl, rfl, rfl, trivial⟩ ⟨K, by rw [show ((!(mostB W 30 && wellB W)) || (!(sle lo up)) || (seq' up ⟨#[]⟩) || (decide ((W.length : Int) = 0))) = (true) from by simp only [g1, g2, Bool.true_or, Bool.false_or]]⟩
    · skip
      refine tr_reg ?_
      refine rs_v (v_move rfl) rfl ?_
      refine rs_w (w_call (vs := [_, _]) ok_laws_spanWell rfl ⟨rfl, rfl, trivial⟩ (c_spanWell χ _ _ (all_low _) _ W 30 (RSpans.kk hW K))) rfl ?_
      rintro _ h7 ⟨rfl, K7⟩
      have K := K.new0 K7; have Z7 := K7.1
      refine rs_v (v_not rfl) rfl ?_
      refine rs_v (v_move rfl) rfl ?_
      refine rs_gv rfl (lkb g1) (v_move rfl) rfl ?_
      refine rs_gv rfl (lkb g1) (v_move rfl) rfl ?_
      refine rs_gv rfl (lkb g1) (v_sgt rfl rfl) rfl ?_
      refine rs_v (v_pick_f (lkb g1) rfl) rfl ?_
      refine rs_v (v_move rfl) rfl ?_
      refine rs_gv rfl (lkb g2) (v_move rfl) rfl ?_
      refine rs_gv rfl (lkb g2) (v_seq rfl rfl) rfl ?_
      refine rs_v (v_pick_f (lkb g2) rfl) rfl ?_
      refine rs_v (v_move rfl) rfl ?_
      refine rs_gs rfl (lkb g3) rfl rfl ?_
      refine rs_gs rfl (lkb g3) rfl rfl ?_
      refine rs_gs rfl (lkb g3) rfl rfl ?_
      refine rs_v (v_pick_t (lkb g3) rfl) rfl ?_
      refine rs_nil ?_
      exact q_cut [(0, _), (1, _), (2, _), (6, _), (40, _)] ⟨rfl, rfl, rfl, rfl, rfl, trivial⟩ ⟨K, by rw [show ((!(mostB W 30 && wellB W)) || (!(sle lo up)) || (seq' up ⟨#[]⟩) || (decide ((W.length : Int) = 0))) = (true) from by simp only [g1, g2, g3, Bool.true_or, Bool.false_or]]⟩
    · skip
      refine tr_reg ?_
      refine rs_v (v_move rfl) rfl ?_
      refine rs_w (w_call (vs := [_, _]) ok_laws_spanWell rfl ⟨rfl, rfl, trivial⟩ (c_spanWell χ _ _ (all_low _) _ W 30 (RSpans.kk hW K))) rfl ?_
      rintro _ h8 ⟨rfl, K8⟩
      have K := K.new0 K8; have Z8 := K8.1
      refine rs_v (v_not rfl) rfl ?_
      refine rs_v (v_move rfl) rfl ?_
      refine rs_gv rfl (lkb g1) (v_move rfl) rfl ?_
      refine rs_gv rfl (lkb g1) (v_move rfl) rfl ?_
      refine rs_gv rfl (lkb g1) (v_sgt rfl rfl) rfl ?_
      refine rs_v (v_pick_f (lkb g1) rfl) rfl ?_
      refine rs_v (v_move rfl) rfl ?_
      refine rs_gv rfl (lkb g2) (v_move rfl) rfl ?_
      refine rs_gv rfl (lkb g2) (v_seq rfl rfl) rfl ?_
      refine rs_v (v_pick_f (lkb g2) rfl) rfl ?_
      refine rs_v (v_move rfl) rfl ?_
      refine rs_gv rfl (lkb g3) (v_move rfl) rfl ?_
      refine rs_gv rfl (lkb g3) (v_len u_sl_spec_Span rfl) rfl ?_
      refine rs_gv rfl (lkb g3) (v_eq rfl rfl) rfl ?_
      refine rs_v (v_pick_f (lkb g3) rfl) rfl ?_
      refine rs_nil ?_
      exact q_cut [(0, _), (1, _), (2, _), (6, _), (40, _)] ⟨rfl, rfl, rfl, rfl, rfl, trivial⟩ ⟨K, by rw [show ((!(mostB W 30 && wellB W)) || (!(sle lo up)) || (seq' up ⟨#[]⟩) || (decide ((W.length : Int) = 0))) = (decide ((W.length : Int) = 0)) from by simp only [g1, g2, g3, Bool.true_or, Bool.false_or]]⟩
  rintro E h99 ⟨K, rfl⟩
  refine tr_if rfl (fun hif => ?_) (fun hif => ?_)
  · -- yes
    skip
    refine tr_seq ?_
    refine tr_reg ?_
    refine rs_v (v_assign rfl) rfl ?_
    refine rs_nil ?_
    refine q_thn ?_
    refine tr_ret ?_
    refine q_thn_ret ?_
    refine q_ret (res_tmp rfl rfl) ?_
    exact ⟨rfl, K⟩
  -- no
  simp only [Bool.or_eq_false_iff, Bool.not_eq_false', decide_eq_false_iff_not] at hif
  obtain ⟨⟨⟨hw, hab⟩, _⟩, hl0⟩ := hif
  obtain ⟨hG, hl30⟩ := good_of (by decide) hf4 hw
  have hord : ordB (some lo) (some up) := fun l u hl hu => by cases hl; cases hu; exact hab
  obtain ⟨i0, i1, hsg⟩ := seg_ex hG.ord hord
  have hGb : Good (W.filter (fun s => LoC (some lo) s && UpC (some up) s)) := hG.filter _ (by rw [seg_filter hsg]; exact ord_seg hG.ord _ _)
  have hT : (W.filterMap (ffT none none lo up)).length ≤ 100000 ∧ ∀ s, s ∈ W.filterMap (ffT none none lo up) → few s := ⟨Nat.le_trans (List.length_filterMap_le _ _) hG.n, fun s hs => (ffT_desc hG s hs).2⟩
  have hl40 := hG.len
  obtain ⟨_, _, _, e9, hx9⟩ := SlR.form hW
  cases e9
  rcases hx9 with e9 | ⟨b0, o0, rfl, _, hR0⟩
  · rw [e9] at hl0; simp at hl0
  obtain ⟨s0, hs0k⟩ := ex_get (L := W) (k := 0) (by omega)
  obtain ⟨kv0, hc0, _⟩ := hR0 0 s0 hs0k
  have hcons : ∃ r, W = s0 :: r := by
    cases W with
    | nil => simp at hs0k
    | cons s r => simp at hs0k; subst hs0k; exact ⟨r, rfl⟩
  obtain ⟨r0, hcons⟩ := hcons
  have hs0m : s0 ∈ W := List.mem_of_getElem? hs0k
  have hs0 : s0.s.size ≤ 9223372036854775807 ∧ s0.e.size ≤ 9223372036854775807 := ⟨(hG.small s0 hs0m).1, (hG.small s0 hs0m).2.1⟩
  have hlt0 := (hG.full s0 hs0m).1
  refine tr_skip ?_
  refine q_thn ?_
  refine tr_seq ?_
  refine tr_reg ?_
  refine rs_v (v_move rfl) rfl ?_
  refine rs_v (v_build2 rfl rfl (bld_impl_Step_0_1 _ _)) rfl ?_
  refine rs_w (w_new1 u_sl_impl_Step siz_impl_Step zero_impl_Step rfl rfl rfl rfl rfl) rfl ?_
  rintro _ h10 ⟨rfl, B10, K10, Z10⟩
  have S10 := K.1; have K := K.new0 K10
  refine rs_w (w_call (vs := [_]) ok_laws_spanForth rfl ⟨rfl, trivial⟩ (c_spanForth χ _ 40 (by decide))) rfl ?_
  rintro fv h11 ⟨⟨hfw, fa, fc, rfl, hfc⟩, K11⟩
  obtain ⟨_, _, _, e9, hfx⟩ := SlR.form hfw
  cases e9
  rcases hfx with hfx | ⟨fb, fo, rfl, _, hfR⟩
  · cases hfx
  obtain ⟨news, hnc, hnr⟩ := RSteps.tail (A := N0) hfR
  have hnl := hnr.len
  have hrl : (List.replicate 40 nextS).length = 40 := rfl
  rw [hrl] at hnl
  have B10 := K11.blk (by simp) B10
  have K := K.new0 K11; have Z11 := K11.1
  refine rs_v (v_slice_l u_sl_impl_Step siz_impl_Step (i := 1) rfl rfl rfl (by omega) (by omega)) rfl ?_
  refine rs_w (w_appN u_sl_impl_Step info_impl_Step rfl rfl rfl (own_new B10 (Nat.le_refl _) rfl) rfl hnl hnc (hnr.all1 fun c k hc => cStep_one _ _ c k hc) (by omega) (by omega) (by omega)) rfl ?_
  rintro v12 h12 ⟨O12, K12, F12⟩
  have K := K.newX K12 (fun x hm => .inr (by simp [Value.ownBlock] at hm; omega)); have Z12 := K12.1
  have hst : RSteps (All h12) h12 v12 (⟨4, lo⟩ :: List.replicate 40 nextS) := SlR.of_rows O12 rfl (RowsR.app (RowsR.snoc (RowsR.nil 2 (cStep N0 h)) (c := [.int .u8 4, .string lo]) (a := ⟨4, lo⟩) rfl rfl) hnr) (fun b _ hb => hb) (fun b o c a hc hr => cStep_r N0 _ b o c a hc hr)
  obtain ⟨_, h0 | ⟨g9, c9, _, rfl, hg9, B10, _⟩⟩ := O12
  · exact absurd h0.2 (by omega)
  have hsm : ∀ s : StepD, s ∈ (⟨4, lo⟩ :: List.replicate 40 nextS : List StepD) → s.key.size ≤ 9223372036854775807 := by
    intro s hs
    simp only [List.mem_cons, List.mem_replicate] at hs
    rcases hs with rfl | ⟨_, rfl⟩
    · show lo.size ≤ _; omega
    · decide
  have hal : ∀ s, s ∈ (⟨4, lo⟩ :: List.replicate 40 nextS : List StepD) → AlB (some lo) (some up) s := by
    intro s hs
    simp only [List.mem_cons, List.mem_replicate] at hs
    rcases hs with rfl | ⟨_, rfl⟩
    · refine ⟨fun h => ?_, fun h => ?_, fun _ => ⟨fun l hl => ?_, fun u hu => ?_⟩⟩
      · cases h
      · cases h
      · cases hl; exact sle_refl _
      · cases hu; exact hab
    · refine ⟨fun h => ?_, fun h => ?_, fun h => ?_⟩
      · cases h
      · cases h
      · rcases h with h | h <;> cases h
  refine rs_v (v_assign rfl) rfl ?_
  refine rs_nil ?_
  refine q_thn ?_
  refine tr_seq ?_
  refine tr_reg ?_
  refine rs_v (v_move rfl) rfl ?_
  refine rs_w (w_call (vs := [_]) ok_laws_toSpans rfl ⟨rfl, trivial⟩ (c_toSpans χ _ _ (all_low _) _ W (RSpans.kk hW K) hG.n hG.few)) rfl ?_
  rintro hPv h13 ⟨hP, K13⟩
  have hP := RSpans.mono hP (upA K13)
  obtain ⟨hPa, hPc, rfl⟩ := SlR.form2 hP
  have B10 := K13.blk (by simp) B10
  have hst := RSteps.kk hst K13
  have K := K.new0 K13; have Z13 := K13.1
  refine rs_v (v_move rfl) rfl ?_
  refine rs_v (v_build2 rfl rfl (bld_bnd _)) rfl ?_
  refine rs_v (v_move rfl) rfl ?_
  refine rs_v (v_build2 rfl rfl (bld_bnd _)) rfl ?_
  refine rs_v (v_move rfl) rfl ?_
  refine rs_w (w_call (vs := [_, _, _, _]) ok_impl_SpanBounded rfl ⟨rfl, rfl, rfl, rfl, trivial⟩ (c_implSpanBounded χ _ _ (all_low _) _ _ W (⟨4, lo⟩ :: List.replicate 40 nextS) ⟨lo, true⟩ ⟨up, true⟩ hP hG.n hG.small hG.ord (by show lo.size ≤ _; omega) (by show up.size ≤ _; omega) hord hst (by simp) hsm hal)) rfl ?_
  rintro hwiv h14 ⟨hwi, K14⟩
  have hwi := RAnss.mono hwi (upN K14)
  obtain ⟨hwia, hwic, rfl⟩ := SlR.form2 hwi
  have B10 := K14.blk (by simp) B10
  have hst := RSteps.kk hst K14
  have hP := RSpans.kk hP K14
  have K := K.new0 K14; have Z14 := K14.1
  refine rs_w (w_call (vs := [_]) ok_laws_spanList rfl ⟨rfl, trivial⟩ (c_spanList χ _ _ (all_low _) _ _ hwi (by rw [walkP_len]; simp))) rfl ?_
  rintro hwlv h15 ⟨hwl, K15⟩
  change RSpans _ _ _ (listOf (walkP (W.filter (fun s => LoC (some lo) s && UpC (some up) s)) .nowhere (⟨4, lo⟩ :: List.replicate 40 nextS))) at hwl
  rw [listOf_ge lo up W 40 (by omega)] at hwl
  have hwl := RSpans.mono hwl (upA K15)
  obtain ⟨hwla, hwlc, rfl⟩ := SlR.form2 hwl
  have B10 := K15.blk (by simp) B10
  have hst := RSteps.kk hst K15
  have hP := RSpans.kk hP K15
  have hwi := RAnss.kk hwi K15
  have K := K.new0 K15; have Z15 := K15.1
  refine rs_v (v_assign rfl) rfl ?_
  refine rs_nil ?_
  refine q_thn ?_
  refine tr_seq ?_
  refine tr_reg ?_
  refine rs_v (v_move rfl) rfl ?_
  refine rs_v (v_move rfl) rfl ?_
  refine rs_v (v_move rfl) rfl ?_
  refine rs_w (w_call (vs := [_]) ok_laws_spanForth rfl ⟨rfl, trivial⟩ (c_spanForth χ _ 40 (by decide))) rfl ?_
  rintro hfov h16 ⟨⟨hfo, _⟩, K16⟩
  have hfo := RSteps.mono hfo (upN K16)
  obtain ⟨hfoa, hfoc, rfl⟩ := SlR.form2 hfo
  have B10 := K16.blk (by simp) B10
  have hst := RSteps.kk hst K16
  have hP := RSpans.kk hP K16
  have hwi := RAnss.kk hwi K16
  have hwl := RSpans.kk hwl K16
  have K := K.new0 K16; have Z16 := K16.1
  refine rs_w (w_call (vs := [_, _, _, _]) ok_impl_SpanTruncated rfl ⟨rfl, rfl, rfl, rfl, trivial⟩ (c_implSpanTruncated χ _ _ (all_low _) _ _ (W.filter (fun s => LoC (some lo) s && UpC (some up) s)) (fwdS 40) lo up hwl hGb.n hGb.small hGb.ne hGb.ord (by omega) (by omega) hfo (by simp [fwdS]) (fwdS_small 40))) rfl ?_
  rintro htrv h17 ⟨htr, K17⟩
  have htr := RAnss.mono htr (upN K17)
  obtain ⟨htra, htrc, rfl⟩ := SlR.form2 htr
  have B10 := K17.blk (by simp) B10
  have hst := RSteps.kk hst K17
  have hP := RSpans.kk hP K17
  have hwi := RAnss.kk hwi K17
  have hwl := RSpans.kk hwl K17
  have hfo := RSteps.kk hfo K17
  have K := K.new0 K17; have Z17 := K17.1
  refine rs_w (w_call (vs := [_]) ok_laws_spanList rfl ⟨rfl, trivial⟩ (c_spanList χ _ _ (all_low _) _ _ htr (by rw [walkP_len]; simp [fwdS]))) rfl ?_
  rintro honev h18 ⟨hone, K18⟩
  rw [listOf_fwd _ 40 (Nat.le_trans (List.length_filterMap_le _ _) (by have := hGb.len; omega)), cut_within] at hone
  have hone := RSpans.mono hone (upA K18)
  obtain ⟨honea, honec, rfl⟩ := SlR.form2 hone
  have B10 := K18.blk (by simp) B10
  have hst := RSteps.kk hst K18
  have hP := RSpans.kk hP K18
  have hwi := RAnss.kk hwi K18
  have hwl := RSpans.kk hwl K18
  have hfo := RSteps.kk hfo K18
  have htr := RAnss.kk htr K18
  have K := K.new0 K18; have Z18 := K18.1
  refine rs_v (v_assign rfl) rfl ?_
  refine rs_nil ?_
  refine q_thn ?_
  refine tr_seq ?_
  refine tr_reg ?_
  refine rs_v (v_move rfl) rfl ?_
  refine rs_w (w_call (vs := [_]) ok_laws_toSpans rfl ⟨rfl, trivial⟩ (c_toSpans χ _ _ (all_low _) _ W (RSpans.kk hW K) hG.n hG.few)) rfl ?_
  rintro hP2v h19 ⟨hP2, K19⟩
  have hP2 := RSpans.mono hP2 (upA K19)
  obtain ⟨hP2a, hP2c, rfl⟩ := SlR.form2 hP2
  have B10 := K19.blk (by simp) B10
  have hst := RSteps.kk hst K19
  have hP := RSpans.kk hP K19
  have hwi := RAnss.kk hwi K19
  have hwl := RSpans.kk hwl K19
  have hfo := RSteps.kk hfo K19
  have htr := RAnss.kk htr K19
  have hone := RSpans.kk hone K19
  have K := K.new0 K19; have Z19 := K19.1
  refine rs_v (v_move rfl) rfl ?_
  refine rs_v (v_move rfl) rfl ?_
  refine rs_w (w_call (vs := [_]) ok_laws_spanForth rfl ⟨rfl, trivial⟩ (c_spanForth χ _ 40 (by decide))) rfl ?_
  rintro hfo2v h20 ⟨⟨hfo2, _⟩, K20⟩
  have hfo2 := RSteps.mono hfo2 (upN K20)
  obtain ⟨hfo2a, hfo2c, rfl⟩ := SlR.form2 hfo2
  have B10 := K20.blk (by simp) B10
  have hst := RSteps.kk hst K20
  have hP := RSpans.kk hP K20
  have hwi := RAnss.kk hwi K20
  have hwl := RSpans.kk hwl K20
  have hfo := RSteps.kk hfo K20
  have htr := RAnss.kk htr K20
  have hone := RSpans.kk hone K20
  have hP2 := RSpans.kk hP2 K20
  have K := K.new0 K20; have Z20 := K20.1
  refine rs_w (w_call (vs := [_, _, _, _]) ok_impl_SpanTruncated rfl ⟨rfl, rfl, rfl, rfl, trivial⟩ (c_implSpanTruncated χ _ _ (all_low _) _ _ W (fwdS 40) lo up hP2 hG.n hG.small hG.ne hG.ord (by omega) (by omega) hfo2 (by simp [fwdS]) (fwdS_small 40))) rfl ?_
  rintro htr2v h21 ⟨htr2, K21⟩
  have htr2 := RAnss.mono htr2 (upN K21)
  obtain ⟨htr2a, htr2c, rfl⟩ := SlR.form2 htr2
  have B10 := K21.blk (by simp) B10
  have hst := RSteps.kk hst K21
  have hP := RSpans.kk hP K21
  have hwi := RAnss.kk hwi K21
  have hwl := RSpans.kk hwl K21
  have hfo := RSteps.kk hfo K21
  have htr := RAnss.kk htr K21
  have hone := RSpans.kk hone K21
  have hP2 := RSpans.kk hP2 K21
  have hfo2 := RSteps.kk hfo2 K21
  have K := K.new0 K21; have Z21 := K21.1
  refine rs_w (w_call (vs := [_]) ok_laws_spanList rfl ⟨rfl, trivial⟩ (c_spanList χ _ _ (all_low _) _ _ htr2 (by rw [walkP_len]; simp [fwdS]))) rfl ?_
  rintro htwov h22 ⟨htwo, K22⟩
  rw [listOf_fwd _ 40 (Nat.le_trans (List.length_filterMap_le _ _) (by omega))] at htwo
  have htwo := RSpans.mono htwo (upA K22)
  obtain ⟨htwoa, htwoc, rfl⟩ := SlR.form2 htwo
  have B10 := K22.blk (by simp) B10
  have hst := RSteps.kk hst K22
  have hP := RSpans.kk hP K22
  have hwi := RAnss.kk hwi K22
  have hwl := RSpans.kk hwl K22
  have hfo := RSteps.kk hfo K22
  have htr := RAnss.kk htr K22
  have hone := RSpans.kk hone K22
  have hP2 := RSpans.kk hP2 K22
  have hfo2 := RSteps.kk hfo2 K22
  have htr2 := RAnss.kk htr2 K22
  have K := K.new0 K22; have Z22 := K22.1
  refine rs_v (v_assign rfl) rfl ?_
  refine rs_nil ?_
  refine q_thn ?_
  refine tr_seq ?_
  refine tr_any (Keep []) (keep_pre _) (by kernel_rfl) (by kernel_rfl) ?_
  refine rm_v (keep_pre _) (fun h' hk => v_move rfl) ?_
  refine rm_v (keep_pre _) (fun h' hk => v_move rfl) ?_
  refine rm_w (fun v h' => RSpans (All h') h' v (W.filterMap (ffT none none lo up))) (fun v _ _ _ k2 hr => RSpans.kk hr k2) (fun h' hk => OpW.mono (w_call (vs := [_]) ok_laws_ofSpans rfl ⟨rfl, trivial⟩ (c_ofSpans χ h' _ (all_low _) _ _ (RSpans.kk htwo hk) hT.1 hT.2)) (fun v h'' hv => ⟨hv.2, RSpans.mono hv.1 (upA hv.2)⟩)) ?_
  refine rm_mk (.val (.bool true)) (fun _ _ _ _ _ h => h) (fun h' hk => om_open 71 rfl (by kernel_rfl) fun u hu => om_w (by simp) rfl (OpW.mono (w_call (vs := [_, _]) ok_laws_spanLike rfl ⟨rfl, rfl, trivial⟩ (c_spanLike χ h' _ _ (all_low _) (all_low _) _ _ _ _ (RSpans.kk hone hk) hu hT.1 hT.1 hT.2 hT.2 (Like.refl (fun s hs => (ffT_desc hG s hs).1)))) (fun v h'' hv => ⟨hv.2, hv.1⟩))) ?_
  refine rm_v (keep_pre _) (fun h' hk => v_move rfl) ?_
  refine rm_gv (keep_pre _) rfl rfl (fun h' hk => v_move rfl) ?_
  refine rm_mk (.loose (fun v h' => RSpans (All h') h' v W)) (fun v _ _ _ k2 hr => RSpans.kk hr k2) (fun h' hk => om_gt (by simp) rfl rfl rfl (OpW.mono (w_call (vs := [_]) ok_laws_toSpans rfl ⟨rfl, trivial⟩ (c_toSpans χ h' _ (all_low _) _ W (RSpans.kk hW (K.new0 hk)) hG.n hG.few)) (fun v h'' hv => ⟨hv.2, RSpans.mono hv.1 (upA hv.2)⟩))) ?_
  refine rm_gv (keep_pre _) rfl rfl (fun h' hk => v_move rfl) ?_
  refine rm_gv (keep_pre _) rfl rfl (fun h' hk => v_indexAddrE (i := 0) u_sl_spec_Span siz_spec_Span rfl rfl rfl (by omega)) ?_
  refine rm_gv (keep_pre _) rfl rfl (fun h' hk => v_fieldAddr fa_spec_Span_0 rfl) ?_
  refine rm_gv (keep_pre _) rfl rfl (fun h' hk => v_load one_string rfl ((K.new0 hk).cell (by simp) (hc0.at 0 rfl))) ?_
  refine rm_gv (keep_pre _) rfl rfl (fun h' hk => v_move rfl) ?_
  refine rm_gv (keep_pre _) rfl rfl (fun h' hk => v_indexAddrE (i := 0) u_sl_spec_Span siz_spec_Span rfl rfl rfl (by omega)) ?_
  refine rm_gv (keep_pre _) rfl rfl (fun h' hk => v_fieldAddr fa_spec_Span_1 rfl) ?_
  refine rm_gv (keep_pre _) rfl rfl (fun h' hk => v_load one_string rfl ((K.new0 hk).cell (by simp) (hc0.at 1 rfl))) ?_
  refine rm_mk (.loose (fun v h' => RSteps (All h') h' v startS)) (fun v _ _ _ k2 hr => RSteps.kk hr k2) (fun h' hk => om_gt (by simp) rfl rfl rfl (OpW.mono (w_call (vs := []) ok_laws_spanStart rfl trivial (c_spanStart χ h')) (fun v h'' hv => ⟨hv.2, RSteps.mono hv.1 (upN hv.2)⟩))) ?_
  refine rm_mk (.loose (fun v h' => RAnss (All h') h' v [ansOf (W.filterMap (ffT none none s0.s s0.e)) (some (pFirst (W.filterMap (ffT none none s0.s s0.e))))])) (fun v _ _ _ k2 hr => RAnss.kk hr k2) (fun h' hk => om_open 75 rfl (by kernel_rfl) fun u hu => om_open 84 rfl (by kernel_rfl) fun u2 hu2 => om_gt (by simp) rfl rfl rfl (OpW.mono (w_call (vs := [_, _, _, _]) ok_impl_SpanTruncated rfl ⟨rfl, rfl, rfl, rfl, trivial⟩ (c_implSpanTruncated χ h' _ (all_low _) _ _ W startS s0.s s0.e hu hG.n hG.small hG.ne hG.ord hs0.1 hs0.2 hu2 (by decide) start_small)) (fun v h'' hv => ⟨hv.2, RAnss.mono hv.1 (upN hv.2)⟩))) ?_
  refine rm_mk (.val (.bool true)) (fun _ _ _ _ _ h => h) (fun h' hk => om_open 85 rfl (by kernel_rfl) fun u hu => om_gt (by simp) rfl rfl rfl (OpW.mono (w_call (vs := [_]) ok_laws_spanFound rfl ⟨rfl, trivial⟩ (c_spanFound χ h' _ _ _ hu)) (fun v h'' hv => ⟨hv.2, by rw [hv.1, first_found hcons hlt0]; rfl⟩))) ?_
  refine rm_v (keep_pre _) (fun h' hk => v_pick_t rfl rfl) ?_
  refine rm_v (keep_pre _) (fun h' hk => v_assign rfl) ?_
  refine rm_end ?_; intro h23 K23; simp only [endM, hypF, ofE, argE, List.nil_append]
  intro v85 _ v84 _ v75 _ v71 _
  have K := K.new0 K23
  refine q_thn ?_
  refine tr_ret ?_
  refine q_ret (res_tmp rfl rfl) ?_
  exact ⟨rfl, K⟩
end Go.Proofs.Ytgebfbnndgjkiaa
