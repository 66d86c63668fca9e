/- Texts W45 to W52, laid together by a program of ours. Conditions: those that each theorem names. -/
import Derived.Test.YtgebfbnndgjkiaaK5
set_option linter.unusedVariables false
set_option linter.unusedSimpArgs false
set_option linter.unusedSectionVars false
/- Forty-fifth part: scripts that go through all spans; the spans that a script found. Conditions: those that each theorem names. -/
namespace Go.Proofs.Ytgebfbnndgjkiaa
open Go.Tess Go.RowKit
set_option maxRecDepth 100000
set_option maxHeartbeats 2000000
theorem v_slice_l {P : Program} {χ : Chi} {ρ : Operand → Option Value} {h : Heap} {dst : Option Tmp} {ty : TypeId} {pos : String} {after : Array Edge} {guard : Option (Nat × Bool)} {x y : Operand} {t e : TypeId} {sz b o m c i : Nat} {k : IntKind} {j : Int} (ht : P.underlying t = some (.slice e)) (hs : Siz P e sz)
    (hx : ρ x = some (.slice (some ⟨b, o, none⟩) m c)) (hy : ρ y = some (.int k j)) (hj : j = (i : Int)) (hi : i ≤ m) (hc : i < c) :
    OpV P χ ⟨dst, .slice t x (some y) none none, ty, pos, after, guard⟩ ρ h (.slice (some ⟨b, o + i * sz, none⟩) (m - i) (c - i)) := by
  intro r d hr
  have e1 := hr x (by simp [Op.operands]) _ hx
  have e2 := hr y (by simp [Op.operands]) _ hy
  subst hj
  have he := elem_of ht
  have h1 := run_slice_l (w := mkw χ h d) t (some ⟨b, o, none⟩) m c (by rw [he]; exact ht) k (i : Int) (by omega) (by omega)
  rw [he, hs, Result.andThen_ok] at h1
  have h2 : sliced (some ⟨b, o, none⟩) (Int.toNat (i : Int)) m c sz = .slice (some ⟨b, o + i * sz, none⟩) (m - i) (c - i) := by
    have hne : ¬ c = i := by omega
    simp only [sliced, Int.toNat_natCast, if_neg hne, Option.map_some, addr_add]
  rw [h2] at h1
  simp [execOp, e1, e2, run_sliceAt_slice (mkw χ h d) t _ _ _ _ (by rw [he]; exact ht), h1]
theorem own_new {h : Heap} {base b sz : Nat} {cs : List Value} {T : TypeId} (B : Blk h b cs T) (hb : base ≤ b) (hl : cs.length = sz) : Own h base T sz (.slice (some ⟨b, 0, none⟩) 1 1) 1 cs :=
  ⟨by omega, .inr ⟨b, 1, cs.toArray, rfl, hb, B, Nat.le_refl _, by decide, by simp [hl], by rw [Nat.one_mul, ← hl]; simp⟩⟩
theorem RowsR.app {α : Type} {sz : Nat} {R : List Value → α → Prop} {xs ys : List Value} {ls ms : List α} (h : RowsR sz R xs ls) (k : RowsR sz R ys ms) : RowsR sz R (xs ++ ys) (ls ++ ms) := by
  obtain ⟨c1, rfl, l1, h1⟩ := h
  obtain ⟨c2, rfl, l2, h2⟩ := k
  refine ⟨c1 ++ c2, by simp, by simp [l1, l2], fun i c a hc ha => ?_⟩
  rcases Nat.lt_or_ge i c1.length with hlt | hge
  · rw [List.getElem?_append_left hlt] at hc
    rw [List.getElem?_append_left (by omega)] at ha
    exact h1 i c a hc ha
  · rw [List.getElem?_append_right hge] at hc
    rw [List.getElem?_append_right (by omega)] at ha
    rw [l1] at hc
    exact h2 _ c a hc ha
def nextS : StepD := ⟨2, ByteArray.empty⟩
def fwdS (n : Nat) : List StepD := ⟨0, ByteArray.empty⟩ :: List.replicate n nextS
theorem fwdS_succ (n : Nat) : fwdS (n + 1) = fwdS n ++ [nextS] := by simp [fwdS, List.replicate_succ']
theorem fwdS_len (n : Nat) : (fwdS n).length = n + 1 := by simp [fwdS]
theorem fwdS_small (n : Nat) : ∀ s, s ∈ fwdS n → s.key.size ≤ 9223372036854775807 := by
  intro s hs
  simp only [fwdS, List.mem_cons, List.mem_replicate] at hs
  rcases hs with rfl | ⟨_, rfl⟩ <;> decide
def listOf (l : List AnsD) : List SpanD := (l.filter (·.ok)).map (·.sp)
theorem listOf_snoc (l : List AnsD) (x : AnsD) : listOf (l ++ [x]) = if x.ok then listOf l ++ [x.sp] else listOf l := by
  unfold listOf
  rw [List.filter_append]
  cases h : x.ok <;> simp [h]
theorem listOf_cons (x : AnsD) (l : List AnsD) : listOf (x :: l) = if x.ok then x.sp :: listOf l else listOf l := by
  unfold listOf
  rw [List.filter_cons]
  cases h : x.ok <;> simp
theorem listOf_le (l : List AnsD) : (listOf l).length ≤ l.length := by unfold listOf; simpa using List.length_filter_le _ l
/-- Nothing is found any more. -/
theorem listOf_end (W : List SpanD) (p : Pos) (hp : canNext p = false) : ∀ n, listOf (walkP W p (List.replicate n nextS)) = []
  | 0 => rfl
  | n + 1 => by
    have e : stepP W p nextS = none := by simp [stepP, nextS, hp]
    rw [List.replicate_succ, walkP, e, listOf_cons]
    simp only [ansOf, Option.getD_none]
    exact listOf_end W p hp n
theorem listOf_next (W : List SpanD) : ∀ (n j : Nat), W.length ≤ j + 1 + n → listOf (walkP W (.pt j) (List.replicate n nextS)) = W.drop (j + 1)
  | 0, j, hn => by rw [List.drop_eq_nil_of_le (by omega)]; rfl
  | n + 1, j, hn => by
    have e : stepP W (.pt j) nextS = some (pNext W (.pt j)) := by simp [stepP, nextS, canNext]
    rw [List.replicate_succ, walkP, e, listOf_cons]
    simp only [Option.getD_some]
    by_cases hj : j + 1 < W.length
    · rw [show pNext W (.pt j) = .pt (j + 1) from by rw [pNext_pt, if_pos hj]]
      have hc : cur W (.pt (j + 1)) = some W[j + 1] := List.getElem?_eq_getElem hj
      simp only [ansOf, hc, Option.isSome_some, if_true, Option.getD_some]
      rw [listOf_next W n (j + 1) (by omega), List.drop_eq_getElem_cons hj]
    · rw [show pNext W (.pt j) = .behind from by rw [pNext_pt, if_neg hj]]
      simp only [ansOf, cur, Option.isSome_none, Bool.false_eq_true, if_false]
      rw [listOf_end W .behind rfl, List.drop_eq_nil_of_le (by omega)]
theorem listOf_from (W : List SpanD) (p p0 : Pos) (s : StepD) (n : Nat) (hs : stepP W p s = some p0) (hp : p0 = if W.length = 0 then p0 else .pt 0) (h0 : W.length = 0 → canNext p0 = false) (hn : W.length ≤ n + 1) : listOf (walkP W p (s :: List.replicate n nextS)) = W := by
  rw [walkP, hs, listOf_cons]
  simp only [Option.getD_some]
  by_cases hz : W.length = 0
  · have e : W = [] := List.eq_nil_of_length_eq_zero hz
    rw [listOf_end W p0 (h0 hz)]
    subst e
    have hc : cur [] p0 = none := by cases p0 <;> simp [cur]
    simp [ansOf, hc]
  · rw [if_neg hz] at hp
    subst hp
    have hl : 0 < W.length := by omega
    have hc : cur W (.pt 0) = some W[0] := List.getElem?_eq_getElem hl
    simp only [ansOf, hc, Option.isSome_some, if_true, Option.getD_some]
    rw [listOf_next W n 0 (by omega)]
    have := List.drop_eq_getElem_cons hl
    rw [List.drop_zero] at this
    exact this.symm
theorem listOf_fwd (W : List SpanD) (n : Nat) (hn : W.length ≤ n + 1) : listOf (walkP W .nowhere (fwdS n)) = W := by
  refine listOf_from W .nowhere (pFirst W) _ n (by simp [stepP]) ?_ ?_ hn
  · unfold pFirst
    by_cases h : W.length = 0
    · rw [if_pos h, if_pos h]
    · rw [if_neg h, if_neg h]
  · intro h; unfold pFirst; rw [if_pos h]; rfl

theorem c_spanForth (χ : Chi) (h : Heap) (n : Nat) (hn : n ≤ 1000) :
    Cl Try.prog χ 43 #[.int .i64 (n : Int)] h (fun r h' => (RSteps (Up N0 h h') h' r (fwdS n) ∧ ∃ a c, r = .slice a (n + 1) c ∧ n + 1 ≤ c) ∧ Keep [] h h') := by
  refine cl_intro Try.func43 rfl rfl rfl ?_
  have K : Keep [] h h := Keep.refl _ _
  refine tr_seq ?_
  refine tr_reg ?_
  refine rs_v (v_assign rfl) rfl ?_
  refine rs_nil ?_
  refine q_thn ?_
  refine tr_seq ?_
  refine tr_reg ?_
  refine rs_v (v_build1 rfl (bld_impl_Step_0 _)) rfl ?_
  refine rs_w (w_new1 u_sl_impl_Step siz_impl_Step zero_impl_Step rfl rfl rfl rfl rfl) rfl ?_
  rintro _ h1 ⟨rfl, B1, K1, Z1⟩
  have S1 := K.1; have K := K.new0 K1
  refine rs_v (v_assign rfl) rfl ?_
  refine rs_nil ?_
  refine q_thn ?_
  refine tr_seq ?_
  refine tr_seq ?_
  refine tr_reg ?_
  refine rs_v (v_move rfl) rfl ?_
  refine rs_v (v_move rfl) rfl ?_
  refine rs_nil ?_
  refine q_thn ?_
  refine tr_block ?_
  refine tr_loop (fun m E h' => ∃ k v xs, k ≤ n ∧ m = n - k ∧ E = [(3, v), (6, .int .i64 (n : Int)), (7, .int .i64 (k : Int))] ∧ Keep [] h h' ∧ Own h' h.size 63 2 v (k + 1) xs ∧ RowsR 2 (cStep N0 h) xs (fwdS k)) n [(3, _), (6, _), (7, _)] ⟨rfl, rfl, rfl, trivial⟩ ⟨0, _, _, Nat.zero_le _, rfl, rfl, K, own_new B1 (Nat.le_refl _) rfl, (RowsR.nil 2 (cStep N0 h)).snoc rfl rfl⟩ ?_
  rintro m E hL2 ⟨k, v, xs, hk, rfl, rfl, K, O, hrow⟩
  have hob := own_ne O; have KL := Keep.refl [] hL2
  refine tr_seq ?_
  refine tr_reg ?_
  refine rs_v (v_lt rfl rfl) rfl ?_
  refine rs_nil ?_
  refine q_thn ?_
  refine tr_seq ?_
  refine tr_ifn rfl (fun hif => ?_) (fun hif => ?_)
  · -- no
    simp only [decide_eq_true_eq, decide_eq_false_iff_not] at hif
    have hkk : k = n := by omega
    subst hkk
    refine tr_exit ?_
    refine q_thn_exit ?_
    refine q_lp_exit ?_
    refine q_blk_hit ?_
    refine q_thn ?_
    refine tr_seq ?_
    refine tr_reg ?_
    refine rs_v (v_move rfl) rfl ?_
    refine rs_v (v_assign rfl) rfl ?_
    refine rs_nil ?_
    refine q_thn ?_
    refine tr_ret ?_
    refine q_ret (res_tmp rfl rfl) ?_
    obtain ⟨g, c9, rfl, hg1, hg2, _⟩ := own_some O
    have hcap : k + 1 ≤ c9 := by
      rcases O.2 with ⟨e, _⟩ | ⟨g', cap, cur, e, _, _, hle, _⟩
      · cases e
      · cases e; exact hle
    exact ⟨⟨SlR.of_rows O (fwdS_len k).symm hrow (fun b h1 h2 => .inr ⟨h1, h2⟩) (fun b o c a hc hr => cStep_r N0 _ _ _ _ _ hc hr), _, _, rfl, hcap⟩, K⟩
  -- yes
  simp only [decide_eq_true_eq, decide_eq_false_iff_not] at hif
  refine tr_skip ?_
  refine q_thn ?_
  refine tr_seq ?_
  refine tr_block ?_
  refine tr_reg ?_
  refine rs_v (v_move rfl) rfl ?_
  refine rs_v (v_build1 rfl (bld_impl_Step_0 _)) rfl ?_
  refine rs_w (w_new1 u_sl_impl_Step siz_impl_Step zero_impl_Step rfl rfl rfl rfl rfl) rfl ?_
  rintro _ h3 ⟨rfl, B3, K3, Z3⟩
  have O := O.keep2 K3 (fun x hm => by have := hob x hm; simp; try omega)
  have S3 := K.1; have K := K.new0 K3
  refine rs_w (w_app1 u_sl_impl_Step info_impl_Step rfl rfl rfl O rfl rfl B3 rfl (by omega) (by omega) (by omega)) rfl ?_
  rintro v4 h4 ⟨O4, K4, N4, F4⟩
  have K := K.newX K4 (fun x hm => .inr (by have := hob x hm; omega)); have Z4 := K4.1
  have B3 := K4.blk (fun hm => by have := hob _ hm; omega) B3
  refine rs_v (v_assign rfl) rfl ?_
  refine rs_nil ?_
  refine q_blk_n ?_
  refine q_thn ?_
  refine tr_reg ?_
  refine rs_v (v_add rfl rfl (by omega) (by omega)) rfl ?_
  refine rs_v (v_move rfl) rfl ?_
  refine rs_nil ?_
  refine q_lp (n - (k + 1)) [(3, _), (6, _), (7, _)] (by omega) ⟨rfl, rfl, rfl, trivial⟩ ⟨k + 1, _, _, by omega, rfl, rfl, K, O4, ?_⟩
  rw [fwdS_succ]
  exact hrow.snoc rfl rfl
theorem c_spanList (χ : Chi) (h : Heap) (A : Nat → Prop) (hA : Low A h) (v : Value) (G : List AnsD) (hG : RAnss A h v G) (hn : G.length ≤ 100000) :
    Cl Try.prog χ 44 #[v] h (fun r h' => RSpans (Up A h h') h' r (listOf G) ∧ Keep [] h h') := by
  obtain ⟨hlen, a, c, rfl, hx⟩ := hG.form
  refine cl_intro Try.func44 rfl rfl rfl ?_
  have K : Keep [] h h := Keep.refl _ _
  refine tr_seq ?_
  refine tr_reg ?_
  refine rs_v (v_assign rfl) rfl ?_
  refine rs_nil ?_
  refine q_thn ?_
  refine tr_seq ?_
  refine tr_reg ?_
  refine rs_v (v_assign rfl) rfl ?_
  refine rs_nil ?_
  refine q_thn ?_
  refine tr_seq ?_
  refine tr_seq ?_
  refine tr_reg ?_
  refine rs_v (v_move rfl) rfl ?_
  refine rs_v (v_len u_sl_impl_SpanAnswer rfl) rfl ?_
  refine rs_v (v_move rfl) rfl ?_
  refine rs_nil ?_
  refine q_thn ?_
  refine tr_block ?_
  refine tr_loop (fun m E h' => ∃ k v n, k ≤ G.length ∧ m = G.length - k ∧ E = [(3, v), (6, .slice a G.length c), (7, .int .i64 (G.length : Int)), (8, .int .i64 (k : Int))] ∧ Keep [] h h' ∧ n = (listOf (G.take k)).length ∧ OutR A h h' h.size 61 3 cSpan v n (listOf (G.take k))) G.length [(3, _), (6, _), (7, _), (8, _)] ⟨rfl, rfl, rfl, rfl, trivial⟩ ⟨0, _, 0, Nat.zero_le _, rfl, rfl, K, rfl, OutR.nil _ _ _ _ _ _ _⟩ ?_
  rintro m E hL1 ⟨k, v, n, hk, rfl, rfl, K, hn, hout⟩
  have hout0 := hout
  obtain ⟨xs, F, O, hrow, hF⟩ := hout
  have KL0 := K.1
  have hob := own_ne O; have KL := Keep.refl [] hL1
  refine tr_seq ?_
  refine tr_reg ?_
  refine rs_v (v_lt rfl rfl) rfl ?_
  refine rs_nil ?_
  refine q_thn ?_
  refine tr_seq ?_
  refine tr_ifn rfl (fun hif => ?_) (fun hif => ?_)
  · -- no
    simp only [decide_eq_true_eq, decide_eq_false_iff_not] at hif
    have hkk : k = G.length := by omega
    subst hkk
    refine tr_exit ?_
    refine q_thn_exit ?_
    refine q_lp_exit ?_
    refine q_blk_hit ?_
    refine q_thn ?_
    refine tr_seq ?_
    refine tr_reg ?_
    refine rs_v (v_move rfl) rfl ?_
    refine rs_v (v_assign rfl) rfl ?_
    refine rs_nil ?_
    refine q_thn ?_
    refine tr_ret ?_
    refine q_ret (res_tmp rfl rfl) ?_
    rw [List.take_length] at hout0 hn
    exact ⟨hout0.fin cSpan_st hn (Nat.le_refl _) cSpan_r, K⟩
  -- yes
  simp only [decide_eq_true_eq, decide_eq_false_iff_not] at hif
  rcases hx with rfl | ⟨b, o, rfl, hAb, hR⟩
  · simp at hif; omega
  obtain ⟨x, hsk⟩ := ex_get (L := G) (k := k) (by omega)
  have hkl : k < G.length := (List.getElem?_eq_some_iff.1 hsk).1
  have KL0 := K.1
  obtain ⟨kv, hcc, hkx⟩ := hR k x hsk
  obtain ⟨ka, kc, rfl⟩ := hkx.form2
  have hcells := K.cells (by simp) hcc
  have hnk : n ≤ k := by rw [hn]; exact Nat.le_trans (listOf_le _) (by rw [List.length_take]; omega)
  refine tr_skip ?_
  refine q_thn ?_
  refine tr_seq ?_
  refine tr_block ?_
  refine tr_seq ?_
  refine tr_reg ?_
  refine rs_v (v_indexAddrN u_sl_impl_SpanAnswer siz_impl_SpanAnswer rfl rfl (by omega)) rfl ?_
  refine rs_v (v_loadAgg (vs := [_, _, _, _, _]) many_impl_SpanAnswer rfl (by exact hcells)) rfl ?_
  refine rs_w (w_new zero_impl_SpanAnswer) rfl ?_
  rintro _ h2 ⟨rfl, B2, K2, Z2⟩
  have O := O.keep2 K2 (fun x hm => by have := hob x hm; simp; try omega)
  have S2 := K.1; have K := K.new0 K2; have KL := KL.new0 K2
  refine rs_w0 (w_put siz_impl_SpanAnswer rfl rfl rfl rfl B2 rfl) ?_
  rintro _ h3 ⟨B3, K3⟩
  have O := O.keep2 K3 (fun x hm => by have := hob x hm; simp; try omega)
  have B2 := B3; have K := K.new1 K3 (by first | (right; omega) | (left; simp; done)); have Z3 := K3.1; have KL := KL.new1 K3 (.inr (by omega))
  refine rs_nil ?_
  refine q_thn ?_
  refine tr_seq ?_
  refine tr_reg ?_
  refine rs_v (v_fieldAddr fa_impl_SpanAnswer_1 rfl) rfl ?_
  refine rs_v (v_load one_bool rfl (by exact B2.cell _ rfl)) rfl ?_
  refine rs_nil ?_
  refine q_thn ?_
  refine tr_if rfl (fun hif => ?_) (fun hif => ?_)
  · -- yes
    skip
    refine tr_reg ?_
    refine rs_v (v_move rfl) rfl ?_
    refine rs_v (v_fieldAddr fa_impl_SpanAnswer_2 rfl) rfl ?_
    refine rs_v (v_loadAgg (vs := [_, _, _]) many_impl_Span rfl (by exact B2.sub _ 3 rfl)) rfl ?_
    refine rs_w (w_new1 u_sl_impl_Span siz_impl_Span zero_impl_Span rfl rfl rfl rfl rfl) rfl ?_
    rintro _ h4 ⟨rfl, B4, K4, Z4⟩
    have B2 := K4.blk (by simp) B2
    have O := O.keep2 K4 (fun x hm => by have := hob x hm; simp; try omega)
    have S4 := K.1; have K := K.new0 K4; have KL := KL.new0 K4
    refine rs_w (w_app1 u_sl_impl_Span info_impl_Span rfl rfl rfl O rfl rfl B4 rfl (by omega) (by omega) (by omega)) rfl ?_
    have K70 := K
    have KL70 := KL
    rintro v5 h5 ⟨O5, K5, N5, F5⟩
    have K := K.newX K5 (fun x hm => .inr (by have := hob x hm; omega)); have Z5 := K5.1
    have B2 := K5.blk (fun hm => by have := hob _ hm; omega) B2
    have B4 := K5.blk (fun hm => by have := hob _ hm; omega) B4
    refine rs_v (v_assign rfl) rfl ?_
    refine rs_nil ?_
    refine q_blk_n ?_
    refine q_thn ?_
    refine tr_reg ?_
    refine rs_v (v_add rfl rfl (by omega) (by omega)) rfl ?_
    refine rs_v (v_move rfl) rfl ?_
    refine rs_nil ?_
    refine q_lp (G.length - (k + 1)) [(3, _), (6, _), (7, _), (8, _)] (by omega) ⟨rfl, rfl, rfl, rfl, trivial⟩ ⟨k + 1, v5, n + 1, by omega, rfl, rfl, K, ?_, ?_⟩
    · rw [take_snoc' hsk, listOf_snoc, if_pos hif, List.length_append, ← hn]; rfl
    · rw [take_snoc' hsk, listOf_snoc, if_pos hif]
      exact OutR.snoc cSpan_st hA (by omega) hob hrow hF KL0 KL70 O5 K5 F5 rfl ⟨_, rfl, (hkx.stab (K70.st hA)).mono Up.old⟩
  -- no
  skip
  refine tr_skip ?_
  refine q_blk_n ?_
  refine q_thn ?_
  refine tr_reg ?_
  refine rs_v (v_add rfl rfl (by omega) (by omega)) rfl ?_
  refine rs_v (v_move rfl) rfl ?_
  refine rs_nil ?_
  refine q_lp (G.length - (k + 1)) [(3, _), (6, _), (7, _), (8, _)] (by omega) ⟨rfl, rfl, rfl, rfl, trivial⟩ ⟨k + 1, v, n, by omega, rfl, rfl, K, ?_, ?_⟩
  · rw [take_snoc' hsk, listOf_snoc, if_neg (by rw [hif]; decide)]; exact hn
  · rw [take_snoc' hsk, listOf_snoc, if_neg (by rw [hif]; decide)]
    exact hout0.keep cSpan_st KL
end Go.Proofs.Ytgebfbnndgjkiaa

/- Forty-sixth part: the law of spans within bounds that are truncated to them, walked. Conditions: those that each theorem names. -/
namespace Go.Proofs.Ytgebfbnndgjkiaa
open Go.Tess Go.RowKit
set_option maxRecDepth 100000
set_option maxHeartbeats 2000000
theorem RSteps.tail {A : Nat → Prop} {h : Heap} {b o : Nat} {s : StepD} {r : List StepD} (hR : ∀ (i : Nat) x, (s :: r)[i]? = some x → RStep h b (o + i * 2) x) :
    ∃ news, CellsAt h b (o + 1 * 2) news ∧ RowsR 2 (cStep A h) news r :=
  rows_of (fun i x hi => ⟨x.cells, rfl, by have := hR (i + 1) x (by simpa using hi); rwa [show o + (i + 1) * 2 = o + 1 * 2 + i * 2 from by omega] at this, rfl⟩) (by omega)
theorem cStep_one (A : Nat → Prop) (h : Heap) (c : List Value) (k : StepD) (hc : cStep A h c k) : c.all (fun u => u.oneCell') = true := by
  have e : c = k.cells := hc
  subst e; rfl
/-- What is truncated overlaps what it is truncated to. -/
theorem cut_within (a b : ByteArray) (W : List SpanD) : (W.filter (fun s => LoC (some a) s && UpC (some b) s)).filterMap (ffT none none a b) = W.filterMap (ffT none none a b) := by
  induction W with
  | nil => rfl
  | cons s r ih =>
    cases h : (LoC (some a) s && UpC (some b) s) with
    | true => rw [List.filter_cons, if_pos h, List.filterMap_cons, List.filterMap_cons, ih]
    | false =>
      rw [List.filter_cons, if_neg (by rw [h]; decide), List.filterMap_cons, ih]
      have hn : ffT none none a b s = none := by
        rw [ffT_plain]
        cases hc : slt (cutLo a s) (cutUp b s) with
        | false => rw [if_neg (by decide)]
        | true =>
          exfalso
          have h1 : sle a (cutLo a s) = true := by
            unfold cutLo
            cases hq : slt s.s a with
            | true => rw [if_pos rfl]; exact sle_refl _
            | false => rw [if_neg (by decide)]; exact not_slt.1 hq
          have h2 : sle (cutUp b s) b = true := by
            unfold cutUp
            cases hq : slt b s.e with
            | true => rw [if_pos rfl]; exact sle_refl _
            | false => rw [if_neg (by decide)]; exact not_slt.1 hq
          have h3 := slt_of_slt_sle (slt_of_sle_slt h1 hc) (cutUp_le b s)
          have h4 := slt_of_slt_sle (slt_of_sle_slt (cutLo_ge a s) hc) h2
          rw [show LoC (some a) s = true from h3, show UpC (some b) s = true from h4] at h
          cases h
      rw [hn]
/-- All spans within bounds are found by a seek to the lower one, and steps from there on. -/
theorem listOf_ge (a b : ByteArray) (W : List SpanD) (n : Nat) (hn : W.length ≤ n + 1) :
    listOf (walkP (W.filter (fun s => LoC (some a) s && UpC (some b) s)) .nowhere (⟨4, a⟩ :: List.replicate n nextS)) = W.filter (fun s => LoC (some a) s && UpC (some b) s) := by
  have hl := List.length_filter_le (fun s => LoC (some a) s && UpC (some b) s) W
  have hg : geI (W.filter (fun s => LoC (some a) s && UpC (some b) s)) a = 0 := by
    cases hW : W.filter (fun s => LoC (some a) s && UpC (some b) s) with
    | nil => rfl
    | cons s r =>
      have hm : s ∈ W.filter (fun s => LoC (some a) s && UpC (some b) s) := by rw [hW]; simp
      have hp := (List.mem_filter.1 hm).2
      simp only [LoC, Bool.and_eq_true] at hp
      simp only [geI, not_sle.2 hp.1, Bool.false_eq_true, if_false]
  refine listOf_from _ .nowhere (pGE (W.filter (fun s => LoC (some a) s && UpC (some b) s)) a) _ n rfl ?_ ?_ (by omega)
  · unfold pGE; rw [hg]
    by_cases hz : (W.filter (fun s => LoC (some a) s && UpC (some b) s)).length = 0
    · rw [if_pos hz]
    · rw [if_neg hz, if_pos (by omega)]
  · intro hz; unfold pGE; rw [hg, if_neg (by omega)]; rfl
theorem bld_bnd (x : ByteArray) : ∀ w, (Instr.build 48 #[(0, .string x), (1, .bool true)]).run Try.prog w = .ok (BndD.v ⟨x, true⟩) w := fun _ => by kernel_rfl
theorem Good.filter {W : List SpanD} (h : Good W) (P : SpanD → Bool) (hO : Tess.Ord (W.filter P)) : Good (W.filter P) :=
  ⟨Nat.le_trans (List.length_filter_le _ _) h.len, fun s hs => h.full s (List.mem_filter.1 hs).1, fun s hs => h.small s (List.mem_filter.1 hs).1, hO⟩
theorem ord_seg {W : List SpanD} (hO : Tess.Ord W) (i0 i1 : Nat) : Tess.Ord (segL W i0 i1) := by
  have hget : ∀ (j : Nat) s, (segL W i0 i1)[j]? = some s → W[i0 + j]? = some s := fun j s hs => by
    rw [segL_get] at hs
    split at hs
    · exact hs
    · cases hs
  refine ⟨fun s hs => ?_, fun i s t h1 h2 => hO.2 (i0 + i) s t (hget i s h1) (by have := hget (i + 1) t h2; rwa [show i0 + (i + 1) = i0 + i + 1 from by omega] at this)⟩
  obtain ⟨j, hj⟩ := List.getElem?_of_mem hs
  exact hO.1 s (List.mem_of_getElem? (hget j s hj))
/-- A span truncated to itself is found. -/
theorem first_found {W : List SpanD} {s : SpanD} {r : List SpanD} (hW : W = s :: r) (hs : slt s.s s.e = true) : (ansOf (W.filterMap (ffT none none s.s s.e)) (some (pFirst (W.filterMap (ffT none none s.s s.e))))).ok = true := by
  have h1 : cutLo s.s s = s.s := by unfold cutLo; split <;> rfl
  have h2 : cutUp s.e s = s.e := by unfold cutUp; split <;> rfl
  have h3 : ffT none none s.s s.e s = some s := by rw [ffT_plain, h1, h2, if_pos hs]
  rw [hW, List.filterMap_cons, h3]
  simp only [pFirst, List.length_cons]
  rw [if_neg (by omega)]
  simp [ansOf, cur]

theorem c_FnSpanBoundedCut (χ : Chi) (h : Heap) (A : Nat → Prop) (hA : Low A h) (v : Value) (W : List SpanD) (lo up : ByteArray) (hW : RSpans A h v W) :
    Cl Try.prog χ 10 #[v, .string lo, .string up] h (fun r h' => r = .bool true ∧ Keep [] h h') := by
  have hW := RSpans.mono hW hA
  obtain ⟨a, c, rfl⟩ := SlR.form2 hW
  refine cl_intro Try.func10 rfl rfl rfl ?_
  have K : Keep [] h h := Keep.refl _ _
  refine tr_seq ?_
  refine tr_reg ?_
  refine rs_v (v_assign rfl) rfl ?_
  refine rs_nil ?_
  refine q_thn ?_
  refine tr_seq ?_
  refine tr_cut (fun E h' => Keep [] h h' ∧ E = [(0, .slice a W.length c), (1, .string lo), (2, .string up), (6, .bool false), (23, .bool ((!fit4 W) || (decide ((2147483647 : Int) < (lo.size : Int))) || (decide ((2147483647 : Int) < (up.size : Int)))))]) ?_ ?_
  ·
    rcases bsplit3 (!fit4 W) (decide ((2147483647 : Int) < (lo.size : Int))) with g1 | ⟨g1, g2⟩ | ⟨g1, g2⟩
    · skip
      refine tr_reg ?_
      refine rs_v (v_move rfl) rfl ?_
      refine rs_w (w_call (vs := [_]) ok_laws_zzFits4 rfl ⟨rfl, trivial⟩ (c_zzFits4 χ h (All h) (all_low h) _ W hW)) rfl ?_
      rintro _ h1 ⟨rfl, K1⟩
      have K := K.new0 K1; have Z1 := K1.1
      refine rs_v (v_not rfl) rfl ?_
      refine rs_v (v_move rfl) rfl ?_
      refine rs_gs rfl (lkb g1) rfl rfl ?_
      refine rs_gs rfl (lkb g1) rfl rfl ?_
      refine rs_gs rfl (lkb g1) rfl rfl ?_
      refine rs_v (v_pick_t (lkb g1) rfl) rfl ?_
      refine rs_v (v_move rfl) rfl ?_
      refine rs_gs rfl (rfl) rfl rfl ?_
      refine rs_gs rfl (rfl) rfl rfl ?_
      refine rs_gs rfl (rfl) rfl rfl ?_
      refine rs_v (v_pick_t rfl rfl) rfl ?_
      refine rs_nil ?_
      exact q_cut [(0, _), (1, _), (2, _), (6, _), (23, _)] ⟨rfl, rfl, rfl, rfl, rfl, trivial⟩ ⟨K, by rw [show ((!fit4 W) || (decide ((2147483647 : Int) < (lo.size : Int))) || (decide ((2147483647 : Int) < (up.size : Int)))) = (true) from by simp only [g1, Bool.true_or, Bool.false_or]]⟩
    · skip
      refine tr_reg ?_
      refine rs_v (v_move rfl) rfl ?_
      refine rs_w (w_call (vs := [_]) ok_laws_zzFits4 rfl ⟨rfl, trivial⟩ (c_zzFits4 χ h (All h) (all_low h) _ W hW)) rfl ?_
      rintro _ h2 ⟨rfl, K2⟩
      have K := K.new0 K2; have Z2 := K2.1
      refine rs_v (v_not rfl) rfl ?_
      refine rs_v (v_move rfl) rfl ?_
      refine rs_gv rfl (lkb g1) (v_move rfl) rfl ?_
      refine rs_gv rfl (lkb g1) (v_lenStr u_string rfl) rfl ?_
      refine rs_gv rfl (lkb g1) (v_gt rfl rfl) rfl ?_
      refine rs_v (v_pick_f (lkb g1) rfl) rfl ?_
      refine rs_v (v_move rfl) rfl ?_
      refine rs_gs rfl (lkb g2) rfl rfl ?_
      refine rs_gs rfl (lkb g2) rfl rfl ?_
      refine rs_gs rfl (lkb g2) rfl rfl ?_
      refine rs_v (v_pick_t (lkb g2) rfl) rfl ?_
      refine rs_nil ?_
      exact q_cut [(0, _), (1, _), (2, _), (6, _), (23, _)] ⟨rfl, rfl, rfl, rfl, rfl, trivial⟩ ⟨K, by rw [show ((!fit4 W) || (decide ((2147483647 : Int) < (lo.size : Int))) || (decide ((2147483647 : Int) < (up.size : Int)))) = (true) from by simp only [g1, g2, Bool.true_or, Bool.false_or]]⟩
    · skip
      refine tr_reg ?_
      refine rs_v (v_move rfl) rfl ?_
      refine rs_w (w_call (vs := [_]) ok_laws_zzFits4 rfl ⟨rfl, trivial⟩ (c_zzFits4 χ h (All h) (all_low h) _ W hW)) rfl ?_
      rintro _ h3 ⟨rfl, K3⟩
      have K := K.new0 K3; have Z3 := K3.1
      refine rs_v (v_not rfl) rfl ?_
      refine rs_v (v_move rfl) rfl ?_
      refine rs_gv rfl (lkb g1) (v_move rfl) rfl ?_
      refine rs_gv rfl (lkb g1) (v_lenStr u_string rfl) rfl ?_
      refine rs_gv rfl (lkb g1) (v_gt rfl rfl) rfl ?_
      refine rs_v (v_pick_f (lkb g1) rfl) rfl ?_
      refine rs_v (v_move rfl) rfl ?_
      refine rs_gv rfl (lkb g2) (v_move rfl) rfl ?_
      refine rs_gv rfl (lkb g2) (v_lenStr u_string rfl) rfl ?_
      refine rs_gv rfl (lkb g2) (v_gt rfl rfl) rfl ?_
      refine rs_v (v_pick_f (lkb g2) rfl) rfl ?_
      refine rs_nil ?_
      exact q_cut [(0, _), (1, _), (2, _), (6, _), (23, _)] ⟨rfl, rfl, rfl, rfl, rfl, trivial⟩ ⟨K, by rw [show ((!fit4 W) || (decide ((2147483647 : Int) < (lo.size : Int))) || (decide ((2147483647 : Int) < (up.size : Int)))) = (decide ((2147483647 : Int) < (up.size : Int))) from by simp only [g1, g2, Bool.true_or, Bool.false_or]]⟩
  rintro E h99 ⟨K, rfl⟩
  refine tr_if rfl (fun hif => ?_) (fun hif => ?_)
  · -- yes
    skip
    refine tr_seq ?_
    refine tr_reg ?_
    refine rs_v (v_assign rfl) rfl ?_
    refine rs_nil ?_
    refine q_thn ?_
    refine tr_ret ?_
    refine q_thn_ret ?_
    refine q_ret (res_tmp rfl rfl) ?_
    exact ⟨rfl, K⟩
  -- no
  simp only [Bool.or_eq_false_iff, Bool.not_eq_false', decide_eq_false_iff_not] at hif
  obtain ⟨⟨hf4, hlo⟩, hup⟩ := hif
  refine tr_skip ?_
  refine q_thn ?_
  refine tr_seq ?_
  refine tr_cut (fun E h' => Keep [] h h' ∧ E = [(0, .slice a W.length c), (1, .string lo), (2, .string up), (6, .bool false), (40, .bool ((!(mostB W 30 && wellB W)) || (!(sle lo up)) || (seq' up ⟨#[]⟩) || (decide ((W.length : Int) = 0))))]) ?_ ?_
  ·
    rcases bsplit4 (!(mostB W 30 && wellB W)) (!(sle lo up)) (seq' up ⟨#[]⟩) with g1 | ⟨g1, g2⟩ | ⟨g1, g2, g3⟩ | ⟨g1, g2, g3⟩
    · skip
      refine tr_reg ?_
      refine rs_v (v_move rfl) rfl ?_
      refine rs_w (w_call (vs := [_, _]) ok_laws_spanWell rfl ⟨rfl, rfl, trivial⟩ (c_spanWell χ _ _ (all_low _) _ W 30 (RSpans.kk hW K))) rfl ?_
      rintro _ h5 ⟨rfl, K5⟩
      have K := K.new0 K5; have Z5 := K5.1
      refine rs_v (v_not rfl) rfl ?_
      refine rs_v (v_move rfl) rfl ?_
      refine rs_gs rfl (lkb g1) rfl rfl ?_
      refine rs_gs rfl (lkb g1) rfl rfl ?_
      refine rs_gs rfl (lkb g1) rfl rfl ?_
      refine rs_v (v_pick_t (lkb g1) rfl) rfl ?_
      refine rs_v (v_move rfl) rfl ?_
      refine rs_gs rfl (rfl) rfl rfl ?_
      refine rs_gs rfl (rfl) rfl rfl ?_
      refine rs_v (v_pick_t rfl rfl) rfl ?_
      refine rs_v (v_move rfl) rfl ?_
      refine rs_gs rfl (rfl) rfl rfl ?_
      refine rs_gs rfl (rfl) rfl rfl ?_
      refine rs_gs rfl (rfl) rfl rfl ?_
      refine rs_v (v_pick_t rfl rfl) rfl ?_
      refine rs_nil ?_
      exact q_cut [(0, _), (1, _), (2, _), (6, _), (40, _)] ⟨rfl, rfl, rfl, rfl, rfl, trivial⟩ ⟨K, by rw [show ((!(mostB W 30 && wellB W)) || (!(sle lo up)) || (seq' up ⟨#[]⟩) || (decide ((W.length : Int) = 0))) = (true) from by simp only [g1, Bool.true_or, Bool.false_or]]⟩
    · skip
      refine tr_reg ?_
      refine rs_v (v_move rfl) rfl ?_
      refine rs_w (w_call (vs := [_, _]) ok_laws_spanWell rfl ⟨rfl, rfl, trivial⟩ (c_spanWell χ _ _ (all_low _) _ W 30 (RSpans.kk hW K))) rfl ?_
      rintro _ h6 ⟨rfl, K6⟩
      have K := K.new0 K6; have Z6 := K6.1
      refine rs_v (v_not rfl) rfl ?_
      refine rs_v (v_move rfl) rfl ?_
      refine rs_gv rfl (lkb g1) (v_move rfl) rfl ?_
      refine rs_gv rfl (lkb g1) (v_move rfl) rfl ?_
      refine rs_gv rfl (lkb g1) (v_sgt rfl rfl) rfl ?_
      refine rs_v (v_pick_f (lkb g1) rfl) rfl ?_
      refine rs_v (v_move rfl) rfl ?_
      refine rs_gs rfl (lkb g2) rfl rfl ?_
      refine rs_gs rfl (lkb g2) rfl rfl ?_
      refine rs_v (v_pick_t (lkb g2) rfl) rfl ?_
      refine rs_v (v_move rfl) rfl ?_
      refine rs_gs rfl (rfl) rfl rfl ?_
      refine rs_gs rfl (rfl) rfl rfl ?_
      refine rs_gs rfl (rfl) rfl rfl ?_
      refine rs_v (v_pick_t rfl rfl) rfl ?_
      refine rs_nil ?_
      exact q_cut [(0, _), (1, _), (2, _), (6, _), (40, _)] ⟨rfl, rfl, rfl, rfl, rfl, trivial⟩ ⟨K, by rw [show ((!(mostB W 30 && wellB W)) || (!(sle lo up)) || (seq' up ⟨#[]⟩) || (decide ((W.length : Int) = 0))) = (true) from by simp only [g1, g2, Bool.true_or, Bool.false_or]]⟩
    · skip
      refine tr_reg ?_
      refine rs_v (v_move rfl) rfl ?_
      refine rs_w (w_call (vs := [_, _]) ok_laws_spanWell rfl ⟨rfl, rfl, trivial⟩ (c_spanWell χ _ _ (all_low _) _ W 30 (RSpans.kk hW K))) rfl ?_
      rintro _ h7 ⟨rfl, K7⟩
      have K := K.new0 K7; have Z7 := K7.1
      refine rs_v (v_not rfl) rfl ?_
      refine rs_v (v_move rfl) rfl ?_
      refine rs_gv rfl (lkb g1) (v_move rfl) rfl ?_
      refine rs_gv rfl (lkb g1) (v_move rfl) rfl ?_
      refine rs_gv rfl (lkb g1) (v_sgt rfl rfl) rfl ?_
      refine rs_v (v_pick_f (lkb g1) rfl) rfl ?_
      refine rs_v (v_move rfl) rfl ?_
      refine rs_gv rfl (lkb g2) (v_move rfl) rfl ?_
      refine rs_gv rfl (lkb g2) (v_seq rfl rfl) rfl ?_
      refine rs_v (v_pick_f (lkb g2) rfl) rfl ?_
      refine rs_v (v_move rfl) rfl ?_
      refine rs_gs rfl (lkb g3) rfl rfl ?_
      refine rs_gs rfl (lkb g3) rfl rfl ?_
      refine rs_gs rfl (lkb g3) rfl rfl ?_
      refine rs_v (v_pick_t (lkb g3) rfl) rfl ?_
      refine rs_nil ?_
      exact q_cut [(0, _), (1, _), (2, _), (6, _), (40, _)] ⟨rfl, rfl, rfl, rfl, rfl, trivial⟩ ⟨K, by rw [show ((!(mostB W 30 && wellB W)) || (!(sle lo up)) || (seq' up ⟨#[]⟩) || (decide ((W.length : Int) = 0))) = (true) from by simp only [g1, g2, g3, Bool.true_or, Bool.false_or]]⟩
    · skip
      refine tr_reg ?_
      refine rs_v (v_move rfl) rfl ?_
      refine rs_w (w_call (vs := [_, _]) ok_laws_spanWell rfl ⟨rfl, rfl, trivial⟩ (c_spanWell χ _ _ (all_low _) _ W 30 (RSpans.kk hW K))) rfl ?_
      rintro _ h8 ⟨rfl, K8⟩
      have K := K.new0 K8; have Z8 := K8.1
      refine rs_v (v_not rfl) rfl ?_
      refine rs_v (v_move rfl) rfl ?_
      refine rs_gv rfl (lkb g1) (v_move rfl) rfl ?_
      refine rs_gv rfl (lkb g1) (v_move rfl) rfl ?_
      refine rs_gv rfl (lkb g1) (v_sgt rfl rfl) rfl ?_
      refine rs_v (v_pick_f (lkb g1) rfl) rfl ?_
      refine rs_v (v_move rfl) rfl ?_
      refine rs_gv rfl (lkb g2) (v_move rfl) rfl ?_
      refine rs_gv rfl (lkb g2) (v_seq rfl rfl) rfl ?_
      refine rs_v (v_pick_f (lkb g2) rfl) rfl ?_
      refine rs_v (v_move rfl) rfl ?_
      refine rs_gv rfl (lkb g3) (v_move rfl) rfl ?_
      refine rs_gv rfl (lkb g3) (v_len u_sl_spec_Span rfl) rfl ?_
      refine rs_gv rfl (lkb g3) (v_eq rfl rfl) rfl ?_
      refine rs_v (v_pick_f (lkb g3) rfl) rfl ?_
      refine rs_nil ?_
      exact q_cut [(0, _), (1, _), (2, _), (6, _), (40, _)] ⟨rfl, rfl, rfl, rfl, rfl, trivial⟩ ⟨K, by rw [show ((!(mostB W 30 && wellB W)) || (!(sle lo up)) || (seq' up ⟨#[]⟩) || (decide ((W.length : Int) = 0))) = (decide ((W.length : Int) = 0)) from by simp only [g1, g2, g3, Bool.true_or, Bool.false_or]]⟩
  rintro E h99 ⟨K, rfl⟩
  refine tr_if rfl (fun hif => ?_) (fun hif => ?_)
  · -- yes
    skip
    refine tr_seq ?_
    refine tr_reg ?_
    refine rs_v (v_assign rfl) rfl ?_
    refine rs_nil ?_
    refine q_thn ?_
    refine tr_ret ?_
    refine q_thn_ret ?_
    refine q_ret (res_tmp rfl rfl) ?_
    exact ⟨rfl, K⟩
  -- no
  simp only [Bool.or_eq_false_iff, Bool.not_eq_false', decide_eq_false_iff_not] at hif
  obtain ⟨⟨⟨hw, hab⟩, _⟩, hl0⟩ := hif
  obtain ⟨hG, hl30⟩ := good_of (by decide) hf4 hw
  have hord : ordB (some lo) (some up) := fun l u hl hu => by cases hl; cases hu; exact hab
  obtain ⟨i0, i1, hsg⟩ := seg_ex hG.ord hord
  have hGb : Good (W.filter (fun s => LoC (some lo) s && UpC (some up) s)) := hG.filter _ (by rw [seg_filter hsg]; exact ord_seg hG.ord _ _)
  have hT : (W.filterMap (ffT none none lo up)).length ≤ 100000 ∧ ∀ s, s ∈ W.filterMap (ffT none none lo up) → few s := ⟨Nat.le_trans (List.length_filterMap_le _ _) hG.n, fun s hs => (ffT_desc hG s hs).2⟩
  have hl40 := hG.len
  obtain ⟨_, _, _, e9, hx9⟩ := SlR.form hW
  cases e9
  rcases hx9 with e9 | ⟨b0, o0, rfl, _, hR0⟩
  · rw [e9] at hl0; simp at hl0
  obtain ⟨s0, hs0k⟩ := ex_get (L := W) (k := 0) (by omega)
  obtain ⟨kv0, hc0, _⟩ := hR0 0 s0 hs0k
  have hcons : ∃ r, W = s0 :: r := by
    cases W with
    | nil => simp at hs0k
    | cons s r => simp at hs0k; subst hs0k; exact ⟨r, rfl⟩
  obtain ⟨r0, hcons⟩ := hcons
  have hs0m : s0 ∈ W := List.mem_of_getElem? hs0k
  have hs0 : s0.s.size ≤ 9223372036854775807 ∧ s0.e.size ≤ 9223372036854775807 := ⟨(hG.small s0 hs0m).1, (hG.small s0 hs0m).2.1⟩
  have hlt0 := (hG.full s0 hs0m).1
  refine tr_skip ?_
  refine q_thn ?_
  refine tr_seq ?_
  refine tr_reg ?_
  refine rs_v (v_move rfl) rfl ?_
  refine rs_v (v_build2 rfl rfl (bld_impl_Step_0_1 _ _)) rfl ?_
  refine rs_w (w_new1 u_sl_impl_Step siz_impl_Step zero_impl_Step rfl rfl rfl rfl rfl) rfl ?_
  rintro _ h10 ⟨rfl, B10, K10, Z10⟩
  have S10 := K.1; have K := K.new0 K10
  refine rs_w (w_call (vs := [_]) ok_laws_spanForth rfl ⟨rfl, trivial⟩ (c_spanForth χ _ 40 (by decide))) rfl ?_
  rintro fv h11 ⟨⟨hfw, fa, fc, rfl, hfc⟩, K11⟩
  obtain ⟨_, _, _, e9, hfx⟩ := SlR.form hfw
  cases e9
  rcases hfx with hfx | ⟨fb, fo, rfl, _, hfR⟩
  · cases hfx
  obtain ⟨news, hnc, hnr⟩ := RSteps.tail (A := N0) hfR
  have hnl := hnr.len
  have hrl : (List.replicate 40 nextS).length = 40 := rfl
  rw [hrl] at hnl
  have B10 := K11.blk (by simp) B10
  have K := K.new0 K11; have Z11 := K11.1
  refine rs_v (v_slice_l u_sl_impl_Step siz_impl_Step (i := 1) rfl rfl rfl (by omega) (by omega)) rfl ?_
  refine rs_w (w_appN u_sl_impl_Step info_impl_Step rfl rfl rfl (own_new B10 (Nat.le_refl _) rfl) rfl hnl hnc (hnr.all1 fun c k hc => cStep_one _ _ c k hc) (by omega) (by omega) (by omega)) rfl ?_
  rintro v12 h12 ⟨O12, K12, F12⟩
  have K := K.newX K12 (fun x hm => .inr (by simp [Value.ownBlock] at hm; omega)); have Z12 := K12.1
  have hst : RSteps (All h12) h12 v12 (⟨4, lo⟩ :: List.replicate 40 nextS) := SlR.of_rows O12 rfl (RowsR.app (RowsR.snoc (RowsR.nil 2 (cStep N0 h)) (c := [.int .u8 4, .string lo]) (a := ⟨4, lo⟩) rfl rfl) hnr) (fun b _ hb => hb) (fun b o c a hc hr => cStep_r N0 _ b o c a hc hr)
  obtain ⟨_, h0 | ⟨g9, c9, _, rfl, hg9, B10, _⟩⟩ := O12
  · exact absurd h0.2 (by omega)
  have hsm : ∀ s : StepD, s ∈ (⟨4, lo⟩ :: List.replicate 40 nextS : List StepD) → s.key.size ≤ 9223372036854775807 := by
    intro s hs
    simp only [List.mem_cons, List.mem_replicate] at hs
    rcases hs with rfl | ⟨_, rfl⟩
    · show lo.size ≤ _; omega
    · decide
  have hal : ∀ s, s ∈ (⟨4, lo⟩ :: List.replicate 40 nextS : List StepD) → AlB (some lo) (some up) s := by
    intro s hs
    simp only [List.mem_cons, List.mem_replicate] at hs
    rcases hs with rfl | ⟨_, rfl⟩
    · refine ⟨fun h => ?_, fun h => ?_, fun _ => ⟨fun l hl => ?_, fun u hu => ?_⟩⟩
      · cases h
      · cases h
      · cases hl; exact sle_refl _
      · cases hu; exact hab
    · refine ⟨fun h => ?_, fun h => ?_, fun h => ?_⟩
      · cases h
      · cases h
      · rcases h with h | h <;> cases h
  refine rs_v (v_assign rfl) rfl ?_
  refine rs_nil ?_
  refine q_thn ?_
  refine tr_seq ?_
  refine tr_reg ?_
  refine rs_v (v_move rfl) rfl ?_
  refine rs_w (w_call (vs := [_]) ok_laws_toSpans rfl ⟨rfl, trivial⟩ (c_toSpans χ _ _ (all_low _) _ W (RSpans.kk hW K) hG.n hG.few)) rfl ?_
  rintro hPv h13 ⟨hP, K13⟩
  have hP := RSpans.mono hP (upA K13)
  obtain ⟨hPa, hPc, rfl⟩ := SlR.form2 hP
  have B10 := K13.blk (by simp) B10
  have hst := RSteps.kk hst K13
  have K := K.new0 K13; have Z13 := K13.1
  refine rs_v (v_move rfl) rfl ?_
  refine rs_v (v_build2 rfl rfl (bld_bnd _)) rfl ?_
  refine rs_v (v_move rfl) rfl ?_
  refine rs_v (v_build2 rfl rfl (bld_bnd _)) rfl ?_
  refine rs_v (v_move rfl) rfl ?_
  refine rs_w (w_call (vs := [_, _, _, _]) ok_impl_SpanBounded rfl ⟨rfl, rfl, rfl, rfl, trivial⟩ (c_implSpanBounded χ _ _ (all_low _) _ _ W (⟨4, lo⟩ :: List.replicate 40 nextS) ⟨lo, true⟩ ⟨up, true⟩ hP hG.n hG.small hG.ord (by show lo.size ≤ _; omega) (by show up.size ≤ _; omega) hord hst (by simp) hsm hal)) rfl ?_
  rintro hwiv h14 ⟨hwi, K14⟩
  have hwi := RAnss.mono hwi (upN K14)
  obtain ⟨hwia, hwic, rfl⟩ := SlR.form2 hwi
  have B10 := K14.blk (by simp) B10
  have hst := RSteps.kk hst K14
  have hP := RSpans.kk hP K14
  have K := K.new0 K14; have Z14 := K14.1
  refine rs_w (w_call (vs := [_]) ok_laws_spanList rfl ⟨rfl, trivial⟩ (c_spanList χ _ _ (all_low _) _ _ hwi (by rw [walkP_len]; simp))) rfl ?_
  rintro hwlv h15 ⟨hwl, K15⟩
  change RSpans _ _ _ (listOf (walkP (W.filter (fun s => LoC (some lo) s && UpC (some up) s)) .nowhere (⟨4, lo⟩ :: List.replicate 40 nextS))) at hwl
  rw [listOf_ge lo up W 40 (by omega)] at hwl
  have hwl := RSpans.mono hwl (upA K15)
  obtain ⟨hwla, hwlc, rfl⟩ := SlR.form2 hwl
  have B10 := K15.blk (by simp) B10
  have hst := RSteps.kk hst K15
  have hP := RSpans.kk hP K15
  have hwi := RAnss.kk hwi K15
  have K := K.new0 K15; have Z15 := K15.1
  refine rs_v (v_assign rfl) rfl ?_
  refine rs_nil ?_
  refine q_thn ?_
  refine tr_seq ?_
  refine tr_reg ?_
  refine rs_v (v_move rfl) rfl ?_
  refine rs_v (v_move rfl) rfl ?_
  refine rs_v (v_move rfl) rfl ?_
  refine rs_w (w_call (vs := [_]) ok_laws_spanForth rfl ⟨rfl, trivial⟩ (c_spanForth χ _ 40 (by decide))) rfl ?_
  rintro hfov h16 ⟨⟨hfo, _⟩, K16⟩
  have hfo := RSteps.mono hfo (upN K16)
  obtain ⟨hfoa, hfoc, rfl⟩ := SlR.form2 hfo
  have B10 := K16.blk (by simp) B10
  have hst := RSteps.kk hst K16
  have hP := RSpans.kk hP K16
  have hwi := RAnss.kk hwi K16
  have hwl := RSpans.kk hwl K16
  have K := K.new0 K16; have Z16 := K16.1
  refine rs_w (w_call (vs := [_, _, _, _]) ok_impl_SpanTruncated rfl ⟨rfl, rfl, rfl, rfl, trivial⟩ (c_implSpanTruncated χ _ _ (all_low _) _ _ (W.filter (fun s => LoC (some lo) s && UpC (some up) s)) (fwdS 40) lo up hwl hGb.n hGb.small hGb.ne hGb.ord (by omega) (by omega) hfo (by simp [fwdS]) (fwdS_small 40))) rfl ?_
  rintro htrv h17 ⟨htr, K17⟩
  have htr := RAnss.mono htr (upN K17)
  obtain ⟨htra, htrc, rfl⟩ := SlR.form2 htr
  have B10 := K17.blk (by simp) B10
  have hst := RSteps.kk hst K17
  have hP := RSpans.kk hP K17
  have hwi := RAnss.kk hwi K17
  have hwl := RSpans.kk hwl K17
  have hfo := RSteps.kk hfo K17
  have K := K.new0 K17; have Z17 := K17.1
  refine rs_w (w_call (vs := [_]) ok_laws_spanList rfl ⟨rfl, trivial⟩ (c_spanList χ _ _ (all_low _) _ _ htr (by rw [walkP_len]; simp [fwdS]))) rfl ?_
  rintro honev h18 ⟨hone, K18⟩
  rw [listOf_fwd _ 40 (Nat.le_trans (List.length_filterMap_le _ _) (by have := hGb.len; omega)), cut_within] at hone
  have hone := RSpans.mono hone (upA K18)
  obtain ⟨honea, honec, rfl⟩ := SlR.form2 hone
  have B10 := K18.blk (by simp) B10
  have hst := RSteps.kk hst K18
  have hP := RSpans.kk hP K18
  have hwi := RAnss.kk hwi K18
  have hwl := RSpans.kk hwl K18
  have hfo := RSteps.kk hfo K18
  have htr := RAnss.kk htr K18
  have K := K.new0 K18; have Z18 := K18.1
  refine rs_v (v_assign rfl) rfl ?_
  refine rs_nil ?_
  refine q_thn ?_
  refine tr_seq ?_
  refine tr_reg ?_
  refine rs_v (v_move rfl) rfl ?_
  refine rs_w (w_call (vs := [_]) ok_laws_toSpans rfl ⟨rfl, trivial⟩ (c_toSpans χ _ _ (all_low _) _ W (RSpans.kk hW K) hG.n hG.few)) rfl ?_
  rintro hP2v h19 ⟨hP2, K19⟩
  have hP2 := RSpans.mono hP2 (upA K19)
  obtain ⟨hP2a, hP2c, rfl⟩ := SlR.form2 hP2
  have B10 := K19.blk (by simp) B10
  have hst := RSteps.kk hst K19
  have hP := RSpans.kk hP K19
  have hwi := RAnss.kk hwi K19
  have hwl := RSpans.kk hwl K19
  have hfo := RSteps.kk hfo K19
  have htr := RAnss.kk htr K19
  have hone := RSpans.kk hone K19
  have K := K.new0 K19; have Z19 := K19.1
  refine rs_v (v_move rfl) rfl ?_
  refine rs_v (v_move rfl) rfl ?_
  refine rs_w (w_call (vs := [_]) ok_laws_spanForth rfl ⟨rfl, trivial⟩ (c_spanForth χ _ 40 (by decide))) rfl ?_
  rintro hfo2v h20 ⟨⟨hfo2, _⟩, K20⟩
  have hfo2 := RSteps.mono hfo2 (upN K20)
  obtain ⟨hfo2a, hfo2c, rfl⟩ := SlR.form2 hfo2
  have B10 := K20.blk (by simp) B10
  have hst := RSteps.kk hst K20
  have hP := RSpans.kk hP K20
  have hwi := RAnss.kk hwi K20
  have hwl := RSpans.kk hwl K20
  have hfo := RSteps.kk hfo K20
  have htr := RAnss.kk htr K20
  have hone := RSpans.kk hone K20
  have hP2 := RSpans.kk hP2 K20
  have K := K.new0 K20; have Z20 := K20.1
  refine rs_w (w_call (vs := [_, _, _, _]) ok_impl_SpanTruncated rfl ⟨rfl, rfl, rfl, rfl, trivial⟩ (c_implSpanTruncated χ _ _ (all_low _) _ _ W (fwdS 40) lo up hP2 hG.n hG.small hG.ne hG.ord (by omega) (by omega) hfo2 (by simp [fwdS]) (fwdS_small 40))) rfl ?_
  rintro htr2v h21 ⟨htr2, K21⟩
  have htr2 := RAnss.mono htr2 (upN K21)
  obtain ⟨htr2a, htr2c, rfl⟩ := SlR.form2 htr2
  have B10 := K21.blk (by simp) B10
  have hst := RSteps.kk hst K21
  have hP := RSpans.kk hP K21
  have hwi := RAnss.kk hwi K21
  have hwl := RSpans.kk hwl K21
  have hfo := RSteps.kk hfo K21
  have htr := RAnss.kk htr K21
  have hone := RSpans.kk hone K21
  have hP2 := RSpans.kk hP2 K21
  have hfo2 := RSteps.kk hfo2 K21
  have K := K.new0 K21; have Z21 := K21.1
  refine rs_w (w_call (vs := [_]) ok_laws_spanList rfl ⟨rfl, trivial⟩ (c_spanList χ _ _ (all_low _) _ _ htr2 (by rw [walkP_len]; simp [fwdS]))) rfl ?_
  rintro htwov h22 ⟨htwo, K22⟩
  rw [listOf_fwd _ 40 (Nat.le_trans (List.length_filterMap_le _ _) (by omega))] at htwo
  have htwo := RSpans.mono htwo (upA K22)
  obtain ⟨htwoa, htwoc, rfl⟩ := SlR.form2 htwo
  have B10 := K22.blk (by simp) B10
  have hst := RSteps.kk hst K22
  have hP := RSpans.kk hP K22
  have hwi := RAnss.kk hwi K22
  have hwl := RSpans.kk hwl K22
  have hfo := RSteps.kk hfo K22
  have htr := RAnss.kk htr K22
  have hone := RSpans.kk hone K22
  have hP2 := RSpans.kk hP2 K22
  have hfo2 := RSteps.kk hfo2 K22
  have htr2 := RAnss.kk htr2 K22
  have K := K.new0 K22; have Z22 := K22.1
  refine rs_v (v_assign rfl) rfl ?_
  refine rs_nil ?_
  refine q_thn ?_
  refine tr_seq ?_
  refine tr_any (Keep []) (keep_pre _) (by kernel_rfl) (by kernel_rfl) ?_
  refine rm_v (keep_pre _) (fun h' hk => v_move rfl) ?_
  refine rm_v (keep_pre _) (fun h' hk => v_move rfl) ?_
  refine rm_w (fun v h' => RSpans (All h') h' v (W.filterMap (ffT none none lo up))) (fun v _ _ _ k2 hr => RSpans.kk hr k2) (fun h' hk => OpW.mono (w_call (vs := [_]) ok_laws_ofSpans rfl ⟨rfl, trivial⟩ (c_ofSpans χ h' _ (all_low _) _ _ (RSpans.kk htwo hk) hT.1 hT.2)) (fun v h'' hv => ⟨hv.2, RSpans.mono hv.1 (upA hv.2)⟩)) ?_
  refine rm_mk (.val (.bool true)) (fun _ _ _ _ _ h => h) (fun h' hk => om_open 71 rfl (by kernel_rfl) fun u hu => om_w (by simp) rfl (OpW.mono (w_call (vs := [_, _]) ok_laws_spanLike rfl ⟨rfl, rfl, trivial⟩ (c_spanLike χ h' _ _ (all_low _) (all_low _) _ _ _ _ (RSpans.kk hone hk) hu hT.1 hT.1 hT.2 hT.2 (Like.refl (fun s hs => (ffT_desc hG s hs).1)))) (fun v h'' hv => ⟨hv.2, hv.1⟩))) ?_
  refine rm_v (keep_pre _) (fun h' hk => v_move rfl) ?_
  refine rm_gv (keep_pre _) rfl rfl (fun h' hk => v_move rfl) ?_
  refine rm_mk (.loose (fun v h' => RSpans (All h') h' v W)) (fun v _ _ _ k2 hr => RSpans.kk hr k2) (fun h' hk => om_gt (by simp) rfl rfl rfl (OpW.mono (w_call (vs := [_]) ok_laws_toSpans rfl ⟨rfl, trivial⟩ (c_toSpans χ h' _ (all_low _) _ W (RSpans.kk hW (K.new0 hk)) hG.n hG.few)) (fun v h'' hv => ⟨hv.2, RSpans.mono hv.1 (upA hv.2)⟩))) ?_
  refine rm_gv (keep_pre _) rfl rfl (fun h' hk => v_move rfl) ?_
  refine rm_gv (keep_pre _) rfl rfl (fun h' hk => v_indexAddrE (i := 0) u_sl_spec_Span siz_spec_Span rfl rfl rfl (by omega)) ?_
  refine rm_gv (keep_pre _) rfl rfl (fun h' hk => v_fieldAddr fa_spec_Span_0 rfl) ?_
  refine rm_gv (keep_pre _) rfl rfl (fun h' hk => v_load one_string rfl ((K.new0 hk).cell (by simp) (hc0.at 0 rfl))) ?_
  refine rm_gv (keep_pre _) rfl rfl (fun h' hk => v_move rfl) ?_
  refine rm_gv (keep_pre _) rfl rfl (fun h' hk => v_indexAddrE (i := 0) u_sl_spec_Span siz_spec_Span rfl rfl rfl (by omega)) ?_
  refine rm_gv (keep_pre _) rfl rfl (fun h' hk => v_fieldAddr fa_spec_Span_1 rfl) ?_
  refine rm_gv (keep_pre _) rfl rfl (fun h' hk => v_load one_string rfl ((K.new0 hk).cell (by simp) (hc0.at 1 rfl))) ?_
  refine rm_mk (.loose (fun v h' => RSteps (All h') h' v startS)) (fun v _ _ _ k2 hr => RSteps.kk hr k2) (fun h' hk => om_gt (by simp) rfl rfl rfl (OpW.mono (w_call (vs := []) ok_laws_spanStart rfl trivial (c_spanStart χ h')) (fun v h'' hv => ⟨hv.2, RSteps.mono hv.1 (upN hv.2)⟩))) ?_
  refine rm_mk (.loose (fun v h' => RAnss (All h') h' v [ansOf (W.filterMap (ffT none none s0.s s0.e)) (some (pFirst (W.filterMap (ffT none none s0.s s0.e))))])) (fun v _ _ _ k2 hr => RAnss.kk hr k2) (fun h' hk => om_open 75 rfl (by kernel_rfl) fun u hu => om_open 84 rfl (by kernel_rfl) fun u2 hu2 => om_gt (by simp) rfl rfl rfl (OpW.mono (w_call (vs := [_, _, _, _]) ok_impl_SpanTruncated rfl ⟨rfl, rfl, rfl, rfl, trivial⟩ (c_implSpanTruncated χ h' _ (all_low _) _ _ W startS s0.s s0.e hu hG.n hG.small hG.ne hG.ord hs0.1 hs0.2 hu2 (by decide) start_small)) (fun v h'' hv => ⟨hv.2, RAnss.mono hv.1 (upN hv.2)⟩))) ?_
  refine rm_mk (.val (.bool true)) (fun _ _ _ _ _ h => h) (fun h' hk => om_open 85 rfl (by kernel_rfl) fun u hu => om_gt (by simp) rfl rfl rfl (OpW.mono (w_call (vs := [_]) ok_laws_spanFound rfl ⟨rfl, trivial⟩ (c_spanFound χ h' _ _ _ hu)) (fun v h'' hv => ⟨hv.2, by rw [hv.1, first_found hcons hlt0]; rfl⟩))) ?_
  refine rm_v (keep_pre _) (fun h' hk => v_pick_t rfl rfl) ?_
  refine rm_v (keep_pre _) (fun h' hk => v_assign rfl) ?_
  refine rm_end ?_; intro h23 K23; simp only [endM, hypF, ofE, argE, List.nil_append]
  intro v85 _ v84 _ v75 _ v71 _
  have K := K.new0 K23
  refine q_thn ?_
  refine tr_ret ?_
  refine q_ret (res_tmp rfl rfl) ?_
  exact ⟨rfl, K⟩
end Go.Proofs.Ytgebfbnndgjkiaa

/- Forty-seventh part: prefixes; the iterator within bounds in prefix mode: its checks. Conditions: those that each theorem names. -/
namespace Go.Proofs.Ytgebfbnndgjkiaa
open Go.Tess Go.RowKit
set_option maxRecDepth 100000
set_option maxHeartbeats 1000000
/-- What stands ahead of the first zero. -/
def zl : List UInt8 → List UInt8
  | [] => []
  | c :: r => if c = 0 then [] else c :: zl r
theorem zl_get : ∀ (l : List UInt8) (i : Nat) x, (zl l)[i]? = some x → l[i]? = some x
  | [], i, x, h => by simp [zl] at h
  | c :: r, i, x, h => by
    unfold zl at h
    split at h
    · simp at h
    · cases i with
      | zero => simpa using h
      | succ i => simpa using zl_get r i x (by simpa using h)
theorem zl_le : ∀ (l : List UInt8), (zl l).length ≤ l.length
  | [] => by simp [zl]
  | c :: r => by
    unfold zl
    split
    · simp
    · simpa using zl_le r
theorem zl_stop : ∀ (l : List UInt8) (k : Nat), l[k]? = some 0 → k ≤ (zl l).length → (zl l).length = k
  | [], k, h, _ => by simp at h
  | c :: r, 0, h, _ => by
    have e : c = 0 := by simpa using h
    simp [zl, e]
  | c :: r, k + 1, h, hk => by
    unfold zl at hk ⊢
    split
    · next e => rw [if_pos e] at hk; simp at hk
    · next e =>
      rw [if_neg e] at hk
      simpa using zl_stop r k (by simpa using h) (by simpa using hk)
theorem zl_next : ∀ (l : List UInt8) (k : Nat) c, l[k]? = some c → c ≠ 0 → k ≤ (zl l).length → k + 1 ≤ (zl l).length
  | [], k, c, h, _, _ => by simp at h
  | d :: r, 0, c, h, hc, _ => by
    have e : d = c := by simpa using h
    subst e
    simp [zl, hc]
  | d :: r, k + 1, c, h, hc, hk => by
    unfold zl at hk ⊢
    split
    · next e => rw [if_pos e] at hk; simp at hk
    · next e =>
      rw [if_neg e] at hk
      simpa using zl_next r k c (by simpa using h) hc (by simpa using hk)
def zB (s : ByteArray) : ByteArray := ⟨(zl s.data.toList).toArray⟩
def zi (s : ByteArray) : Nat := (zl s.data.toList).length
theorem zi_le (s : ByteArray) : zi s ≤ s.data.toList.length := zl_le _
theorem RBytes.cut {A : Nat → Prop} {h : Heap} {a : Option Addr} {n c : Nat} {s : ByteArray} (hr : RBytes A h (.slice a n c) s) : RBytes A h (.slice a (zi s) c) (zB s) := by
  obtain ⟨hl, a', c', e, hx⟩ := hr
  cases e
  exact ⟨Nat.le_trans (zi_le s) hl, a, c, rfl, fun i x hi => by
    obtain ⟨b, o, e1, e2, e3⟩ := hx i x (zl_get _ i x hi)
    exact ⟨b, o, e1, ⟨e2.1, fun a n k e => by cases e; exact Nat.le_trans (zi_le s) (e2.2 _ _ _ rfl)⟩, e3⟩⟩
theorem RBytes.form4 {A : Nat → Prop} {h : Heap} {v : Value} {s : ByteArray} (hr : RBytes A h v s) : s.data.toList.length ≤ 9223372036854775807 ∧ ∃ a c, v = .slice a s.data.toList.length c := by
  obtain ⟨hl, a, c, e, _⟩ := hr; exact ⟨hl, a, c, e⟩
/-- Without zero bytes. -/
def noZ (s : ByteArray) : Prop := ∀ c, c ∈ s.data.toList → c ≠ 0
def pre1 (P : ByteArray) : ByteArray := P ++ ⟨#[1]⟩
theorem cmp_pre : ∀ (P s : List UInt8), (∀ c, c ∈ P → c ≠ 0) → decide (0 < Lib.compareBytes (zl s) P) = !decide (Lib.compareBytes s (P ++ [1]) < 0)
  | [], [], _ => by simp [zl, Lib.compareBytes]
  | [], c :: r, _ => by
    unfold zl
    by_cases h : c = 0
    · subst h; simp [Lib.compareBytes]
    · rw [if_neg h]
      have h1 : ¬ c < 1 := by
        intro hc
        apply h
        apply UInt8.toNat_inj.1
        have := UInt8.lt_iff_toNat_lt.1 hc
        simp at this
        simpa using this
      simp only [Lib.compareBytes, List.nil_append]
      simp only [h1, if_false]
      by_cases h2 : 1 < c
      · simp [h2]
      · simp only [h2, if_false]
        cases r <;> simp [Lib.compareBytes]
  | p :: P, [], hP => by simp [zl, Lib.compareBytes]
  | p :: P, c :: r, hP => by
    have hp : p ≠ 0 := hP p (by simp)
    unfold zl
    by_cases h : c = 0
    · subst h
      have h1 : (0 : UInt8) < p := by
        apply UInt8.lt_iff_toNat_lt.2
        have : p.toNat ≠ 0 := fun e => hp (UInt8.toNat_inj.1 (by simpa using e))
        simp; omega
      simp [Lib.compareBytes, h1]
    · rw [if_neg h]
      simp only [Lib.compareBytes, List.cons_append]
      by_cases h1 : c < p
      · simp [h1]
      · simp only [h1, if_false]
        by_cases h2 : p < c
        · simp [h2]
        · simp only [h2, if_false]
          exact cmp_pre P r fun d hd => hP d (by simp [hd])
theorem pre_start (P s : ByteArray) (hP : noZ P) : decide (0 < cmpB (zB s) P) = !(slt s (pre1 P)) := by
  rw [slt_cmp]
  have := cmp_pre P.data.toList s.data.toList hP
  have e : (pre1 P).data.toList = P.data.toList ++ [1] := by simp [pre1, ByteArray.data_append]
  unfold cmpB; rw [e]; exact this
/-- The prefix mode's boxes. -/
def PreE (G : Nat → Prop) (h : Heap) (hp pp : Value) (P : ByteArray) : Prop :=
  ∃ hb pb pv, hp = .pointer (some ⟨hb, 0, none⟩) ∧ pp = .pointer (some ⟨pb, 0, none⟩) ∧ G hb ∧ G pb ∧ cellH h hb 0 = some (.bool true) ∧ cellH h pb 0 = some pv ∧ RBytes G h pv P
theorem PreE.stab {G : Nat → Prop} {h h' : Heap} {hp pp : Value} {P : ByteArray} (hr : PreE G h hp pp P) (s : Stab G h h') : PreE G h' hp pp P := by
  obtain ⟨hb, pb, pv, e1, e2, g1, g2, c1, c2, r⟩ := hr
  refine ⟨hb, pb, pv, e1, e2, g1, g2, ?_, ?_, r.stab s⟩
  · unfold cellH at *; rw [s hb g1]; exact c1
  · unfold cellH at *; rw [s pb g2]; exact c2
theorem PreE.mono {G G' : Nat → Prop} {h : Heap} {hp pp : Value} {P : ByteArray} (hr : PreE G h hp pp P) (s : ∀ b, G b → G' b) : PreE G' h hp pp P := by
  obtain ⟨hb, pb, pv, e1, e2, g1, g2, c1, c2, r⟩ := hr
  exact ⟨hb, pb, pv, e1, e2, s _ g1, s _ g2, c1, c2, r.mono s⟩
abbrev splF : Value := .func (.func 63) #[] #[]

theorem c_splitZero (χ : Chi) (h : Heap) (G : Nat → Prop) (v : Value) (s : ByteArray) (hs : RBytes G h v s) :
    Cl Try.prog χ 63 #[v] h (fun r h' => r = .int .i64 (zi s : Int) ∧ h' = h) := by
  obtain ⟨hl, a, c, rfl, hx⟩ := hs
  refine cl_intro Try.func63 rfl rfl rfl ?_
  have K : Keep [] h h := Keep.refl _ _
  refine tr_seq ?_
  refine tr_reg ?_
  refine rs_v (v_assign rfl) rfl ?_
  refine rs_nil ?_
  refine q_thn ?_
  refine tr_seq ?_
  refine tr_seq ?_
  refine tr_reg ?_
  refine rs_v (v_move rfl) rfl ?_
  refine rs_v (v_len u_sl_uint8 rfl) rfl ?_
  refine rs_v (v_move rfl) rfl ?_
  refine rs_nil ?_
  refine q_thn ?_
  refine tr_block ?_
  refine tr_loop (fun m E h' => ∃ k, k ≤ s.data.toList.length ∧ k ≤ zi s ∧ m = s.data.toList.length - k ∧ E = [(0, .slice a s.data.toList.length c), (5, .slice a s.data.toList.length c), (6, .int .i64 (s.data.toList.length : Int)), (7, .int .i64 (k : Int))] ∧ h = h') s.data.toList.length [(0, _), (5, _), (6, _), (7, _)] ⟨rfl, rfl, rfl, rfl, trivial⟩ ⟨0, Nat.zero_le _, Nat.zero_le _, rfl, rfl, rfl⟩ ?_
  rintro m E hL1 ⟨k, hk, hkz, rfl, rfl, hh⟩
  subst hh
  refine tr_seq ?_
  refine tr_reg ?_
  refine rs_v (v_lt rfl rfl) rfl ?_
  refine rs_nil ?_
  refine q_thn ?_
  refine tr_seq ?_
  refine tr_ifn rfl (fun hif => ?_) (fun hif => ?_)
  · -- no
    simp only [decide_eq_true_eq, decide_eq_false_iff_not] at hif
    have hkk : k = s.data.toList.length := by omega
    subst hkk
    refine tr_exit ?_
    refine q_thn_exit ?_
    refine q_lp_exit ?_
    refine q_blk_hit ?_
    refine q_thn ?_
    refine tr_seq ?_
    refine tr_reg ?_
    refine rs_v (v_move rfl) rfl ?_
    refine rs_v (v_len u_sl_uint8 rfl) rfl ?_
    refine rs_v (v_assign rfl) rfl ?_
    refine rs_nil ?_
    refine q_thn ?_
    refine tr_ret ?_
    refine q_ret (res_tmp rfl rfl) ?_
    have := zi_le s
    exact ⟨by rw [show zi s = s.data.toList.length from by omega], rfl⟩
  -- yes
  simp only [decide_eq_true_eq, decide_eq_false_iff_not] at hif
  obtain ⟨x, hsk⟩ := ex_get (L := s.data.toList) (k := k) (by omega)
  have hkl : k < s.data.toList.length := (List.getElem?_eq_some_iff.1 hsk).1
  obtain ⟨b, o, rfl, hGb, hcell⟩ := hx k x hsk
  refine tr_skip ?_
  refine q_thn ?_
  refine tr_seq ?_
  refine tr_block ?_
  refine tr_seq ?_
  refine tr_reg ?_
  refine rs_v (v_move rfl) rfl ?_
  refine rs_v (v_indexAddrN u_sl_uint8 siz_uint8 rfl rfl (by omega)) rfl ?_
  refine rs_v (v_load one_uint8 rfl (by exact hcell)) rfl ?_
  refine rs_v (v_assign rfl) rfl ?_
  refine rs_v (v_assign rfl) rfl ?_
  refine rs_nil ?_
  refine q_thn ?_
  refine tr_seq ?_
  refine tr_reg ?_
  refine rs_v (v_move rfl) rfl ?_
  refine rs_v (v_eq rfl rfl) rfl ?_
  refine rs_nil ?_
  refine q_thn ?_
  refine tr_if rfl (fun hif => ?_) (fun hif => ?_)
  · -- yes
    simp only [decide_eq_true_eq, decide_eq_false_iff_not] at hif
    refine tr_seq ?_
    refine tr_reg ?_
    refine rs_v (v_move rfl) rfl ?_
    refine rs_v (v_assign rfl) rfl ?_
    refine rs_nil ?_
    refine q_thn ?_
    refine tr_ret ?_
    refine q_blk_ret ?_
    refine q_thn_ret ?_
    refine q_lp_ret ?_
    refine q_blk_ret ?_
    refine q_thn_ret ?_
    refine q_ret (res_tmp rfl rfl) ?_
    have hx0 : x = 0 := by apply UInt8.toNat_inj.1; simpa using hif
    subst hx0
    exact ⟨by rw [show zi s = k from zl_stop _ k hsk hkz], rfl⟩
  -- no
  simp only [decide_eq_true_eq, decide_eq_false_iff_not] at hif
  refine tr_skip ?_
  refine q_blk_n ?_
  refine q_thn ?_
  refine tr_reg ?_
  refine rs_v (v_add rfl rfl (by omega) (by omega)) rfl ?_
  refine rs_v (v_move rfl) rfl ?_
  refine rs_nil ?_
  have hne : x ≠ 0 := fun e => hif (by rw [e]; rfl)
  exact q_lp (s.data.toList.length - (k + 1)) [(0, _), (5, _), (6, _), (7, _)] (by omega) ⟨rfl, rfl, rfl, rfl, trivial⟩ ⟨k + 1, by omega, zl_next _ k x hsk hne hkz, rfl, rfl, rfl⟩
theorem c_checkPrefixSpanStart_none (χ : Chi) (h : Heap) (c : Nat) (t : TypeId) (v0 : Value) (sp : Option Addr) (spl lov upv hp pp : Value) (pos : Int) (Bc : Blk h c (biL t v0 sp spl lov upv hp pp pos) bT) :
    Cl Try.prog χ 135 #[.pointer (some ⟨c, 0, none⟩), .pointer none] h (fun r h' => r = .pointer none ∧ h' = h) := by
  unfold biL at Bc
  refine cl_intro Try.func135 rfl rfl rfl ?_
  have K : Keep [c] h h := Keep.refl _ _
  refine tr_seq ?_
  refine tr_reg ?_
  refine rs_v (v_assign rfl) rfl ?_
  refine rs_nil ?_
  refine q_thn ?_
  refine tr_seq ?_
  refine tr_seq ?_
  refine tr_reg ?_
  refine rs_v (v_move rfl) rfl ?_
  refine rs_v (v_pne u_p_keyspan_Span rfl rfl) rfl ?_
  refine rs_v (v_move rfl) rfl ?_
  refine rs_gs rfl rfl rfl rfl ?_
  refine rs_gs rfl rfl rfl rfl ?_
  refine rs_gs rfl rfl rfl rfl ?_
  refine rs_gs rfl rfl rfl rfl ?_
  refine rs_gs rfl rfl rfl rfl ?_
  refine rs_v (v_pick_f rfl rfl) rfl ?_
  refine rs_v (v_move rfl) rfl ?_
  refine rs_gs rfl rfl rfl rfl ?_
  refine rs_gs rfl rfl rfl rfl ?_
  refine rs_gs rfl rfl rfl rfl ?_
  refine rs_gs rfl rfl rfl rfl ?_
  refine rs_gs rfl rfl rfl rfl ?_
  refine rs_gs rfl rfl rfl rfl ?_
  refine rs_v (v_pick_f rfl rfl) rfl ?_
  refine rs_nil ?_
  refine q_thn ?_
  refine tr_if_f rfl ?_
  refine tr_skip ?_
  refine q_thn ?_
  refine tr_seq ?_
  refine tr_reg ?_
  refine rs_v (v_move rfl) rfl ?_
  refine rs_v (v_assign rfl) rfl ?_
  refine rs_nil ?_
  refine q_thn ?_
  refine tr_ret ?_
  refine q_ret (res_tmp rfl rfl) ?_
  exact ⟨rfl, rfl⟩
theorem c_checkPrefixSpanEnd_none (χ : Chi) (h : Heap) (c : Nat) (t : TypeId) (v0 : Value) (sp : Option Addr) (spl lov upv hp pp : Value) (pos : Int) (Bc : Blk h c (biL t v0 sp spl lov upv hp pp pos) bT) :
    Cl Try.prog χ 137 #[.pointer (some ⟨c, 0, none⟩), .pointer none] h (fun r h' => r = .pointer none ∧ h' = h) := by
  unfold biL at Bc
  refine cl_intro Try.func137 rfl rfl rfl ?_
  have K : Keep [c] h h := Keep.refl _ _
  refine tr_seq ?_
  refine tr_reg ?_
  refine rs_v (v_assign rfl) rfl ?_
  refine rs_nil ?_
  refine q_thn ?_
  refine tr_seq ?_
  refine tr_seq ?_
  refine tr_quiet (by kernel_rfl) (by kernel_rfl) ?_
  refine rq_v (v_move rfl) ?_
  refine rq_v (v_pne u_p_keyspan_Span rfl rfl) ?_
  refine rq_v (v_move rfl) ?_
  refine rm_gs same_pre rfl rfl rfl ?_
  refine rm_gs same_pre rfl rfl rfl ?_
  refine rm_gs same_pre rfl rfl rfl ?_
  refine rm_gs same_pre rfl rfl rfl ?_
  refine rm_gs same_pre rfl rfl rfl ?_
  refine rq_v (v_pick_f rfl rfl) ?_
  refine rq_v (v_move rfl) ?_
  refine rm_gs same_pre rfl rfl rfl ?_
  refine rm_gs same_pre rfl rfl rfl ?_
  refine rm_gs same_pre rfl rfl rfl ?_
  refine rm_gs same_pre rfl rfl rfl ?_
  refine rm_gs same_pre rfl rfl rfl ?_
  refine rm_gs same_pre rfl rfl rfl ?_
  refine rq_v (v_pick_f rfl rfl) ?_
  refine rq_v (v_move rfl) ?_
  refine rm_gs same_pre rfl rfl rfl ?_
  refine rm_gs same_pre rfl rfl rfl ?_
  refine rm_gs same_pre rfl rfl rfl ?_
  refine rm_gs same_pre rfl rfl rfl ?_
  refine rm_gs same_pre rfl rfl rfl ?_
  refine rm_gs same_pre rfl rfl rfl ?_
  refine rm_gs same_pre rfl rfl rfl ?_
  refine rm_gs same_pre rfl rfl rfl ?_
  refine rm_gs same_pre rfl rfl rfl ?_
  refine rm_gs same_pre rfl rfl rfl ?_
  refine rm_gs same_pre rfl rfl rfl ?_
  refine rm_gs same_pre rfl rfl rfl ?_
  refine rm_gs same_pre rfl rfl rfl ?_
  refine rm_gs same_pre rfl rfl rfl ?_
  refine rm_gs same_pre rfl rfl rfl ?_
  refine rm_gs same_pre rfl rfl rfl ?_
  refine rq_v (v_pick_f rfl rfl) ?_
  refine rm_end ?_; simp only [endM, hypF, ofE, argE]
  refine q_thn ?_
  refine tr_if_f rfl ?_
  refine tr_skip ?_
  refine q_thn ?_
  refine tr_seq ?_
  refine tr_reg ?_
  refine rs_v (v_move rfl) rfl ?_
  refine rs_v (v_assign rfl) rfl ?_
  refine rs_nil ?_
  refine q_thn ?_
  refine tr_ret ?_
  refine q_ret (res_tmp rfl rfl) ?_
  exact ⟨rfl, rfl⟩
theorem c_checkPrefixSpanStart_some (χ : Chi) (h : Heap) (c : Nat) (t : TypeId) (v0 : Value) (sp : Option Addr) (lov upv hp pp : Value) (pos : Int) (P : ByteArray) (G Fin : Nat → Prop) (b o : Nat) (s : SpanD)
    (Bc : Blk h c (biL t v0 sp splF lov upv hp pp pos) bT) (hP : noZ P) (hPre : PreE G h hp pp P) (hx : PSpan Fin h b o s) :
    Cl Try.prog χ 135 #[.pointer (some ⟨c, 0, none⟩), .pointer (some ⟨b, o, none⟩)] h (fun r h' => r = .pointer (if UpC (some (pre1 P)) s then some ⟨b, o, none⟩ else none) ∧ h' = h) := by
  unfold biL at Bc
  obtain ⟨hb, pb, pv, rfl, rfl, gb1, gb2, cb1, cb2, hpv⟩ := hPre
  obtain ⟨sv9, ev9, kv9, kk9, hcell, g1, g2, g3⟩ := hx
  obtain ⟨hl1, a1, c1, rfl⟩ := RBytes.form4 g1
  refine cl_intro Try.func135 rfl rfl rfl ?_
  have K : Keep [c] h h := Keep.refl _ _
  refine tr_seq ?_
  refine tr_reg ?_
  refine rs_v (v_assign rfl) rfl ?_
  refine rs_nil ?_
  refine q_thn ?_
  refine tr_seq ?_
  refine tr_seq ?_
  refine tr_reg ?_
  refine rs_v (v_move rfl) rfl ?_
  refine rs_v (v_pne u_p_keyspan_Span rfl rfl) rfl ?_
  refine rs_v (v_move rfl) rfl ?_
  refine rs_gv rfl rfl (v_move rfl) rfl ?_
  refine rs_gv rfl rfl (v_nilCheck_ptr rfl) rfl ?_
  refine rs_gv rfl rfl (v_fieldAddr fa_keyspan_BoundedIter_6 rfl) rfl ?_
  refine rs_gv rfl rfl (v_load one_p_bool rfl (by exact Bc.cell _ rfl)) rfl ?_
  refine rs_gv rfl rfl (v_pne u_p_bool rfl rfl) rfl ?_
  refine rs_v (v_pick_t rfl rfl) rfl ?_
  refine rs_v (v_move rfl) rfl ?_
  refine rs_gv rfl rfl (v_move rfl) rfl ?_
  refine rs_gv rfl rfl (v_nilCheck_ptr rfl) rfl ?_
  refine rs_gv rfl rfl (v_fieldAddr fa_keyspan_BoundedIter_6 rfl) rfl ?_
  refine rs_gv rfl rfl (v_load one_p_bool rfl (by exact Bc.cell _ rfl)) rfl ?_
  refine rs_gv rfl rfl (v_nilCheck_ptr rfl) rfl ?_
  refine rs_gv rfl rfl (v_load one_bool rfl (by exact cb1)) rfl ?_
  refine rs_v (v_pick_t rfl rfl) rfl ?_
  refine rs_nil ?_
  refine q_thn ?_
  refine tr_if_t rfl ?_
  refine tr_seq ?_
  refine tr_quiet (by kernel_rfl) (by kernel_rfl) ?_
  refine rq_v (v_move rfl) ?_
  refine rq_v (v_nilCheck_ptr rfl) ?_
  refine rq_v (v_fieldAddr fa_keyspan_BoundedIter_3 rfl) ?_
  refine rq_v (v_load one_base_Split rfl (by exact Bc.cell _ rfl)) ?_
  refine rq_v (v_move rfl) ?_
  refine rq_v (v_nilCheck_ptr rfl) ?_
  refine rq_v (v_fieldAddr fa_keyspan_Span_0 rfl) ?_
  refine rq_v (v_load one_sl_uint8 rfl (by exact hcell.at 0 rfl)) ?_
  refine rq_w (w_callv (first := []) (cap := []) (vs := [_]) ok_impl_splitZero rfl ⟨rfl, trivial⟩ (c_splitZero χ _ _ _ s.s g1)) ?_
  refine rq_v (v_assign rfl) ?_
  refine rm_end ?_; simp only [endM, hypF, ofE, argE]
  refine q_thn ?_
  refine tr_seq ?_
  refine tr_quiet (by kernel_rfl) (by kernel_rfl) ?_
  refine rq_v (v_move rfl) ?_
  refine rq_v (v_nilCheck_ptr rfl) ?_
  refine rq_v (v_fieldAddr fa_keyspan_BoundedIter_2 rfl) ?_
  refine rq_v (v_load one_base_Compare rfl (by exact Bc.cell _ rfl)) ?_
  refine rq_v (v_move rfl) ?_
  refine rq_v (v_nilCheck_ptr rfl) ?_
  refine rq_v (v_fieldAddr fa_keyspan_Span_0 rfl) ?_
  refine rq_v (v_load one_sl_uint8 rfl (by exact hcell.at 0 rfl)) ?_
  refine rq_v (v_move rfl) ?_
  refine rq_v (v_slice_h u_sl_uint8 siz_uint8 rfl rfl rfl (by have := RBytes.cap g1; have := zi_le s.s; omega)) ?_
  refine rq_v (v_move rfl) ?_
  refine rq_v (v_nilCheck_ptr rfl) ?_
  refine rq_v (v_fieldAddr fa_keyspan_BoundedIter_7 rfl) ?_
  refine rq_v (v_load one_p_sl_uint8 rfl (by exact Bc.cell _ rfl)) ?_
  refine rq_v (v_nilCheck_ptr rfl) ?_
  refine rq_v (v_load one_sl_uint8 rfl (by exact cb2)) ?_
  refine rq_w (w_callv (first := []) (cap := []) (vs := [_, _]) ok_bytes_Compare rfl ⟨rfl, rfl, trivial⟩ (c_Compare χ _ _ _ (zB s.s) P (RBytes.by (RBytes.cut g1)) (RBytes.by hpv))) ?_
  refine rq_v (v_gt rfl rfl) ?_
  refine rm_end ?_; simp only [endM, hypF, ofE, argE]
  refine q_thn ?_
  refine tr_if rfl (fun hif => ?_) (fun hif => ?_)
  · -- yes
    skip
    refine tr_reg ?_
    refine rs_v (v_assign rfl) rfl ?_
    refine rs_nil ?_
    refine q_thn ?_
    refine tr_seq ?_
    refine tr_reg ?_
    refine rs_v (v_move rfl) rfl ?_
    refine rs_v (v_assign rfl) rfl ?_
    refine rs_nil ?_
    refine q_thn ?_
    refine tr_ret ?_
    refine q_ret (res_tmp rfl rfl) ?_
    have hq : UpC (some (pre1 P)) s = false := by have h9 := pre_start P s.s hP; rw [hif] at h9; simpa [UpC] using h9.symm
    exact ⟨by rw [if_neg (by rw [hq]; decide)], rfl⟩
  -- no
  skip
  refine tr_skip ?_
  refine q_thn ?_
  refine tr_seq ?_
  refine tr_reg ?_
  refine rs_v (v_move rfl) rfl ?_
  refine rs_v (v_assign rfl) rfl ?_
  refine rs_nil ?_
  refine q_thn ?_
  refine tr_ret ?_
  refine q_ret (res_tmp rfl rfl) ?_
  have hq : UpC (some (pre1 P)) s = true := by have h9 := pre_start P s.s hP; rw [hif] at h9; simpa [UpC] using h9.symm
  exact ⟨by rw [if_pos hq], rfl⟩
theorem c_checkPrefixSpanEnd_some (χ : Chi) (h : Heap) (c : Nat) (t : TypeId) (v0 : Value) (sp : Option Addr) (lov upv hp pp : Value) (pos : Int) (P : ByteArray) (G Fin : Nat → Prop) (b o : Nat) (s : SpanD)
    (Bc : Blk h c (biL t v0 sp splF lov upv hp pp pos) bT) (hP : noZ P) (hPre : PreE G h hp pp P) (hx : PSpan Fin h b o s) :
    Cl Try.prog χ 137 #[.pointer (some ⟨c, 0, none⟩), .pointer (some ⟨b, o, none⟩)] h (fun r h' => r = .pointer (if LoC (some P) s then some ⟨b, o, none⟩ else none) ∧ h' = h) := by
  unfold biL at Bc
  obtain ⟨hb, pb, pv, rfl, rfl, gb1, gb2, cb1, cb2, hpv⟩ := hPre
  obtain ⟨sv9, ev9, kv9, kk9, hcell, g1, g2, g3⟩ := hx
  obtain ⟨hl1, a1, c1, rfl⟩ := RBytes.form4 g1
  refine cl_intro Try.func137 rfl rfl rfl ?_
  have K : Keep [c] h h := Keep.refl _ _
  refine tr_seq ?_
  refine tr_reg ?_
  refine rs_v (v_assign rfl) rfl ?_
  refine rs_nil ?_
  refine q_thn ?_
  refine tr_seq ?_
  refine tr_seq ?_
  refine tr_quiet (by kernel_rfl) (by kernel_rfl) ?_
  refine rq_v (v_move rfl) ?_
  refine rq_v (v_pne u_p_keyspan_Span rfl rfl) ?_
  refine rq_v (v_move rfl) ?_
  refine rq_gv rfl rfl (v_move rfl) ?_
  refine rq_gv rfl rfl (v_nilCheck_ptr rfl) ?_
  refine rq_gv rfl rfl (v_fieldAddr fa_keyspan_BoundedIter_6 rfl) ?_
  refine rq_gv rfl rfl (v_load one_p_bool rfl (by exact Bc.cell _ rfl)) ?_
  refine rq_gv rfl rfl (v_pne u_p_bool rfl rfl) ?_
  refine rq_v (v_pick_t rfl rfl) ?_
  refine rq_v (v_move rfl) ?_
  refine rq_gv rfl rfl (v_move rfl) ?_
  refine rq_gv rfl rfl (v_nilCheck_ptr rfl) ?_
  refine rq_gv rfl rfl (v_fieldAddr fa_keyspan_BoundedIter_6 rfl) ?_
  refine rq_gv rfl rfl (v_load one_p_bool rfl (by exact Bc.cell _ rfl)) ?_
  refine rq_gv rfl rfl (v_nilCheck_ptr rfl) ?_
  refine rq_gv rfl rfl (v_load one_bool rfl (by exact cb1)) ?_
  refine rq_v (v_pick_t rfl rfl) ?_
  refine rq_v (v_move rfl) ?_
  refine rq_gv rfl rfl (v_move rfl) ?_
  refine rq_gv rfl rfl (v_nilCheck_ptr rfl) ?_
  refine rq_gv rfl rfl (v_fieldAddr fa_keyspan_BoundedIter_2 rfl) ?_
  refine rq_gv rfl rfl (v_load one_base_Compare rfl (by exact Bc.cell _ rfl)) ?_
  refine rq_gv rfl rfl (v_move rfl) ?_
  refine rq_gv rfl rfl (v_nilCheck_ptr rfl) ?_
  refine rq_gv rfl rfl (v_fieldAddr fa_keyspan_Span_1 rfl) ?_
  refine rq_gv rfl rfl (v_load one_sl_uint8 rfl (by exact hcell.at 1 rfl)) ?_
  refine rq_gv rfl rfl (v_move rfl) ?_
  refine rq_gv rfl rfl (v_nilCheck_ptr rfl) ?_
  refine rq_gv rfl rfl (v_fieldAddr fa_keyspan_BoundedIter_7 rfl) ?_
  refine rq_gv rfl rfl (v_load one_p_sl_uint8 rfl (by exact Bc.cell _ rfl)) ?_
  refine rq_gv rfl rfl (v_nilCheck_ptr rfl) ?_
  refine rq_gv rfl rfl (v_load one_sl_uint8 rfl (by exact cb2)) ?_
  refine rq_gw rfl rfl (w_callv (first := []) (cap := []) (vs := [_, _]) ok_bytes_Compare rfl ⟨rfl, rfl, trivial⟩ (c_Compare χ _ _ _ s.e P (RBytes.by g2) (RBytes.by hpv))) ?_
  refine rq_gv rfl rfl (v_le rfl rfl) ?_
  refine rq_v (v_pick_t rfl rfl) ?_
  refine rm_end ?_; simp only [endM, hypF, ofE, argE]
  refine q_thn ?_
  refine tr_if rfl (fun hif => ?_) (fun hif => ?_)
  · -- yes
    skip
    refine tr_reg ?_
    refine rs_v (v_assign rfl) rfl ?_
    refine rs_nil ?_
    refine q_thn ?_
    refine tr_seq ?_
    refine tr_reg ?_
    refine rs_v (v_move rfl) rfl ?_
    refine rs_v (v_assign rfl) rfl ?_
    refine rs_nil ?_
    refine q_thn ?_
    refine tr_ret ?_
    refine q_ret (res_tmp rfl rfl) ?_
    have hq : LoC (some P) s = false := by have h9 := ndneg (cmpB s.e P); rw [hif] at h9; show slt P s.e = _; rw [slt_cmp, cmpB_anti s.e P]; simpa using h9
    exact ⟨by rw [if_neg (by rw [hq]; decide)], rfl⟩
  -- no
  skip
  refine tr_skip ?_
  refine q_thn ?_
  refine tr_seq ?_
  refine tr_reg ?_
  refine rs_v (v_move rfl) rfl ?_
  refine rs_v (v_assign rfl) rfl ?_
  refine rs_nil ?_
  refine q_thn ?_
  refine tr_ret ?_
  refine q_ret (res_tmp rfl rfl) ?_
  have hq : LoC (some P) s = true := by have h9 := ndneg (cmpB s.e P); rw [hif] at h9; show slt P s.e = _; rw [slt_cmp, cmpB_anti s.e P]; simpa using h9
  exact ⟨by rw [if_pos hq], rfl⟩
end Go.Proofs.Ytgebfbnndgjkiaa

/- Forty-eighth part: the iterator within bounds in prefix mode: its steps. Conditions: those that each theorem names. -/
namespace Go.Proofs.Ytgebfbnndgjkiaa
open Go.Tess Go.RowKit
set_option maxRecDepth 100000
set_option maxHeartbeats 1000000
theorem c_chPS (χ : Chi) (h : Heap) (c : Nat) (t : TypeId) (v0 : Value) (sp : Option Addr) (lov upv hp pp : Value) (pos : Int) (P : ByteArray) (G Fin : Nat → Prop) (x : Option Addr) (os : Option SpanD)
    (Bc : Blk h c (biL t v0 sp splF lov upv hp pp pos) bT) (hP : noZ P) (hPre : PreE G h hp pp P) (hx : SpA Fin h x os) :
    Cl Try.prog χ 135 #[.pointer (some ⟨c, 0, none⟩), .pointer x] h (fun r h' => ∃ x', r = .pointer x' ∧ SpA Fin h x' (os.filter (UpC (some (pre1 P)))) ∧ h' = h) := by
  cases os with
  | none =>
    have e : x = none := hx
    subst e
    exact (c_checkPrefixSpanStart_none χ h c t v0 sp splF lov upv hp pp pos Bc).mono fun r h' hr => ⟨none, hr.1, rfl, hr.2⟩
  | some s =>
    obtain ⟨b, o, rfl, hb, hs⟩ := hx
    refine (c_checkPrefixSpanStart_some χ h c t v0 sp lov upv hp pp pos P G Fin b o s Bc hP hPre hs).mono fun r h' hr => ⟨_, hr.1, ?_, hr.2⟩
    cases hq : UpC (some (pre1 P)) s with
    | true => simp only [Option.filter, hq, if_true]; exact ⟨b, o, rfl, hb, hs⟩
    | false => simp [Option.filter, hq, SpA]
theorem c_chPE (χ : Chi) (h : Heap) (c : Nat) (t : TypeId) (v0 : Value) (sp : Option Addr) (lov upv hp pp : Value) (pos : Int) (P : ByteArray) (G Fin : Nat → Prop) (x : Option Addr) (os : Option SpanD)
    (Bc : Blk h c (biL t v0 sp splF lov upv hp pp pos) bT) (hP : noZ P) (hPre : PreE G h hp pp P) (hx : SpA Fin h x os) :
    Cl Try.prog χ 137 #[.pointer (some ⟨c, 0, none⟩), .pointer x] h (fun r h' => ∃ x', r = .pointer x' ∧ SpA Fin h x' (os.filter (LoC (some P))) ∧ h' = h) := by
  cases os with
  | none =>
    have e : x = none := hx
    subst e
    exact (c_checkPrefixSpanEnd_none χ h c t v0 sp splF lov upv hp pp pos Bc).mono fun r h' hr => ⟨none, hr.1, rfl, hr.2⟩
  | some s =>
    obtain ⟨b, o, rfl, hb, hs⟩ := hx
    refine (c_checkPrefixSpanEnd_some χ h c t v0 sp lov upv hp pp pos P G Fin b o s Bc hP hPre hs).mono fun r h' hr => ⟨_, hr.1, ?_, hr.2⟩
    cases hq : LoC (some P) s with
    | true => simp only [Option.filter, hq, if_true]; exact ⟨b, o, rfl, hb, hs⟩
    | false => simp [Option.filter, hq, SpA]
def MidP (W : List SpanD) (I : ItI) (t : TypeId) (v0 : Value) (c : Nat) (lov upv hp pp : Value) (Fin : Nat → Prop) (h : Heap) (q' : Pos) (C : SpanD → Bool) (r : Value) (h' : Heap) : Prop :=
  ∃ h1 Fin' x', I q' Fin' h1 ∧ KeepP Fin h h1 ∧ (∀ b, Fin' b → Fin b ∨ h.size ≤ b) ∧ ¬ Fin' c ∧ r = .pointer x' ∧ SpA Fin' h1 x' ((cur W q').filter C) ∧ Blk h' c (biL t v0 x' splF lov upv hp pp 0) bT ∧ Keep [c] h1 h'
theorem filter_no (os : Option SpanD) : os.filter (UpC none) = os := by cases os <;> simp [Option.filter, UpC]
theorem pf_end {W : List SpanD} {key P : ByteArray} {A : SpanD → Bool} (hk : sle P key = true) : (((cur W (pGE W key)).filter A).filter (LoC (some P))).filter (UpC none) = (cur W (pGE W key)).filter A := by
  rw [filter_no]
  unfold pGE
  by_cases hg : geI W key < W.length
  · rw [if_pos hg]
    have e := List.getElem?_eq_getElem hg
    simp only [cur, e]
    have h1 : slt P W[geI W key].e = true := slt_of_sle_slt hk (not_sle.1 (geI_at e))
    cases hA : A W[geI W key] with
    | false => simp [Option.filter, hA]
    | true => simp [Option.filter, hA, LoC, h1]
  · rw [if_neg hg]; rfl
theorem pre_stop (P : ByteArray) (s : SpanD) (hP : noZ P) : decide (0 < cmpB (zB s.e) P) = stopN (some (pre1 P)) (some s) := by
  rw [pre_start P s.e hP, slt_cmp, ndlt]; rfl

theorem c_BpSeekGE {W : List SpanD} {t : TypeId} {v0 : Value} {I : ItI} (χ : Chi) (hit : IterOK Try.prog χ W t v0 I) (h : Heap) (c : Nat) (sp : Option Addr) (lov hp pp : Value) (pos : Int) (P : ByteArray) (hP : noZ P) (Fin : Nat → Prop) (q : Pos) (hEnv : ∀ {p F h}, I p F h → PreE F h hp pp P)
    (hI : I q Fin h) (Bc : Blk h c (biL t v0 sp splF lov (.slice none 0 0) hp pp pos) bT) (hcF : ¬ Fin c) (kv : Value) (key : ByteArray) (hk : RBytes (fun b => ¬ Fin b) h kv key) (hkP : sle P key = true) :
    Cl Try.prog χ 133 #[.pointer (some ⟨c, 0, none⟩), kv] h (MidP W I t v0 c lov (.slice none 0 0) hp pp Fin h (pGE W key) (UpC (some (pre1 P)))) := by
  refine cl_intro Try.func133 rfl rfl rfl ?_
  have K : Keep [c] h h := Keep.refl _ _
  refine tr_seq ?_
  refine tr_reg ?_
  refine rs_v (v_assign rfl) rfl ?_
  refine rs_nil ?_
  refine q_thn ?_
  refine tr_seq ?_
  refine tr_reg ?_
  refine rs_v (v_move rfl) rfl ?_
  refine rs_v (v_nilCheck_ptr rfl) rfl ?_
  refine rs_v (v_fieldAddr fa_keyspan_BoundedIter_0 rfl) rfl ?_
  refine rs_v (v_load one_keyspan_FragmentIterator rfl (by exact Bc.cell _ rfl)) rfl ?_
  refine rs_v (v_move rfl) rfl ?_
  refine rs_w (w_mcall (vs := [_]) (hit.ge hI hk) rfl ⟨rfl, trivial⟩) rfl ?_
  rintro r1 h1 hp1
  obtain ⟨Fin', x1, rfl, hI1, KP, hF1, hcF1, hx1, Bc⟩ := mid_in hp1 Bc hcF
  have hPr1 := hEnv hI1
  refine rs_v (v_assign rfl) rfl ?_
  refine rs_nil ?_
  refine q_thn ?_
  refine tr_seq ?_
  refine tr_reg ?_
  refine rs_v (v_move rfl) rfl ?_
  refine rs_v (v_move rfl) rfl ?_
  refine rs_w (w_call (vs := [_, _]) ok_keyspan_BoundedIter_checkPrefixSpanStart rfl ⟨rfl, rfl, trivial⟩ (c_chPS χ _ c t v0 _ _ _ _ _ _ P Fin' Fin' x1 _ Bc hP hPr1 hx1)) rfl ?_
  rintro _ h2 ⟨x2, rfl, hx2, hsame⟩
  subst hsame
  refine rs_v (v_assign rfl) rfl ?_
  refine rs_nil ?_
  refine q_thn ?_
  refine tr_seq ?_
  refine tr_reg ?_
  refine rs_v (v_move rfl) rfl ?_
  refine rs_v (v_move rfl) rfl ?_
  refine rs_w (w_call (vs := [_, _]) ok_keyspan_BoundedIter_checkPrefixSpanEnd rfl ⟨rfl, rfl, trivial⟩ (c_chPE χ _ c t v0 _ _ _ _ _ _ P Fin' Fin' x2 _ Bc hP hPr1 hx2)) rfl ?_
  rintro _ h3 ⟨x3, rfl, hx3, hsame⟩
  subst hsame
  refine rs_v (v_assign rfl) rfl ?_
  refine rs_nil ?_
  refine q_thn ?_
  refine tr_seq ?_
  refine tr_reg ?_
  refine rs_v (v_move rfl) rfl ?_
  refine rs_v (v_move rfl) rfl ?_
  refine rs_w (w_call (vs := [_, _]) ok_keyspan_BoundedIter_checkForwardBound rfl ⟨rfl, rfl, trivial⟩ (c_checkForwardBound χ _ c t v0 _ _ _ _ _ _ _ none Fin' Fin' x3 _ Bc rfl hx3 hcF1)) rfl ?_
  rintro r2 h4 ⟨x4, rfl, hx4, Bc2, Kc⟩
  refine rs_v (v_assign rfl) rfl ?_
  refine rs_nil ?_
  refine q_thn ?_
  refine tr_ret ?_
  refine q_ret (res_tmp rfl rfl) ?_
  rw [pf_end hkP] at hx4
  exact ⟨_, Fin', x4, hI1, KP, hF1, hcF1, rfl, hx4, Bc2, Kc⟩
theorem c_BpNext {W : List SpanD} {t : TypeId} {v0 : Value} {I : ItI} (χ : Chi) (hit : IterOK Try.prog χ W t v0 I) (h : Heap) (c : Nat) (sp : Option Addr) (lov hp pp : Value) (pos : Int) (P : ByteArray) (hP : noZ P) (Fin : Nat → Prop) (q : Pos) (hEnv : ∀ {p F h}, I p F h → PreE F h hp pp P)
    (hI : I q Fin h) (Bc : Blk h c (biL t v0 sp splF lov (.slice none 0 0) hp pp pos) bT) (hcF : ¬ Fin c) (hlv : ∃ a n k, lov = .slice a n k) (s : SpanD) (hx : SpA Fin h sp (some s)) (hpos : pos = 0) (hc : canNext q = true) :
    Cl Try.prog χ 131 #[.pointer (some ⟨c, 0, none⟩)] h (fun r h' => (stopN (some (pre1 P)) (some s) = true ∧ r = .pointer none ∧ Blk h' c (biL t v0 sp splF lov (.slice none 0 0) hp pp 1) bT ∧ Keep [c] h h') ∨
      (stopN (some (pre1 P)) (some s) = false ∧ MidP W I t v0 c lov (.slice none 0 0) hp pp Fin h (pNext W q) (UpC (some (pre1 P))) r h')) := by
  subst hpos
  unfold biL at Bc
  obtain ⟨b, o, rfl, hFb, hps⟩ := hx
  obtain ⟨sv9, ev9, kv9, kk9, hcell, g1, g2, g3⟩ := hps
  obtain ⟨hb, pb, pv, rfl, rfl, gb1, gb2, cb1, cb2, hpv⟩ := hEnv hI
  obtain ⟨hl1, a1, c1, rfl⟩ := RBytes.form4 g2
  obtain ⟨na, nn, nc, rfl⟩ := hlv
  refine cl_intro Try.func131 rfl rfl rfl ?_
  have K : Keep [c] h h := Keep.refl _ _
  refine tr_seq ?_
  refine tr_reg ?_
  refine rs_v (v_assign rfl) rfl ?_
  refine rs_nil ?_
  refine q_thn ?_
  refine tr_seq ?_
  refine tr_reg ?_
  refine rs_v (v_move rfl) rfl ?_
  refine rs_v (v_nilCheck_ptr rfl) rfl ?_
  refine rs_v (v_fieldAddr fa_keyspan_BoundedIter_8 rfl) rfl ?_
  refine rs_v (v_load one_keyspan_boundedIterPos rfl (by exact Bc.cell _ rfl)) rfl ?_
  refine rs_nil ?_
  refine q_thn ?_
  refine tr_block ?_
  refine tr_seq ?_
  refine tr_reg ?_
  refine rs_v (v_eq rfl rfl) rfl ?_
  refine rs_v (v_assign rfl) rfl ?_
  refine rs_nil ?_
  refine q_thn ?_
  refine tr_if_f rfl ?_
  refine tr_seq ?_
  refine tr_reg ?_
  refine rs_v (v_eq rfl rfl) rfl ?_
  refine rs_v (v_assign rfl) rfl ?_
  refine rs_nil ?_
  refine q_thn ?_
  refine tr_if_t rfl ?_
  refine tr_seq ?_
  refine tr_seq ?_
  refine tr_quiet (by kernel_rfl) (by kernel_rfl) ?_
  refine rq_v (v_move rfl) ?_
  refine rq_v (v_nilCheck_ptr rfl) ?_
  refine rq_v (v_fieldAddr fa_keyspan_BoundedIter_1 rfl) ?_
  refine rq_v (v_load one_p_keyspan_Span rfl (by exact Bc.cell _ rfl)) ?_
  refine rq_v (v_pne u_p_keyspan_Span rfl rfl) ?_
  refine rq_v (v_move rfl) ?_
  refine rq_gv rfl rfl (v_move rfl) ?_
  refine rq_gv rfl rfl (v_nilCheck_ptr rfl) ?_
  refine rq_gv rfl rfl (v_fieldAddr fa_keyspan_BoundedIter_5 rfl) ?_
  refine rq_gv rfl rfl (v_load one_sl_uint8 rfl (by exact Bc.cell _ rfl)) ?_
  refine rq_gv rfl rfl (v_snen u_sl_uint8 rfl rfl) ?_
  refine rq_v (v_pick_t rfl rfl) ?_
  refine rq_v (v_move rfl) ?_
  refine rm_gs same_pre rfl rfl rfl ?_
  refine rm_gs same_pre rfl rfl rfl ?_
  refine rm_gs same_pre rfl rfl rfl ?_
  refine rm_gs same_pre rfl rfl rfl ?_
  refine rm_gs same_pre rfl rfl rfl ?_
  refine rm_gs same_pre rfl rfl rfl ?_
  refine rm_gs same_pre rfl rfl rfl ?_
  refine rm_gs same_pre rfl rfl rfl ?_
  refine rm_gs same_pre rfl rfl rfl ?_
  refine rm_gs same_pre rfl rfl rfl ?_
  refine rm_gs same_pre rfl rfl rfl ?_
  refine rm_gs same_pre rfl rfl rfl ?_
  refine rm_gs same_pre rfl rfl rfl ?_
  refine rm_gs same_pre rfl rfl rfl ?_
  refine rm_gs same_pre rfl rfl rfl ?_
  refine rm_gs same_pre rfl rfl rfl ?_
  refine rm_gs same_pre rfl rfl rfl ?_
  refine rq_v (v_pick_f rfl rfl) ?_
  refine rm_end ?_; simp only [endM, hypF, ofE, argE]
  refine q_thn ?_
  refine tr_if_f rfl ?_
  refine tr_skip ?_
  refine q_thn ?_
  refine tr_seq ?_
  refine tr_seq ?_
  refine tr_reg ?_
  refine rs_v (v_move rfl) rfl ?_
  refine rs_v (v_nilCheck_ptr rfl) rfl ?_
  refine rs_v (v_fieldAddr fa_keyspan_BoundedIter_1 rfl) rfl ?_
  refine rs_v (v_load one_p_keyspan_Span rfl (by exact Bc.cell _ rfl)) rfl ?_
  refine rs_v (v_pne u_p_keyspan_Span rfl rfl) rfl ?_
  refine rs_v (v_move rfl) rfl ?_
  refine rs_gv rfl rfl (v_move rfl) rfl ?_
  refine rs_gv rfl rfl (v_nilCheck_ptr rfl) rfl ?_
  refine rs_gv rfl rfl (v_fieldAddr fa_keyspan_BoundedIter_6 rfl) rfl ?_
  refine rs_gv rfl rfl (v_load one_p_bool rfl (by exact Bc.cell _ rfl)) rfl ?_
  refine rs_gv rfl rfl (v_pne u_p_bool rfl rfl) rfl ?_
  refine rs_v (v_pick_t rfl rfl) rfl ?_
  refine rs_v (v_move rfl) rfl ?_
  refine rs_gv rfl rfl (v_move rfl) rfl ?_
  refine rs_gv rfl rfl (v_nilCheck_ptr rfl) rfl ?_
  refine rs_gv rfl rfl (v_fieldAddr fa_keyspan_BoundedIter_6 rfl) rfl ?_
  refine rs_gv rfl rfl (v_load one_p_bool rfl (by exact Bc.cell _ rfl)) rfl ?_
  refine rs_gv rfl rfl (v_nilCheck_ptr rfl) rfl ?_
  refine rs_gv rfl rfl (v_load one_bool rfl (by exact cb1)) rfl ?_
  refine rs_v (v_pick_t rfl rfl) rfl ?_
  refine rs_nil ?_
  refine q_thn ?_
  refine tr_if_t rfl ?_
  refine tr_seq ?_
  refine tr_quiet (by kernel_rfl) (by kernel_rfl) ?_
  refine rq_v (v_move rfl) ?_
  refine rq_v (v_nilCheck_ptr rfl) ?_
  refine rq_v (v_fieldAddr fa_keyspan_BoundedIter_3 rfl) ?_
  refine rq_v (v_load one_base_Split rfl (by exact Bc.cell _ rfl)) ?_
  refine rq_v (v_move rfl) ?_
  refine rq_v (v_nilCheck_ptr rfl) ?_
  refine rq_v (v_fieldAddr fa_keyspan_BoundedIter_1 rfl) ?_
  refine rq_v (v_load one_p_keyspan_Span rfl (by exact Bc.cell _ rfl)) ?_
  refine rq_v (v_nilCheck_ptr rfl) ?_
  refine rq_v (v_fieldAddr fa_keyspan_Span_1 rfl) ?_
  refine rq_v (v_load one_sl_uint8 rfl (by exact hcell.at 1 rfl)) ?_
  refine rq_w (w_callv (first := []) (cap := []) (vs := [_]) ok_impl_splitZero rfl ⟨rfl, trivial⟩ (c_splitZero χ _ _ _ s.e g2)) ?_
  refine rq_v (v_assign rfl) ?_
  refine rm_end ?_; simp only [endM, hypF, ofE, argE]
  refine q_thn ?_
  refine tr_seq ?_
  refine tr_quiet (by kernel_rfl) (by kernel_rfl) ?_
  refine rq_v (v_move rfl) ?_
  refine rq_v (v_nilCheck_ptr rfl) ?_
  refine rq_v (v_fieldAddr fa_keyspan_BoundedIter_2 rfl) ?_
  refine rq_v (v_load one_base_Compare rfl (by exact Bc.cell _ rfl)) ?_
  refine rq_v (v_move rfl) ?_
  refine rq_v (v_nilCheck_ptr rfl) ?_
  refine rq_v (v_fieldAddr fa_keyspan_BoundedIter_1 rfl) ?_
  refine rq_v (v_load one_p_keyspan_Span rfl (by exact Bc.cell _ rfl)) ?_
  refine rq_v (v_nilCheck_ptr rfl) ?_
  refine rq_v (v_fieldAddr fa_keyspan_Span_1 rfl) ?_
  refine rq_v (v_load one_sl_uint8 rfl (by exact hcell.at 1 rfl)) ?_
  refine rq_v (v_move rfl) ?_
  refine rq_v (v_slice_h u_sl_uint8 siz_uint8 rfl rfl rfl (by have := RBytes.cap g2; have := zi_le s.e; omega)) ?_
  refine rq_v (v_move rfl) ?_
  refine rq_v (v_nilCheck_ptr rfl) ?_
  refine rq_v (v_fieldAddr fa_keyspan_BoundedIter_7 rfl) ?_
  refine rq_v (v_load one_p_sl_uint8 rfl (by exact Bc.cell _ rfl)) ?_
  refine rq_v (v_nilCheck_ptr rfl) ?_
  refine rq_v (v_load one_sl_uint8 rfl (by exact cb2)) ?_
  refine rq_w (w_callv (first := []) (cap := []) (vs := [_, _]) ok_bytes_Compare rfl ⟨rfl, rfl, trivial⟩ (c_Compare χ _ _ _ (zB s.e) P (RBytes.by (RBytes.cut g2)) (RBytes.by hpv))) ?_
  refine rq_v (v_gt rfl rfl) ?_
  refine rm_end ?_; simp only [endM, hypF, ofE, argE]
  refine q_thn ?_
  refine tr_if rfl (fun hif => ?_) (fun hif => ?_)
  · -- yes
    skip
    refine tr_seq ?_
    refine tr_reg ?_
    refine rs_v (v_move rfl) rfl ?_
    refine rs_v (v_nilCheck_ptr rfl) rfl ?_
    refine rs_v (v_fieldAddr fa_keyspan_BoundedIter_8 rfl) rfl ?_
    refine rs_w0 (w_put siz_keyspan_boundedIterPos rfl rfl rfl rfl Bc rfl) ?_
    rintro _ h1 ⟨B1, K1⟩
    have Bc := B1; have K := K.new1 K1 (by first | (right; omega) | (left; simp; done)); have Z1 := K1.1
    refine rs_nil ?_
    refine q_thn ?_
    refine tr_seq ?_
    refine tr_reg ?_
    refine rs_v (v_assign rfl) rfl ?_
    refine rs_nil ?_
    refine q_thn ?_
    refine tr_ret ?_
    refine q_thn_ret ?_
    refine q_blk_ret ?_
    refine q_ret (res_tmp rfl rfl) ?_
    exact .inl ⟨by rw [← pre_stop P s hP]; exact hif, rfl, Bc, K⟩
  -- no
  have hstop := hif
  refine tr_skip ?_
  refine q_thn ?_
  refine tr_seq ?_
  refine tr_reg ?_
  refine rs_v (v_move rfl) rfl ?_
  refine rs_v (v_move rfl) rfl ?_
  refine rs_v (v_move rfl) rfl ?_
  refine rs_v (v_nilCheck_ptr rfl) rfl ?_
  refine rs_v (v_fieldAddr fa_keyspan_BoundedIter_0 rfl) rfl ?_
  refine rs_v (v_load one_keyspan_FragmentIterator rfl (by exact Bc.cell _ rfl)) rfl ?_
  refine rs_w (w_mcall (vs := []) (hit.next hI hc) rfl trivial) rfl ?_
  rintro r1 h2 hp1
  obtain ⟨Fin', x1, rfl, hI1, KP, hF1, hcF1, hx1, Bc⟩ := mid_in hp1 Bc hcF
  have hPr1 := hEnv hI1
  refine rs_w (w_call (vs := [_, _]) ok_keyspan_BoundedIter_checkPrefixSpanStart rfl ⟨rfl, rfl, trivial⟩ (c_chPS χ _ c t v0 _ _ _ _ _ _ P Fin' Fin' x1 _ Bc hP hPr1 hx1)) rfl ?_
  rintro _ h3 ⟨x2, rfl, hx2, hsame⟩
  subst hsame
  refine rs_w (w_call (vs := [_, _]) ok_keyspan_BoundedIter_checkForwardBound rfl ⟨rfl, rfl, trivial⟩ (c_checkForwardBound χ _ c t v0 _ _ _ _ _ _ _ none Fin' Fin' x2 _ Bc rfl hx2 hcF1)) rfl ?_
  rintro r2 h4 ⟨x4, rfl, hx4, Bc2, Kc⟩
  refine rs_v (v_assign rfl) rfl ?_
  refine rs_nil ?_
  refine q_thn ?_
  refine tr_ret ?_
  refine q_blk_ret ?_
  refine q_ret (res_tmp rfl rfl) ?_
  rw [filter_no] at hx4
  exact .inr ⟨by rw [← pre_stop P s hP]; exact hstop, _, Fin', x4, hI1, KP, hF1, hcF1, rfl, hx4, Bc2, Kc⟩
end Go.Proofs.Ytgebfbnndgjkiaa

/- Forty-ninth part: the iterator within bounds in prefix mode, whole. Conditions: those that each theorem names. -/
namespace Go.Proofs.Ytgebfbnndgjkiaa
open Go.Tess Go.RowKit
set_option maxRecDepth 100000
set_option maxHeartbeats 1000000
section
variable (W : List SpanD) (I : ItI) (t : TypeId) (v0 : Value) (c i0 i1 : Nat) (lov hp pp : Value)
structure BSP (q : Pos) (Fin F : Nat → Prop) (h : Heap) (sp : Option Addr) (os : Option SpanD) (pos : Int) : Prop where
  hI : I q Fin h
  B : Blk h c (biL t v0 sp splF lov (.slice none 0 0) hp pp pos) bT
  sp : SpA Fin h sp os
  fc : ¬ Fin c
  s1 : ∀ b, Fin b → F b
  s2 : F c
  fl : Low F h
def BIP : ItI := fun p F h => p ≠ .ahead ∧ ∃ q Fin sp os pos, BSP I t v0 c lov hp pp q Fin F h sp os pos ∧ relB W i0 i1 p q os pos
end
section
variable {W : List SpanD} {I : ItI} {t : TypeId} {v0 : Value} {c i0 i1 : Nat} {lov hp pp : Value} {q : Pos} {Fin F : Nat → Prop} {h : Heap} {sp : Option Addr} {os : Option SpanD} {pos : Int}
theorem bsp_fin {χ : Chi} (hit : IterOK Try.prog χ W t v0 I) (hst : BSP I t v0 c lov hp pp q Fin F h sp os pos) {q' p' : Pos} {C : SpanD → Bool} {r : Value} {h' : Heap} (hna : p' ≠ .ahead) (hm : MidP W I t v0 c lov (.slice none 0 0) hp pp Fin h q' C r h')
    (hrel : relB W i0 i1 p' q' ((cur W q').filter C) 0) (hcur : cur (segL W i0 i1) p' = (cur W q').filter C) : ItPost (segL W i0 i1) (BIP W I t v0 c i0 i1 lov hp pp) F h p' r h' := by
  obtain ⟨h1, Fin', x', hI1, KP, hF1, hcF1, rfl, hx, B, Kc⟩ := hm
  have hl1 := hit.low hI1
  have hz := KP.1
  have hz2 := Kc.1
  have hcl := hst.B.lt
  have sF : Stab Fin' h1 h' := Kc.stab fun b hb => ⟨hl1 b hb, fun hm => hcF1 (by rw [List.mem_singleton] at hm; rw [← hm]; exact hb)⟩
  refine ⟨fun b => F b ∨ Fin' b, ⟨hna, q', Fin', x', _, 0, ⟨hit.stab hI1 sF hz2, B, hx.stab sF, hcF1, fun b hb => .inr hb, .inl hst.s2, fun b hb => ?_⟩, hrel⟩, fun b hb => ?_, ?_, ?_⟩
  · rcases hb with hb | hb
    · have := hst.fl b hb; omega
    · have := hl1 b hb; omega
  · rcases hb with hb | hb
    · exact .inl hb
    · rcases hF1 b hb with h2 | h2
      · exact .inl (hst.s1 b h2)
      · exact .inr h2
  · refine ⟨by omega, fun b hb hF => ?_⟩
    rw [Kc.2 b (by omega) (fun hm => hF (by rw [List.mem_singleton] at hm; rw [hm]; exact hst.s2))]
    exact KP.2 b hb (fun hf => hF (hst.s1 b hf))
  · exact SpA.ret (by rw [hcur]; exact (hx.stab sF).mono fun b hb => .inr hb)
theorem bsp_same {χ : Chi} (hit : IterOK Try.prog χ W t v0 I) (hst : BSP I t v0 c lov hp pp q Fin F h sp os pos) {p' : Pos} {pos' : Int} {x' : Option Addr} {h' : Heap} (hna : p' ≠ .ahead) (B : Blk h' c (biL t v0 sp splF lov (.slice none 0 0) hp pp pos') bT) (Kc : Keep [c] h h')
    (hrel : relB W i0 i1 p' q os pos') (hx : SpA Fin h x' (cur (segL W i0 i1) p')) : ItPost (segL W i0 i1) (BIP W I t v0 c i0 i1 lov hp pp) F h p' (.pointer x') h' := by
  have hl1 := hit.low hst.hI
  have hz2 := Kc.1
  have sF : Stab Fin h h' := Kc.stab fun b hb => ⟨hl1 b hb, fun hm => hst.fc (by rw [List.mem_singleton] at hm; rw [← hm]; exact hb)⟩
  refine ⟨F, ⟨hna, q, Fin, sp, os, pos', ⟨hit.stab hst.hI sF hz2, B, hst.sp.stab sF, hst.fc, hst.s1, hst.s2, fun b hb => by have := hst.fl b hb; omega⟩, hrel⟩,
    fun b hb => .inl hb, Kc.kp (fun x hx => by rw [List.mem_singleton] at hx; rw [hx]; exact hst.s2), SpA.ret ((hx.stab sF).mono hst.s1)⟩
end
/-- The steps that may be asked in prefix mode. -/
def AlP (P : ByteArray) (s : StepD) : Prop := s.op = 2 ∨ (s.op = 4 ∧ sle P s.key = true ∧ sle s.key (pre1 P) = true)
section
variable {χ : Chi} {W : List SpanD} {I : ItI} {t : TypeId} {v0 : Value} {c i0 i1 : Nat} {P : ByteArray} {lov hp pp : Value} (hP : noZ P) (hlv : ∃ a n k, lov = .slice a n k) (hEnv : ∀ {p F h}, I p F h → PreE F h hp pp P) (hit : IterOK Try.prog χ W t v0 I) (hO : Tess.Ord W) (hs : Seg W (some P) (some (pre1 P)) i0 i1)
include hP hlv hEnv hit hO hs
theorem bp_ge {p : Pos} {F : Nat → Prop} {h : Heap} {kv : Value} {key : ByteArray} (hl : sle P key = true) (hu : sle key (pre1 P) = true) (hI : BIP W I t v0 c i0 i1 lov hp pp p F h) (hk : RBytes (fun b => ¬ F b) h kv key) :
    MCall Try.prog χ 148 (.pointer (some ⟨c, 0, none⟩)) "SeekGE" [kv] h (ItPost (segL W i0 i1) (BIP W I t v0 c i0 i1 lov hp pp) F h (pGE (segL W i0 i1) key)) := by
  obtain ⟨_, q, Fin, sp, os, pos, hst, _⟩ := hI
  refine ⟨_, _, ok_keyspan_BoundedIter_SeekGE, m_BiSeekGE _, (c_BpSeekGE χ hit h c sp lov hp pp pos P hP Fin q hEnv hst.hI hst.B hst.fc kv key (hk.mono fun b hb hf => hb (hst.s1 b hf)) hl).mono fun r h' hm => ?_⟩
  obtain ⟨a1, a2, a3⟩ := seg_ge hs hO key (fun l e => by cases e; exact hl) (fun u e => by cases e; exact hu)
  have hlen := segL_len (i0 := i0) hs.len
  have hf := fwd_rel hs a1 a2
  have e2 : pGE (segL W i0 i1) key = if geI W key < i1 then .pt (geI W key - i0) else .behind := by
    unfold pGE; rw [a3, hlen]
    by_cases h1 : geI W key < i1
    · rw [if_pos h1, if_pos (by omega)]
    · rw [if_neg h1, if_neg (by omega)]
  rw [e2]
  exact bsp_fin hit hst (by split <;> exact fun e => by cases e) hm hf.1 hf.2
theorem bp_next {p : Pos} {F : Nat → Prop} {h : Heap} (hI : BIP W I t v0 c i0 i1 lov hp pp p F h) (hc : canNext p = true) : MCall Try.prog χ 148 (.pointer (some ⟨c, 0, none⟩)) "Next" [] h (ItPost (segL W i0 i1) (BIP W I t v0 c i0 i1 lov hp pp) F h (pNext (segL W i0 i1) p)) := by
  obtain ⟨hna, q, Fin, sp, os, pos, hst, hrel⟩ := hI
  have hlen := segL_len (i0 := i0) hs.len
  have hl := hs.len
  have hle := hs.le
  cases p with
  | behind => cases hc
  | nowhere => cases hc
  | ahead => exact absurd rfl hna
  | pt j =>
    obtain ⟨rfl, rfl, hj, rfl⟩ := hrel
    have hjl : i0 + j < W.length := by omega
    have e0 := List.getElem?_eq_getElem hjl
    refine ⟨_, _, ok_keyspan_BoundedIter_Next, m_BiNext _, (c_BpNext χ hit h c sp lov hp pp 0 P hP Fin _ hEnv hst.hI hst.B hst.fc hlv W[i0 + j] (by rw [← e0]; exact hst.sp) rfl rfl).mono fun r h' hm => ?_⟩
    rcases hm with ⟨hstop, rfl, B, K⟩ | ⟨_, hm⟩
    · rw [← e0] at hstop
      have e := stop_next hs hO hj hstop
      have e2 : pNext (segL W i0 i1) (.pt j) = .behind := by rw [pNext_pt, hlen, if_neg (show ¬ j + 1 < i1 - i0 from by omega)]
      rw [e2]
      exact bsp_same hit hst (by intro e; cases e) B K (.inl ⟨rfl, by omega, by rw [show i1 - 1 = i0 + j from by omega], by rw [show i1 - 1 = i0 + j from by omega]⟩) rfl
    · have hf := fwd_rel hs (g := i0 + j + 1) (by omega) (by omega)
      have e1 : pNext W (.pt (i0 + j)) = if i0 + j + 1 < W.length then .pt (i0 + j + 1) else .behind := rfl
      have e2 : pNext (segL W i0 i1) (.pt j) = if i0 + j + 1 < i1 then .pt (i0 + j + 1 - i0) else .behind := by
        rw [pNext_pt, hlen]
        by_cases h1 : i0 + j + 1 < i1
        · rw [if_pos h1, if_pos (by omega)]; congr 1; omega
        · rw [if_neg h1, if_neg (by omega)]
      rw [e1] at hm; rw [e2]
      exact bsp_fin hit hst (by split <;> exact fun e => by cases e) hm hf.1 hf.2
theorem bp_ok (c : Nat) :
    IterA Try.prog χ (segL W i0 i1) 148 (.pointer (some ⟨c, 0, none⟩)) (BIP W I t v0 c i0 i1 lov hp pp) (AlP P) where
  low := fun hI => by obtain ⟨_, q, Fin, sp, os, pos, hst, _⟩ := hI; exact hst.fl
  stab := fun hI hst hz => by
    obtain ⟨hna, q, Fin, sp, os, pos, b, hrel⟩ := hI
    exact ⟨hna, q, Fin, sp, os, pos, ⟨hit.stab b.hI (fun x hx => hst x (b.s1 x hx)) hz, (hst c b.s2).trans b.B, b.sp.stab (fun x hx => hst x (b.s1 x hx)), b.fc, b.s1, b.s2, b.fl.mono hz⟩, hrel⟩
  first := fun h0 ha hI => by rcases ha with ha | ⟨ha, _⟩ <;> (rw [h0] at ha; cases ha)
  last := fun h0 ha hI => by rcases ha with ha | ⟨ha, _⟩ <;> (rw [h0] at ha; cases ha)
  next := fun _ _ hI hc => bp_next hP hlv hEnv hit hO hs hI hc
  prev := fun h0 ha hI hc => by rcases ha with ha | ⟨ha, _⟩ <;> (rw [h0] at ha; cases ha)
  ge := fun h0 ha hI hk => by
    rcases ha with ha | ⟨_, h1, h2⟩
    · rw [h0] at ha; cases ha
    · exact bp_ge hP hlv hEnv hit hO hs h1 h2 hI hk
  lt := fun h0 ha hI hk => by rcases ha with ha | ⟨ha, _⟩ <;> (rw [h0] at ha; cases ha)
end

end Go.Proofs.Ytgebfbnndgjkiaa

/- Fiftieth part: impl.SpanPrefixed. Conditions: those that each theorem names. -/
namespace Go.Proofs.Ytgebfbnndgjkiaa
open Go.Tess Go.RowKit
set_option maxRecDepth 100000
set_option maxHeartbeats 1000000
/-- The plain iterator, and what prefix mode reads beside it. -/
def ItBP (hp9 pp9 : Value) (Pf : ByteArray) (c : Nat) (a : Option Addr) (cc : Nat) (W : List SpanD) (T : TypeId) : ItI := fun p F h =>
  ∃ (x : Int) (G : Nat → Prop), Blk h c (itL (.slice a W.length cc) x) T ∧ posX W.length p x ∧ PSpans G h (.slice a W.length cc) W ∧ (∀ b, G b → F b ∧ b ≠ c) ∧ F c ∧ Low F h ∧
    ∃ Gb : Nat → Prop, (∀ b, Gb b → F b ∧ b ≠ c) ∧ PreE Gb h hp9 pp9 Pf
theorem itBP_env {hp9 pp9 : Value} {Pf : ByteArray} {c : Nat} {a : Option Addr} {cc : Nat} {W : List SpanD} {T : TypeId} {p : Pos} {F : Nat → Prop} {h : Heap} (hI : ItBP hp9 pp9 Pf c a cc W T p F h) : PreE F h hp9 pp9 Pf := by
  obtain ⟨x, G, _, _, _, _, _, _, Gb, b1, b2⟩ := hI
  exact b2.mono fun b hb => (b1 b hb).1
theorem itBP_post {hp9 pp9 : Value} {Pf : ByteArray} {Gb : Nat → Prop} {c : Nat} {a : Option Addr} {cc : Nat} {W : List SpanD} {T : TypeId} {p : Pos} {F G : Nat → Prop} {h : Heap} (hW : PSpans G h (.slice a W.length cc) W) (hG : ∀ b, G b → F b ∧ b ≠ c) (hF : F c) (hl : Low F h) (b1 : ∀ b, Gb b → F b ∧ b ≠ c) (b2 : PreE Gb h hp9 pp9 Pf) (r : Value) (h' : Heap)
    (hr : ∃ x', Blk h' c (itL (.slice a W.length cc) x') T ∧ posX W.length p x' ∧ Keep [c] h h' ∧ RetI a p r) : ItPost W (ItBP hp9 pp9 Pf c a cc W T) F h p r h' := by
  obtain ⟨x', B, hp, K, hret⟩ := hr
  have hG' : ∀ b, G b → b < h.size ∧ b ≠ c := fun b hb => ⟨hl b (hG b hb).1, (hG b hb).2⟩
  have hW' : PSpans G h' (.slice a W.length cc) W := PSpans.stabI hW hG' K
  have sGb : Stab Gb h h' := K.stab fun b hb => ⟨hl b (b1 b hb).1, by simpa using (b1 b hb).2⟩
  refine ⟨F, ⟨x', G, B, hp, hW', hG, hF, hl.mono K.1, Gb, b1, b2.stab sGb⟩, fun b hb => .inl hb, K.kp (by simpa using hF), ?_⟩
  unfold Ret
  cases p with
  | pt j =>
    have hj : j < W.length := by obtain ⟨h1, h2⟩ := hp; omega
    simp only [cur, List.getElem?_eq_getElem hj]
    obtain ⟨b, o, ha, rfl⟩ := hret
    obtain ⟨_, a', c', e', hx⟩ := hW'.form
    cases e'
    rcases hx with e | ⟨b', o', e2, hGb, hR⟩
    · rw [e] at hj; simp at hj
    · rw [ha] at e2; cases e2
      exact ⟨b, _, rfl, (hG b hGb).1, (hR j _ (List.getElem?_eq_getElem hj)).mono (fun b hb => (hG b hb).1)⟩
  | behind => exact hret
  | ahead => exact hret
  | nowhere => exact hret
theorem itBP_ok (hp9 pp9 : Value) (Pf : ByteArray) (χ : Chi) (c : Nat) (a : Option Addr) (cc : Nat) (W : List SpanD) (T : TypeId) (hn : W.length ≤ 100000) (hO : Tess.Ord W) :
    IterOK Try.prog χ W 136 (.pointer (some ⟨c, 0, none⟩)) (ItBP hp9 pp9 Pf c a cc W T) where
  low := fun hI => by obtain ⟨x, G, Bc, hp, hW, hG, hF, hl, Gb, b1, b2⟩ := hI; exact hl
  stab := fun hI hs hz => by
    obtain ⟨x, G, Bc, hp, hW, hG, hF, hl, Gb, b1, b2⟩ := hI
    exact ⟨x, G, (hs c hF).trans Bc, hp, hW.stab (fun b hb => hs b (hG b hb).1), hG, hF, hl.mono hz, Gb, b1, b2.stab (fun b hb => hs b (b1 b hb).1)⟩
  first := fun hI => by
    obtain ⟨x, G, Bc, hp, hW, hG, hF, hl, Gb, b1, b2⟩ := hI
    exact ⟨_, _, ok_keyspan_Iter_First, m_ItFirst _, (c_ItFirst χ _ c a cc W T hn x (ItB.some (c := c) hW) Bc).mono (itBP_post hW hG hF hl b1 b2)⟩
  last := fun hI => by
    obtain ⟨x, G, Bc, hp, hW, hG, hF, hl, Gb, b1, b2⟩ := hI
    exact ⟨_, _, ok_keyspan_Iter_Last, m_ItLast _, (c_ItLast χ _ c a cc W T hn x (ItB.some (c := c) hW) Bc).mono (itBP_post hW hG hF hl b1 b2)⟩
  next := fun {p F h} hI hc => by
    obtain ⟨x, G, Bc, hp, hW, hG, hF, hl, Gb, b1, b2⟩ := hI
    cases p with
    | pt j =>
      obtain ⟨h1, h2⟩ := hp
      exact ⟨_, _, ok_keyspan_Iter_Next, m_ItNext _, (c_ItNext χ _ c a cc W T hn x (j + 1) (by omega) (by omega) (ItB.some (c := c) hW) Bc).mono (itBP_post (p := pNext W (.pt j)) hW hG hF hl b1 b2)⟩
    | ahead =>
      have h1 : x = -1 := hp
      exact ⟨_, _, ok_keyspan_Iter_Next, m_ItNext _, (c_ItNext χ _ c a cc W T hn x 0 (by omega) (by omega) (ItB.some (c := c) hW) Bc).mono (itBP_post (p := pNext W .ahead) hW hG hF hl b1 b2)⟩
    | behind => simp [canNext] at hc
    | nowhere => simp [canNext] at hc
  prev := fun {p F h} hI hc => by
    obtain ⟨x, G, Bc, hp, hW, hG, hF, hl, Gb, b1, b2⟩ := hI
    cases p with
    | pt j =>
      obtain ⟨h1, h2⟩ := hp
      subst h1
      exact ⟨_, _, ok_keyspan_Iter_Prev, m_ItPrev _, (c_ItPrev χ _ c a cc W T hn j (by omega) (ItB.some (c := c) hW) Bc).mono (itBP_post (p := pPrev W (.pt j)) hW hG hF hl b1 b2)⟩
    | behind =>
      have h1 : x = W.length := hp
      subst h1
      exact ⟨_, _, ok_keyspan_Iter_Prev, m_ItPrev _, (c_ItPrev χ _ c a cc W T hn W.length (by omega) (ItB.some (c := c) hW) Bc).mono (itBP_post (p := pPrev W .behind) hW hG hF hl b1 b2)⟩
    | ahead => simp [canPrev] at hc
    | nowhere => simp [canPrev] at hc
  ge := fun {p F h kv key} hI hk => by
    obtain ⟨x, G, Bc, hp, hW, hG, hF, hl, Gb, b1, b2⟩ := hI
    exact ⟨_, _, ok_keyspan_Iter_SeekGE, m_ItSeekGE _, (c_ItSeekGE χ _ c a cc W T hn x Bc G hW (fun b hb => ⟨hl b (hG b hb).1, (hG b hb).2⟩) hO kv key (hk.mono (fun b hb e => hb (by rw [e]; exact hF)))).mono (itBP_post hW hG hF hl b1 b2)⟩
  lt := fun {p F h kv key} hI hk => by
    obtain ⟨x, G, Bc, hp, hW, hG, hF, hl, Gb, b1, b2⟩ := hI
    exact ⟨_, _, ok_keyspan_Iter_SeekLT, m_ItSeekLT _, (c_ItSeekLT χ _ c a cc W T hn x Bc G hW (fun b hb => ⟨hl b (hG b hb).1, (hG b hb).2⟩) hO kv key (hk.mono (fun b hb e => hb (by rw [e]; exact hF)))).mono (itBP_post hW hG hF hl b1 b2)⟩
  err := fun hI => ⟨_, _, ok_keyspan_Iter_Error, m_ItError _, c_ItError χ _ _⟩
theorem bld_bi1 (x0t : TypeId) (x0 : Value) (x2 : FuncId) (x2a x2b : Array Value) (x3 : FuncId) (x3a x3b : Array Value) (x4 : Option Addr) (x4n x4c : Nat) (x5 : Option Addr) (x5n x5c : Nat) (x6 : Option Addr) (x7 : Option Addr) : ∀ w, (Instr.build 145 #[(0, .iface x0t x0), (2, .func (.func x2) x2a x2b), (3, .func (.func x3) x3a x3b), (4, .slice x4 x4n x4c), (5, .slice x5 x5n x5c), (6, .pointer x6), (7, .pointer x7)]).run Try.prog w = .ok (.agg #[.iface x0t x0, .pointer none, .func (.func x2) x2a x2b, .func (.func x3) x3a x3b, .slice x4 x4n x4c, .slice x5 x5n x5c, .pointer x6, .pointer x7, .int .i8 0]) w := fun _ => by kernel_rfl

theorem c_BiInitP (χ : Chi) (h : Heap) (c : Nat) (t : TypeId) (v0 : Value) (al : Option Addr) (nl cl : Nat) (au : Option Addr) (nu cu : Nat) (ph pp : Option Addr) (y0 y1 y2 y3 y4 y5 y6 y7 y8 : Value) (Bc : Blk h c [y0, y1, y2, y3, y4, y5, y6, y7, y8] bT) :
    Cl Try.prog χ 61 #[.pointer (some ⟨c, 0, none⟩), cmpF, splF, .iface t v0, .slice al nl cl, .slice au nu cu, .pointer ph, .pointer pp] h (fun r h' => r = .tuple #[] ∧ Blk h' c (biL t v0 none splF (.slice al nl cl) (.slice au nu cu) (.pointer ph) (.pointer pp) 0) bT ∧ Keep [c] h h') := by
  unfold cmpF splF
  refine cl_intro Try.func61 rfl rfl rfl ?_
  have K : Keep [c] h h := Keep.refl _ _
  refine tr_reg ?_
  refine rs_v (v_move rfl) rfl ?_
  refine rs_v (v_move rfl) rfl ?_
  refine rs_v (v_move rfl) rfl ?_
  refine rs_v (v_move rfl) rfl ?_
  refine rs_v (v_move rfl) rfl ?_
  refine rs_v (v_move rfl) rfl ?_
  refine rs_v (v_move rfl) rfl ?_
  refine rs_v (v_move rfl) rfl ?_
  refine rs_v (v_buildN (us := [_, _, _, _, _, _, _]) ⟨rfl, rfl, rfl, rfl, rfl, rfl, rfl, trivial⟩ (bld_bi1 _ _ _ _ _ _ _ _ _ _ _ _ _ _ _ _)) rfl ?_
  refine rs_v (v_nilCheck_ptr rfl) rfl ?_
  refine rs_w0 (w_put siz_keyspan_BoundedIter rfl rfl rfl rfl Bc rfl) ?_
  rintro _ h1 ⟨B1, K1⟩
  have Bc := B1; have K := K.new1 K1 (by first | (right; omega) | (left; simp; done)); have Z1 := K1.1
  refine rs_nil ?_
  refine q_end (res_none rfl) ?_
  exact ⟨rfl, Bc, K⟩
theorem c_implSpanPrefixed (χ : Chi) (h : Heap) (A : Nat → Prop) (hA : Low A h) (v sv : Value) (W : List SpanD) (steps : List StepD) (lo up : BndD) (P : ByteArray) (hP : noZ P) (hW : RSpans A h v W) (hn : W.length ≤ 100000) (hm : ∀ s, s ∈ W → SpanD.small s) (hO : Tess.Ord W)
    (hlo : lo.key.size ≤ 9223372036854775807) (hup : up.key.size ≤ 9223372036854775807) (hlo0 : lo.opt = none) (hup0 : up.opt = none) (hPs : P.size ≤ 9223372036854775807) (hord : ordB (some P) (some (pre1 P))) (hS : RSteps A h sv steps) (hsn : steps.length ≤ 1000) (hz : ∀ s, s ∈ steps → s.key.size ≤ 9223372036854775807) (hAl : ∀ s, s ∈ steps → AlP P s) :
    Cl Try.prog χ 30 #[v, lo.v, up.v, .string P, sv] h (fun r h' => RAnss (Up N0 h h') h' r (walkP (W.filter (fun s => LoC (some P) s && UpC (some (pre1 P)) s)) .nowhere steps) ∧ Keep [] h h') := by
  obtain ⟨i0, i1, hsg⟩ := seg_ex hO hord
  rw [seg_filter hsg]
  unfold BndD.v
  refine cl_intro Try.func30 rfl rfl rfl ?_
  have K : Keep [] h h := Keep.refl _ _
  refine tr_seq ?_
  refine tr_reg ?_
  refine rs_w (w_newbox rfl) rfl ?_
  rintro _ h1 ⟨rfl, B1, K1, Z1⟩
  have S1 := K.1; have K := K.new0 K1
  refine rs_w (w_newbox rfl) rfl ?_
  rintro _ h2 ⟨rfl, B2, K2, Z2⟩
  have B1 := K2.blk (by simp) B1
  have S2 := K.1; have K := K.new0 K2
  refine rs_v (v_assign rfl) rfl ?_
  refine rs_nil ?_
  refine q_thn ?_
  refine tr_seq ?_
  refine tr_reg ?_
  refine rs_w (w_call (vs := []) ok_base_DefaultComparer rfl trivial (c_DefaultComparer2 χ _)) rfl ?_
  rintro _ h3 ⟨rfl, ⟨rest, Bq⟩, K3⟩
  have hBql := Bq.lt
  have B1 := K3.blk (by simp) B1
  have B2 := K3.blk (by simp) B2
  have K := K.new0 K3; have Z3 := K3.1
  refine rs_v (v_assign rfl) rfl ?_
  refine rs_nil ?_
  refine q_thn ?_
  refine tr_seq ?_
  refine tr_reg ?_
  refine rs_v (v_move rfl) rfl ?_
  refine rs_w (w_bytes u_string u_sl_uint8 u_uint8 rfl (by omega)) rfl ?_
  rintro _ h4 ⟨cb, rfl, K4, hby⟩
  have B1 := K4.blk (by simp) B1
  have B2 := K4.blk (by simp) B2
  try have Bq := (K4).blk (by first | (simp; done) | (simp; omega)) Bq
  have K := K.new0 K4; have Z4 := K4.1
  refine rs_w (w_new zero_bool) rfl ?_
  rintro _ h5 ⟨rfl, B5, K5, Z5⟩
  have B1 := K5.blk (by simp) B1
  have B2 := K5.blk (by simp) B2
  try have Bq := (K5).blk (by first | (simp; done) | (simp; omega)) Bq
  try have hby := RBytes.stab hby ((K5).stab fun x hx => ⟨by have := hx.2; omega, by (try simp); (try (have := hx.2; omega))⟩)
  have S5 := K.1; have K := K.new0 K5
  refine rs_w (w_new zero_sl_uint8) rfl ?_
  rintro _ h6 ⟨rfl, B6, K6, Z6⟩
  have B1 := K6.blk (by simp) B1
  have B2 := K6.blk (by simp) B2
  have B5 := K6.blk (by simp) B5
  try have Bq := (K6).blk (by first | (simp; done) | (simp; omega)) Bq
  try have hby := RBytes.stab hby ((K6).stab fun x hx => ⟨by have := hx.2; omega, by (try simp); (try (have := hx.2; omega))⟩)
  have S6 := K.1; have K := K.new0 K6
  refine rs_w0 (w_put siz_bool rfl rfl rfl rfl B5 rfl) ?_
  rintro _ h7 ⟨B7, K7⟩
  have B1 := K7.blk (by simp; omega) B1
  have B2 := K7.blk (by simp; omega) B2
  have B6 := K7.blk (by simp; omega) B6
  try have Bq := (K7).blk (by first | (simp; done) | (simp; omega)) Bq
  try have hby := RBytes.stab hby ((K7).stab fun x hx => ⟨by have := hx.2; omega, by (try simp); (try (have := hx.2; omega))⟩)
  have B5 := B7; have K := K.new1 K7 (by first | (right; omega) | (left; simp; done)); have Z7 := K7.1
  refine rs_w0 (w_put siz_sl_uint8 rfl rfl rfl rfl B6 rfl) ?_
  rintro _ h8 ⟨B8, K8⟩
  have B1 := K8.blk (by simp; omega) B1
  have B2 := K8.blk (by simp; omega) B2
  have B5 := K8.blk (by simp; omega) B5
  try have Bq := (K8).blk (by first | (simp; done) | (simp; omega)) Bq
  try have hby := RBytes.stab hby ((K8).stab fun x hx => ⟨by have := hx.2; omega, by (try simp); (try (have := hx.2; omega))⟩)
  have B6 := B8; have K := K.new1 K8 (by first | (right; omega) | (left; simp; done)); have Z8 := K8.1
  refine rs_nil ?_
  refine q_thn ?_
  refine tr_seq ?_
  refine tr_reg ?_
  refine rs_w (w_new zero_keyspan_BoundedIter) rfl ?_
  rintro _ h9 ⟨rfl, B9, K9, Z9⟩
  have B1 := K9.blk (by simp) B1
  have B2 := K9.blk (by simp) B2
  have B5 := K9.blk (by simp) B5
  have B6 := K9.blk (by simp) B6
  try have Bq := (K9).blk (by first | (simp; done) | (simp; omega)) Bq
  try have hby := RBytes.stab hby ((K9).stab fun x hx => ⟨by have := hx.2; omega, by (try simp); (try (have := hx.2; omega))⟩)
  have S9 := K.1; have K := K.new0 K9
  refine rs_nil ?_
  refine q_thn ?_
  refine tr_seq ?_
  refine tr_draw [(true, 16), (false, 1)] _ (by kernel_rfl) (by kernel_rfl) (by kernel_rfl) ?_
  refine rx_any (Keep []) (keep_pre _) ?_
  refine rm_v (keep_pre _) (fun h' hk => v_move rfl) ?_
  refine rm_v (keep_pre _) (fun h' hk => v_nilCheck_ptr rfl) ?_
  refine rm_v (keep_pre _) (fun h' hk => v_fieldAddr fa_base_Comparer_0 rfl) ?_
  refine rm_v (keep_pre _) (fun h' hk => v_load one_base_Compare rfl (Blk.cell (hk.blk (by simp) Bq) _ rfl)) ?_
  refine rm_v (keep_pre _) (fun h' hk => v_move rfl) ?_
  refine rm_v (keep_pre _) (fun h' hk => v_nilCheck_ptr rfl) ?_
  refine rm_v (keep_pre _) (fun h' hk => v_fieldAddr fa_base_Comparer_0 rfl) ?_
  refine rm_v (keep_pre _) (fun h' hk => v_load one_base_Compare rfl (Blk.cell (hk.blk (by simp) Bq) _ rfl)) ?_
  refine rm_v (keep_pre _) (fun h' hk => v_move rfl) ?_
  refine rm_w (fun v h' => PSpans (Up N0 h9 h') h' v W) (fun v _ _ k1 k2 hr => (hr.stab (k2.st ((n0low _).up k1.1))).mono (Up.grow k2.1)) (fun h' hk => OpW.mono (w_call (vs := [_]) ok_impl_spans rfl ⟨rfl, trivial⟩ (c_spans χ h' A (hA.mono (K.new0 hk).1) _ W (hW.stab ((K.new0 hk).st hA)) hn hm)) (fun v h'' hv => ⟨hv.2, hv.1.mono (Up.trans2 hk.1 (Nat.le_refl _))⟩)) ?_
  refine rm_o 27 (fun v h' => ∃ b a c, v = .pointer (some ⟨b, 0, none⟩) ∧ h9.size ≤ b ∧ Blk h' b (itL (.slice a W.length c) (-1)) 187 ∧ PSpans (fun x => h9.size ≤ x ∧ x < b) h' (.slice a W.length c) W) rfl (by kernel_rfl) (fun v _ _ k1 k2 hr => by obtain ⟨b, a, c, e, hb, B, hp⟩ := hr; exact ⟨b, a, c, e, hb, k2.blk (by simp) B, hp.stab (k2.stab fun x hx => ⟨by have := B.lt; have := hx.2; omega, by simp⟩)⟩) (fun u h' hk hu => by
    obtain ⟨a, c, rfl⟩ := SlR.form2 hu
    exact OpW.mono (w_call (vs := [_, _]) ok_keyspan_NewIter rfl ⟨rfl, rfl, trivial⟩ (c_NewIter χ h' a W.length c)) (fun v h'' hv => by
      obtain ⟨e, B, Kn⟩ := hv
      exact ⟨Kn, _, a, c, e, hk.1, B, (PSpans.stab hu (Kn.st ((n0low _).up hk.1))).mono (fun x hx => hx.elim (fun e => e.elim) id)⟩)) ?_
  refine rm_o 28 (fun v h' => ∃ b a c, v = .iface 136 (.pointer (some ⟨b, 0, none⟩)) ∧ h9.size ≤ b ∧ Blk h' b (itL (.slice a W.length c) (-1)) 187 ∧ PSpans (fun x => h9.size ≤ x ∧ x < b) h' (.slice a W.length c) W) rfl (by kernel_rfl) (fun v _ _ k1 k2 hr => by obtain ⟨b, a, c, e, hb, B, hp⟩ := hr; exact ⟨b, a, c, e, hb, k2.blk (by simp) B, hp.stab (k2.stab fun x hx => ⟨by have := B.lt; have := hx.2; omega, by simp⟩)⟩) (fun u h' hk hu => by
    obtain ⟨b, a, c, rfl, hb, B, hp⟩ := hu
    exact (v_makeIface u_p_keyspan_Iter rfl).w.mono (fun _ _ e => by obtain ⟨e1, e2⟩ := e; subst e1; subst e2; exact ⟨Keep.refl _ _, b, a, c, rfl, hb, B, hp⟩)) ?_
  refine rm_v (keep_pre _) (fun h' hk => v_loadAgg (vs := [_, _]) many_impl_Bound rfl (Blk.sub (hk.blk (by simp) B1) 0 2 rfl)) ?_
  refine rm_w (fun v _ => v = .slice none 0 0) (fun v _ _ _ _ hr => hr) (fun h' hk => OpW.mono (w_call (vs := [_]) ok_impl_Bound_bytes rfl ⟨rfl, trivial⟩ (c_Bound_bytes χ h' lo hlo)) (fun v h'' hv => ⟨hv.2, by have := hv.1; rw [hlo0] at this; exact this⟩)) ?_
  refine rm_v (keep_pre _) (fun h' hk => v_loadAgg (vs := [_, _]) many_impl_Bound rfl (Blk.sub (hk.blk (by simp) B2) 0 2 rfl)) ?_
  refine rm_w (fun v _ => v = .slice none 0 0) (fun v _ _ _ _ hr => hr) (fun h' hk => OpW.mono (w_call (vs := [_]) ok_impl_Bound_bytes rfl ⟨rfl, trivial⟩ (c_Bound_bytes χ h' up hup)) (fun v h'' hv => ⟨hv.2, by have := hv.1; rw [hup0] at this; exact this⟩)) ?_
  refine rm_end ?_; intro ha Ka; simp only [endM, hypF, ofE, argE, List.nil_append]
  intro v33 e33 v31 e31 v29 h29 v28 _ v27 _
  subst e33; subst e31
  obtain ⟨bi, wa, wc, rfl, hbi, Bi, hPW⟩ := h29
  have B9 := Ka.blk (by simp) B9
  have B5 := Ka.blk (by simp) B5
  have B6 := Ka.blk (by simp) B6
  have hby := RBytes.stab hby (Ka.stab fun x hx => ⟨by have := hx.2; omega, by simp⟩)
  have K := K.new0 Ka; have Za := Ka.1
  have hbl := Bi.lt
  refine rx_seq ?_
  refine rs_w (w_call (vs := [_, _, _, _, _, _, _, _]) ok_keyspan_BoundedIter_Init rfl ⟨rfl, rfl, rfl, rfl, rfl, rfl, rfl, rfl, trivial⟩ (c_BiInitP χ _ _ _ _ _ _ _ _ _ _ _ _ _ _ _ _ _ _ _ _ _ B9)) rfl ?_
  rintro _ h10 ⟨rfl, Bc, K10⟩
  have Z10 := K10.1
  have hne3 : ∀ x, h9.size ≤ x → x ∉ [h8.size] := fun x hx hm => by rw [List.mem_singleton] at hm; omega
  have Bi := K10.blk (hne3 _ hbi) Bi
  have hPW := hPW.stab (K10.stab fun x hx => ⟨by have := hx.2; omega, hne3 _ hx.1⟩)
  have B5 := K10.blk (by simp; omega) B5
  have B6 := K10.blk (by simp; omega) B6
  have hby := RBytes.stab hby (K10.stab fun x hx => ⟨by have := hx.2; omega, by have := hx.2; simp; omega⟩)
  have K := K.new1 K10 (.inr (by omega))
  have hPr : PreE (fun x => h.size ≤ x ∧ x < h8.size) h10 (.pointer (some ⟨h4.size, 0, none⟩)) (.pointer (some ⟨h5.size, 0, none⟩)) P := ⟨_, _, _, rfl, rfl, ⟨by omega, by omega⟩, ⟨by omega, by omega⟩, B5.cell _ rfl, B6.cell _ rfl, hby.mono fun x hx => ⟨by have := hx.1; omega, by have := hx.2; omega⟩⟩
  refine rs_nil ?_
  refine q_con ?_
  refine rx_nil ?_
  refine q_thn ?_
  refine tr_seq ?_
  refine tr_reg ?_
  refine rs_v (v_makeIface u_p_keyspan_BoundedIter rfl) rfl ?_
  refine rs_v (v_move rfl) rfl ?_
  refine rs_w (w_call (vs := [_, _]) ok_impl_walkSpans rfl ⟨rfl, rfl, trivial⟩ (c_walkSpansA χ h10 A (hA.mono K.1) (segL W i0 i1) _ _ _ _
    (bp_ok hP ⟨_, _, _, rfl⟩ (fun hI => itBP_env hI) (itBP_ok _ _ P χ bi wa wc W 187 hn hO) hO hsg h8.size)
    (fun b => h.size ≤ b ∧ b < h10.size)
    ⟨(by intro e; cases e), .nowhere, (fun x => h.size ≤ x ∧ x < h10.size ∧ x ≠ h8.size), none, none, 0, ⟨⟨-1, (fun x => h9.size ≤ x ∧ x < bi), Bi, trivial, hPW, (fun x hx => ⟨⟨by have := hx.1; omega, by have := hx.2; omega, by have := hx.1; omega⟩, by have := hx.2; omega⟩), ⟨by omega, by omega, by omega⟩, (fun x hx => hx.2.1),
        (fun x => h.size ≤ x ∧ x < h8.size), (fun x hx => ⟨⟨hx.1, by have := hx.2; omega, by have := hx.2; omega⟩, by have := hx.2; omega⟩), hPr⟩, Bc, rfl, (fun hb => hb.2.2 rfl), (fun x hx => ⟨hx.1, hx.2.1⟩), ⟨by omega, by omega⟩, (fun x hx => hx.2)⟩, trivial⟩
    (fun b hb hf => by have := hA b hb; have := hf.1; omega) sv steps (hS.stab (K.st hA)) hsn hz hAl (fun s hs => by rw [← seg_filter hsg] at hs; exact (hm s (List.mem_filter.1 hs).1).2.2.1))) rfl ?_
  rintro r9 h11 ⟨hans, KP⟩
  refine rs_v (v_assign rfl) rfl ?_
  refine rs_nil ?_
  refine q_thn ?_
  refine tr_ret ?_
  refine q_ret (res_tmp rfl rfl) ?_
  have h60 := K.1
  exact ⟨hans.mono (n0up h60 (Nat.le_refl _)), keep_of_p K KP (fun b hb => hb.1)⟩
end Go.Proofs.Ytgebfbnndgjkiaa

/- Fifty-first part: further operations; which spans overlap the keys of a prefix. Conditions: those that each theorem names. -/
namespace Go.Proofs.Ytgebfbnndgjkiaa
open Go.Tess Go.RowKit
set_option maxRecDepth 100000
set_option maxHeartbeats 1000000
section
variable {P : Program} {χ : Chi} {ρ : Operand → Option Value} {h : Heap} {ty : TypeId} {pos : String} {after : Array Edge} {guard : Option (Nat × Bool)} {dst : Option Tmp} {x y : Operand} {t t2 : TypeId}
theorem v_sadd {a b : ByteArray} (hx : ρ x = some (.string a)) (hy : ρ y = some (.string b)) (hs : a.size + b.size ≤ 9223372036854775807) : OpV P χ ⟨dst, .binOp .add t x y t2, ty, pos, after, guard⟩ ρ h (.string (a ++ b)) :=
  v_bin hx hy fun w => by simp [eqGuard, binOp, Op.stringOp]; omega
theorem v_add8 {a b : Int} (hx : ρ x = some (.int .u8 a)) (hy : ρ y = some (.int .u8 b)) (h0 : 0 ≤ a + b) (h1 : a + b ≤ 255) :
    OpV P χ ⟨dst, .binOp .add t x y t2, ty, pos, after, guard⟩ ρ h (.int .u8 (a + b)) :=
  v_bin hx hy fun w => by simp [eqGuard, binOp, Op.intArith, IntWalk.u8_in _ ⟨h0, h1⟩]
theorem v_rem8 {a b : Int} (hx : ρ x = some (.int .u8 a)) (hy : ρ y = some (.int .u8 b)) (h0 : 0 ≤ a) (h1 : a ≤ 255) (h2 : 0 < b) (h3 : b ≤ 255) :
    OpV P χ ⟨dst, .binOp .rem t x y t2, ty, pos, after, guard⟩ ρ h (.int .u8 (a % b)) :=
  v_bin hx hy fun w => by
    have hb : ¬ b = 0 := by omega
    have hm := Int.emod_nonneg a hb
    have hm2 := Int.emod_lt_of_pos a h2
    simp [eqGuard, binOp, Op.intArith, Op.intDiv, hb, Int.tmod_eq_emod_of_nonneg h0, IntWalk.u8_in _ ⟨hm, by omega⟩]
theorem v_strIndex {s : ByteArray} {k : IntKind} {i : Nat} {c : UInt8} (ht : P.underlying t = some .string) (hx : ρ x = some (.string s)) (hy : ρ y = some (.int k (i : Int))) (hc : s.data.toList[i]? = some c) :
    OpV P χ ⟨dst, .index t x y, ty, pos, after, guard⟩ ρ h (.int .u8 (c.toNat : Int)) := by
  intro r d hr
  have e1 := hr x (by simp [Op.operands]) _ hx
  have e2 := hr y (by simp [Op.operands]) _ hy
  have hlt : i < s.size := (List.getElem?_eq_some_iff.1 hc).1
  have h3 := run_index_string (w := mkw χ h d) t s k (i : Int) ht
  rw [dif_pos ⟨by omega, by omega⟩] at h3
  have h4 : s[(i : Int).toNat]'(by simpa using hlt) = c := by
    have := (List.getElem?_eq_some_iff.1 hc).2
    rw [← this]; rfl
  simp only [execOp, e1, e2]
  rw [Sem.run_bind, h3, h4]
  rfl
end

theorem c_spanPrefixBounds (χ : Chi) (h : Heap) (s : SpanD) (kv : Value) (P : ByteArray) (hPs : P.size ≤ 2147483647) :
    Cl Try.prog χ 29 #[.agg #[.string s.s, .string s.e, kv], .string P] h (fun r h' => r = .bool (LoC (some P) s && UpC (some (pre1 P)) s) ∧ Keep [] h h') := by
  refine cl_intro Try.func29 rfl rfl rfl ?_
  have K : Keep [] h h := Keep.refl _ _
  refine tr_seq ?_
  refine tr_reg ?_
  refine rs_w (w_newbox rfl) rfl ?_
  rintro _ h1 ⟨rfl, B1, K1, Z1⟩
  have S1 := K.1; have K := K.new0 K1
  refine rs_v (v_assign rfl) rfl ?_
  refine rs_nil ?_
  refine q_thn ?_
  refine tr_cut (fun E h' => h1 = h' ∧ E = [(4, .bool (LoC (some P) s && UpC (some (pre1 P)) s))]) ?_ ?_
  ·
    rcases Bool.eq_false_or_eq_true (slt s.s (P ++ ⟨#[1]⟩)) with hq | hq
    · skip
      refine tr_reg ?_
      refine rs_v (v_fieldAddr fa_spec_Span_0 rfl) rfl ?_
      refine rs_v (v_load one_string rfl (by exact B1.cell _ rfl)) rfl ?_
      refine rs_v (v_move rfl) rfl ?_
      refine rs_v (v_sadd rfl rfl (by show P.size + 1 ≤ _; omega)) rfl ?_
      refine rs_v (v_slt rfl rfl) rfl ?_
      refine rs_v (v_move rfl) rfl ?_
      refine rs_gv rfl (lkb hq) (v_fieldAddr fa_spec_Span_1 rfl) rfl ?_
      refine rs_gv rfl (lkb hq) (v_load one_string rfl (by exact B1.cell _ rfl)) rfl ?_
      refine rs_gv rfl (lkb hq) (v_move rfl) rfl ?_
      refine rs_gv rfl (lkb hq) (v_sgt rfl rfl) rfl ?_
      refine rs_v (v_pick_t (lkb hq) rfl) rfl ?_
      refine rs_v (v_assign rfl) rfl ?_
      refine rs_nil ?_
      exact q_cut [(4, _)] ⟨rfl, trivial⟩ ⟨rfl, by rw [show (LoC (some P) s && UpC (some (pre1 P)) s) = !(sle s.e P) from by rw [show UpC (some (pre1 P)) s = true from hq, nsle, Bool.and_true]; rfl]⟩
    · skip
      refine tr_reg ?_
      refine rs_v (v_fieldAddr fa_spec_Span_0 rfl) rfl ?_
      refine rs_v (v_load one_string rfl (by exact B1.cell _ rfl)) rfl ?_
      refine rs_v (v_move rfl) rfl ?_
      refine rs_v (v_sadd rfl rfl (by show P.size + 1 ≤ _; omega)) rfl ?_
      refine rs_v (v_slt rfl rfl) rfl ?_
      refine rs_v (v_move rfl) rfl ?_
      refine rs_gs rfl (lkb hq) rfl rfl ?_
      refine rs_gs rfl (lkb hq) rfl rfl ?_
      refine rs_gs rfl (lkb hq) rfl rfl ?_
      refine rs_gs rfl (lkb hq) rfl rfl ?_
      refine rs_v (v_pick_f (lkb hq) rfl) rfl ?_
      refine rs_v (v_assign rfl) rfl ?_
      refine rs_nil ?_
      exact q_cut [(4, _)] ⟨rfl, trivial⟩ ⟨rfl, by rw [show (LoC (some P) s && UpC (some (pre1 P)) s) = false from by rw [show UpC (some (pre1 P)) s = false from hq, Bool.and_false]]⟩
  rintro E h99 ⟨hh, rfl⟩
  subst hh
  refine tr_ret ?_
  refine q_ret (res_tmp rfl rfl) ?_
  exact ⟨rfl, K⟩
end Go.Proofs.Ytgebfbnndgjkiaa

/- Fifty-second part: the law of spans in prefix mode, walked. Conditions: those that each theorem names. -/
namespace Go.Proofs.Ytgebfbnndgjkiaa
open Go.Tess Go.RowKit
set_option maxRecDepth 100000
set_option maxHeartbeats 2000000
theorem v_rem8n {P : Program} {χ : Chi} {ρ : Operand → Option Value} {h : Heap} {ty : TypeId} {pos : String} {after : Array Edge} {guard : Option (Nat × Bool)} {dst : Option Tmp} {x y : Operand} {t t2 : TypeId} {a b : Int} {r : Nat} (hx : ρ x = some (.int .u8 a)) (hy : ρ y = some (.int .u8 b)) (h0 : 0 ≤ a) (h1 : a ≤ 255) (h2 : 0 < b) (h3 : b ≤ 255) (hr : a % b = (r : Int)) :
    OpV P χ ⟨dst, .binOp .rem t x y t2, ty, pos, after, guard⟩ ρ h (.int .u8 (r : Int)) := hr ▸ v_rem8 hx hy h0 h1 h2 h3
theorem cmp_app_le : ∀ (l x : List UInt8), Lib.compareBytes l (l ++ x) ≤ 0
  | [], [] => by simp [Lib.compareBytes]
  | [], c :: r => by simp [Lib.compareBytes]
  | c :: r, x => by simp only [Lib.compareBytes, List.cons_append, UInt8.lt_irrefl, if_false]; exact cmp_app_le r x
theorem cmp_app_lt : ∀ (l x : List UInt8), Lib.compareBytes (l ++ 0 :: x) (l ++ [1]) < 0
  | [], x => by simp [Lib.compareBytes]
  | c :: r, x => by simp only [Lib.compareBytes, List.cons_append, UInt8.lt_irrefl, if_false]; exact cmp_app_lt r x
theorem sle_app (P x : ByteArray) : sle P (P ++ x) = true := by
  rw [sle_cmp]
  have := cmp_app_le P.data.toList x.data.toList
  apply decide_eq_true
  unfold cmpB
  rw [show (P ++ x).data.toList = P.data.toList ++ x.data.toList from by simp [ByteArray.data_append]]
  exact this
theorem sle_pre0 (P x : ByteArray) : sle (P ++ (⟨#[0]⟩ ++ x)) (pre1 P) = true := by
  rw [sle_cmp]
  have := cmp_app_lt P.data.toList x.data.toList
  apply decide_eq_true
  unfold cmpB
  rw [show (P ++ (⟨#[0]⟩ ++ x)).data.toList = P.data.toList ++ 0 :: x.data.toList from by simp [ByteArray.data_append], show (pre1 P).data.toList = P.data.toList ++ [1] from by simp [pre1, ByteArray.data_append]]
  omega
theorem ord_pre (P : ByteArray) : ordB (some P) (some (pre1 P)) := fun l u hl hu => by cases hl; cases hu; exact sle_app P _
def aB : ByteArray := ⟨#[97]⟩
def startA : List StepD := [⟨4, aB⟩]
theorem noZ_a : noZ aB := by intro c hc; simp [aB] at hc; subst hc; decide
theorem alP_a : ∀ s, s ∈ startA → AlP aB s := by
  intro s hs
  simp [startA] at hs
  subst hs
  exact .inr ⟨rfl, sle_refl _, sle_app aB _⟩
theorem smallA : ∀ s, s ∈ startA → s.key.size ≤ 9223372036854775807 := by intro s hs; simp [startA] at hs; subst hs; decide
theorem found_a : walkP (someW.filter (fun s => LoC (some aB) s && UpC (some (pre1 aB)) s)) .nowhere startA = [⟨true, true, ⟨⟨#[97]⟩, ⟨#[98]⟩, [⟨256, ByteArray.empty, ByteArray.empty⟩]⟩⟩] := by
  have h1 : slt aB ⟨#[98]⟩ = true := by rw [slt_cmp]; decide
  have h2 : slt ⟨#[97]⟩ (pre1 aB) = true := by rw [slt_cmp]; decide
  have h3 : someW.filter (fun s => LoC (some aB) s && UpC (some (pre1 aB)) s) = someW := by simp [someW, LoC, UpC, h1, h2]
  have h4 : geI someW aB = 0 := by simp only [someW, geI]; rw [not_sle.2 h1]; rfl
  rw [h3]
  simp only [startA, walkP, stepP]
  simp [pGE, h4]
  simp [someW, ansOf, cur]
theorem some_at {h : Heap} {g1 g2 c1 c2 : Nat} {T1 T2 : TypeId} (B1 : Blk h g1 [.int .u64 256, .string ByteArray.empty, .string ByteArray.empty] T1) (B2 : Blk h g2 [.string ⟨#[97]⟩, .string ⟨#[98]⟩, .slice (some ⟨g1, 0, none⟩) 1 c1] T2) : RSpans (All h) h (.slice (some ⟨g2, 0, none⟩) 1 c2) someW := by
  refine ⟨by decide, _, _, rfl, fun i x hi => ⟨g2, 0, rfl, B2.lt, ?_⟩⟩
  cases i with
  | zero =>
    simp [someW] at hi; subst hi
    refine ⟨_, B2.cells, ⟨by simp, _, _, rfl, fun i x hi => ⟨g1, 0, rfl, B1.lt, ?_⟩⟩⟩
    cases i with
    | zero => simp at hi; subst hi; exact B1.cells
    | succ i => simp at hi
  | succ i => simp [someW] at hi
theorem start_at {h : Heap} {g c : Nat} {T : TypeId} (B : Blk h g [.int .u8 4, .string ⟨#[97]⟩] T) : RSteps (All h) h (.slice (some ⟨g, 0, none⟩) 1 c) startA := by
  refine ⟨by decide, _, _, rfl, fun i x hi => ⟨g, 0, rfl, B.lt, ?_⟩⟩
  cases i with
  | zero => simp [startA] at hi; subst hi; exact B.cells
  | succ i => simp [startA] at hi
def preS (key : ByteArray) (r : Nat) : List StepD := ⟨4, key⟩ :: List.replicate r nextS
theorem preS_succ (key : ByteArray) (r : Nat) : preS key (r + 1) = preS key r ++ [nextS] := by simp [preS, List.replicate_succ']
theorem preS_len (key : ByteArray) (r : Nat) : (preS key r).length = r + 1 := by simp [preS]
theorem preS_al {P key : ByteArray} (h1 : sle P key = true) (h2 : sle key (pre1 P) = true) (r : Nat) : ∀ s, s ∈ preS key r → AlP P s := by
  intro s hs
  simp only [preS, List.mem_cons, List.mem_replicate] at hs
  rcases hs with rfl | ⟨_, rfl⟩
  · exact .inr ⟨rfl, h1, h2⟩
  · exact .inl rfl
theorem preS_small {key : ByteArray} (h : key.size ≤ 9223372036854775807) (r : Nat) : ∀ s, s ∈ preS key r → s.key.size ≤ 9223372036854775807 := by
  intro s hs
  simp only [preS, List.mem_cons, List.mem_replicate] at hs
  rcases hs with rfl | ⟨_, rfl⟩
  · exact h
  · decide

theorem c_FnSpanPrefixed (χ : Chi) (h : Heap) (A : Nat → Prop) (hA : Low A h) (v : Value) (W : List SpanD) (P suf : ByteArray) (some9 : Bool) (n : Int) (hn0 : 0 ≤ n) (hn1 : n ≤ 255) (hW : RSpans A h v W) :
    Cl Try.prog χ 5 #[v, .string P, .string suf, .bool some9, .int .u8 n] h (fun r h' => r = .bool true ∧ Keep [] h h') := by
  have hW := RSpans.mono hW hA
  obtain ⟨a, c, rfl⟩ := SlR.form2 hW
  refine cl_intro Try.func5 rfl rfl rfl ?_
  have K : Keep [] h h := Keep.refl _ _
  refine tr_seq ?_
  refine tr_reg ?_
  refine rs_v (v_assign rfl) rfl ?_
  refine rs_nil ?_
  refine q_thn ?_
  refine tr_seq ?_
  refine tr_cut (fun E h' => Keep [] h h' ∧ E = [(0, .slice a W.length c), (1, .string P), (2, .string suf), (3, .bool some9), (4, .int .u8 n), (10, .bool false), (32, .bool ((!fit4 W) || (decide ((2147483647 : Int) < (P.size : Int))) || (decide ((2147483647 : Int) < (suf.size : Int)))))]) ?_ ?_
  ·
    rcases bsplit3 (!fit4 W) (decide ((2147483647 : Int) < (P.size : Int))) with g1 | ⟨g1, g2⟩ | ⟨g1, g2⟩
    · skip
      refine tr_reg ?_
      refine rs_v (v_move rfl) rfl ?_
      refine rs_w (w_call (vs := [_]) ok_laws_zzFits4 rfl ⟨rfl, trivial⟩ (c_zzFits4 χ h (All h) (all_low h) _ W hW)) rfl ?_
      rintro _ h1 ⟨rfl, K1⟩
      have K := K.new0 K1; have Z1 := K1.1
      refine rs_v (v_not rfl) rfl ?_
      refine rs_v (v_move rfl) rfl ?_
      refine rs_gs rfl (lkb g1) rfl rfl ?_
      refine rs_gs rfl (lkb g1) rfl rfl ?_
      refine rs_gs rfl (lkb g1) rfl rfl ?_
      refine rs_v (v_pick_t (lkb g1) rfl) rfl ?_
      refine rs_v (v_move rfl) rfl ?_
      refine rs_gs rfl (rfl) rfl rfl ?_
      refine rs_gs rfl (rfl) rfl rfl ?_
      refine rs_gs rfl (rfl) rfl rfl ?_
      refine rs_v (v_pick_t rfl rfl) rfl ?_
      refine rs_nil ?_
      exact q_cut [(0, _), (1, _), (2, _), (3, _), (4, _), (10, _), (32, _)] ⟨rfl, rfl, rfl, rfl, rfl, rfl, rfl, trivial⟩ ⟨K, by rw [show ((!fit4 W) || (decide ((2147483647 : Int) < (P.size : Int))) || (decide ((2147483647 : Int) < (suf.size : Int)))) = (true) from by simp only [g1, Bool.true_or, Bool.false_or]]⟩
    · skip
      refine tr_reg ?_
      refine rs_v (v_move rfl) rfl ?_
      refine rs_w (w_call (vs := [_]) ok_laws_zzFits4 rfl ⟨rfl, trivial⟩ (c_zzFits4 χ h (All h) (all_low h) _ W hW)) rfl ?_
      rintro _ h2 ⟨rfl, K2⟩
      have K := K.new0 K2; have Z2 := K2.1
      refine rs_v (v_not rfl) rfl ?_
      refine rs_v (v_move rfl) rfl ?_
      refine rs_gv rfl (lkb g1) (v_move rfl) rfl ?_
      refine rs_gv rfl (lkb g1) (v_lenStr u_string rfl) rfl ?_
      refine rs_gv rfl (lkb g1) (v_gt rfl rfl) rfl ?_
      refine rs_v (v_pick_f (lkb g1) rfl) rfl ?_
      refine rs_v (v_move rfl) rfl ?_
      refine rs_gs rfl (lkb g2) rfl rfl ?_
      refine rs_gs rfl (lkb g2) rfl rfl ?_
      refine rs_gs rfl (lkb g2) rfl rfl ?_
      refine rs_v (v_pick_t (lkb g2) rfl) rfl ?_
      refine rs_nil ?_
      exact q_cut [(0, _), (1, _), (2, _), (3, _), (4, _), (10, _), (32, _)] ⟨rfl, rfl, rfl, rfl, rfl, rfl, rfl, trivial⟩ ⟨K, by rw [show ((!fit4 W) || (decide ((2147483647 : Int) < (P.size : Int))) || (decide ((2147483647 : Int) < (suf.size : Int)))) = (true) from by simp only [g1, g2, Bool.true_or, Bool.false_or]]⟩
    · skip
      refine tr_reg ?_
      refine rs_v (v_move rfl) rfl ?_
      refine rs_w (w_call (vs := [_]) ok_laws_zzFits4 rfl ⟨rfl, trivial⟩ (c_zzFits4 χ h (All h) (all_low h) _ W hW)) rfl ?_
      rintro _ h3 ⟨rfl, K3⟩
      have K := K.new0 K3; have Z3 := K3.1
      refine rs_v (v_not rfl) rfl ?_
      refine rs_v (v_move rfl) rfl ?_
      refine rs_gv rfl (lkb g1) (v_move rfl) rfl ?_
      refine rs_gv rfl (lkb g1) (v_lenStr u_string rfl) rfl ?_
      refine rs_gv rfl (lkb g1) (v_gt rfl rfl) rfl ?_
      refine rs_v (v_pick_f (lkb g1) rfl) rfl ?_
      refine rs_v (v_move rfl) rfl ?_
      refine rs_gv rfl (lkb g2) (v_move rfl) rfl ?_
      refine rs_gv rfl (lkb g2) (v_lenStr u_string rfl) rfl ?_
      refine rs_gv rfl (lkb g2) (v_gt rfl rfl) rfl ?_
      refine rs_v (v_pick_f (lkb g2) rfl) rfl ?_
      refine rs_nil ?_
      exact q_cut [(0, _), (1, _), (2, _), (3, _), (4, _), (10, _), (32, _)] ⟨rfl, rfl, rfl, rfl, rfl, rfl, rfl, trivial⟩ ⟨K, by rw [show ((!fit4 W) || (decide ((2147483647 : Int) < (P.size : Int))) || (decide ((2147483647 : Int) < (suf.size : Int)))) = (decide ((2147483647 : Int) < (suf.size : Int))) from by simp only [g1, g2, Bool.true_or, Bool.false_or]]⟩
  rintro E h99 ⟨K, rfl⟩
  refine tr_if rfl (fun hif => ?_) (fun hif => ?_)
  · -- yes
    skip
    refine tr_seq ?_
    refine tr_reg ?_
    refine rs_v (v_assign rfl) rfl ?_
    refine rs_nil ?_
    refine q_thn ?_
    refine tr_ret ?_
    refine q_thn_ret ?_
    refine q_ret (res_tmp rfl rfl) ?_
    exact ⟨rfl, K⟩
  -- no
  simp only [Bool.or_eq_false_iff, Bool.not_eq_false', decide_eq_false_iff_not] at hif
  obtain ⟨⟨hf4, hlo⟩, hup⟩ := hif
  refine tr_skip ?_
  refine q_thn ?_
  refine tr_seq ?_
  refine tr_cut (fun E h' => Keep [] h h' ∧ E = [(0, .slice a W.length c), (1, .string P), (2, .string suf), (3, .bool some9), (4, .int .u8 n), (10, .bool false), (40, .bool ((!(mostB W 40 && wellB W)) || (decide ((40 : Int) < (P.size : Int)))))]) ?_ ?_
  ·
    rcases bsplit2 (!(mostB W 40 && wellB W)) with g1 | g1
    · skip
      refine tr_reg ?_
      refine rs_v (v_move rfl) rfl ?_
      refine rs_w (w_call (vs := [_, _]) ok_laws_spanWell rfl ⟨rfl, rfl, trivial⟩ (c_spanWell χ _ _ (all_low _) _ W 40 (RSpans.kk hW K))) rfl ?_
      rintro _ h5 ⟨rfl, K5⟩
      have K := K.new0 K5; have Z5 := K5.1
      refine rs_v (v_not rfl) rfl ?_
      refine rs_v (v_move rfl) rfl ?_
      refine rs_gs rfl (lkb g1) rfl rfl ?_
      refine rs_gs rfl (lkb g1) rfl rfl ?_
      refine rs_gs rfl (lkb g1) rfl rfl ?_
      refine rs_v (v_pick_t (lkb g1) rfl) rfl ?_
      refine rs_nil ?_
      exact q_cut [(0, _), (1, _), (2, _), (3, _), (4, _), (10, _), (40, _)] ⟨rfl, rfl, rfl, rfl, rfl, rfl, rfl, trivial⟩ ⟨K, by rw [show ((!(mostB W 40 && wellB W)) || (decide ((40 : Int) < (P.size : Int)))) = (true) from by simp only [g1, Bool.true_or, Bool.false_or]]⟩
    · skip
      refine tr_reg ?_
      refine rs_v (v_move rfl) rfl ?_
      refine rs_w (w_call (vs := [_, _]) ok_laws_spanWell rfl ⟨rfl, rfl, trivial⟩ (c_spanWell χ _ _ (all_low _) _ W 40 (RSpans.kk hW K))) rfl ?_
      rintro _ h6 ⟨rfl, K6⟩
      have K := K.new0 K6; have Z6 := K6.1
      refine rs_v (v_not rfl) rfl ?_
      refine rs_v (v_move rfl) rfl ?_
      refine rs_gv rfl (lkb g1) (v_move rfl) rfl ?_
      refine rs_gv rfl (lkb g1) (v_lenStr u_string rfl) rfl ?_
      refine rs_gv rfl (lkb g1) (v_gt rfl rfl) rfl ?_
      refine rs_v (v_pick_f (lkb g1) rfl) rfl ?_
      refine rs_nil ?_
      exact q_cut [(0, _), (1, _), (2, _), (3, _), (4, _), (10, _), (40, _)] ⟨rfl, rfl, rfl, rfl, rfl, rfl, rfl, trivial⟩ ⟨K, by rw [show ((!(mostB W 40 && wellB W)) || (decide ((40 : Int) < (P.size : Int)))) = (decide ((40 : Int) < (P.size : Int))) from by simp only [g1, Bool.true_or, Bool.false_or]]⟩
  rintro E h99 ⟨K, rfl⟩
  refine tr_if rfl (fun hif => ?_) (fun hif => ?_)
  · -- yes
    skip
    refine tr_seq ?_
    refine tr_reg ?_
    refine rs_v (v_assign rfl) rfl ?_
    refine rs_nil ?_
    refine q_thn ?_
    refine tr_ret ?_
    refine q_thn_ret ?_
    refine q_ret (res_tmp rfl rfl) ?_
    exact ⟨rfl, K⟩
  -- no
  simp only [Bool.or_eq_false_iff, Bool.not_eq_false', decide_eq_false_iff_not] at hif
  obtain ⟨hw, hp40⟩ := hif
  obtain ⟨hG, _⟩ := good_of (by decide) hf4 hw
  obtain ⟨r, hr⟩ : ∃ r : Nat, n % 12 = (r : Int) := ⟨(n % 12).toNat, by omega⟩
  have hr12 : r < 12 := by omega
  refine tr_skip ?_
  refine q_thn ?_
  refine tr_seq ?_
  refine tr_seq ?_
  refine tr_reg ?_
  refine rs_v (v_assign rfl) rfl ?_
  refine rs_nil ?_
  refine q_thn ?_
  refine tr_block ?_
  refine tr_loop (fun m E h' => ∃ k, k ≤ P.size ∧ m = P.size - k ∧ E = [(0, .slice a W.length c), (1, .string P), (2, .string suf), (3, .bool some9), (4, .int .u8 n), (10, .bool false), (11, .int .i64 (k : Int))] ∧ Keep [] h h' ∧ ∀ (j : Nat) c9, j < k → P.data.toList[j]? = some c9 → c9 ≠ 0) P.size [(0, _), (1, _), (2, _), (3, _), (4, _), (10, _), (11, _)] ⟨rfl, rfl, rfl, rfl, rfl, rfl, rfl, trivial⟩ ⟨0, Nat.zero_le _, rfl, rfl, K, fun j c9 hj => by omega⟩ ?_
  rintro m E hL8 ⟨k, hk, rfl, rfl, K, hnz⟩
  refine tr_seq ?_
  refine tr_seq ?_
  refine tr_reg ?_
  refine rs_v (v_move rfl) rfl ?_
  refine rs_v (v_move rfl) rfl ?_
  refine rs_v (v_lenStr u_string rfl) rfl ?_
  refine rs_v (v_lt rfl rfl) rfl ?_
  refine rs_nil ?_
  refine q_thn ?_
  refine tr_ifn rfl (fun hif => ?_) (fun hif => ?_)
  · -- no
    simp only [decide_eq_true_eq, decide_eq_false_iff_not] at hif
    have hkk : k = P.size := by omega
    subst hkk
    have hP : noZ P := fun c9 hc => by
      obtain ⟨j, hj, e⟩ := List.mem_iff_getElem.1 hc
      exact hnz j c9 hj (by rw [List.getElem?_eq_getElem hj, e])
    refine tr_exit ?_
    refine q_thn_exit ?_
    refine q_lp_exit ?_
    refine q_blk_hit ?_
    refine q_thn ?_
    refine tr_seq ?_
    refine tr_reg ?_
    refine rs_v (v_move rfl) rfl ?_
    refine rs_v (v_assign rfl) rfl ?_
    refine rs_nil ?_
    refine q_thn ?_
    refine tr_cut (fun E h' => ∃ key : ByteArray, sle P key = true ∧ sle key (pre1 P) = true ∧ key.size ≤ 4294967295 ∧ Keep [] h h' ∧ E = [(0, .slice a W.length c), (1, .string P), (4, .int .u8 n), (10, .bool false), (12, .string key)]) ?_ ?_
    ·
      refine tr_seq ?_
      refine tr_reg ?_
      refine rs_v (v_move rfl) rfl ?_
      refine rs_nil ?_
      refine q_thn ?_
      refine tr_if rfl (fun hif => ?_) (fun hif => ?_)
      · -- yes
        skip
        refine tr_reg ?_
        refine rs_v (v_move rfl) rfl ?_
        refine rs_v (v_move rfl) rfl ?_
        refine rs_v (v_sadd rfl rfl (by show 1 + suf.size ≤ _; omega)) rfl ?_
        refine rs_v (v_sadd rfl rfl (by simp only [ByteArray.size_append]; show P.size + (1 + suf.size) ≤ _; omega)) rfl ?_
        refine rs_v (v_assign rfl) rfl ?_
        refine rs_nil ?_
        exact q_cut [(0, _), (1, _), (4, _), (10, _), (12, _)] ⟨rfl, rfl, rfl, rfl, rfl, trivial⟩ ⟨_, sle_app _ _, sle_pre0 _ _, by show (P ++ (⟨#[0]⟩ ++ suf)).size ≤ _; simp only [ByteArray.size_append]; show P.size + (1 + suf.size) ≤ _; omega, K, rfl⟩
      -- no
      skip
      refine tr_skip ?_
      exact q_cut [(0, _), (1, _), (4, _), (10, _), (12, _)] ⟨rfl, rfl, rfl, rfl, rfl, trivial⟩ ⟨_, sle_refl _, sle_app _ _, by omega, K, rfl⟩
    rintro E h98 ⟨key, hk1, hk2, hk3, K, rfl⟩
    refine tr_seq ?_
    refine tr_reg ?_
    refine rs_v (v_move rfl) rfl ?_
    refine rs_v (v_build2 rfl rfl (bld_spec_Step_0_1 _ _)) rfl ?_
    refine rs_w (w_new1 u_sl_spec_Step siz_spec_Step zero_spec_Step rfl rfl rfl rfl rfl) rfl ?_
    rintro _ h10 ⟨rfl, B10, K10, Z10⟩
    have S10 := K.1; have K := K.new0 K10
    refine rs_v (v_assign rfl) rfl ?_
    refine rs_nil ?_
    refine q_thn ?_
    refine tr_seq ?_
    refine tr_seq ?_
    refine tr_reg ?_
    refine rs_v (v_move rfl) rfl ?_
    refine rs_v (v_rem8n rfl rfl hn0 hn1 (by decide) (by decide) hr) rfl ?_
    refine rs_v (v_move rfl) rfl ?_
    refine rs_nil ?_
    refine q_thn ?_
    refine tr_block ?_
    refine tr_loop (fun m E h' => ∃ k v xs, k ≤ r ∧ m = r - k ∧ E = [(0, .slice a W.length c), (1, .string P), (10, .bool false), (13, v), (61, .int .u8 (r : Int)), (62, .int .u8 (k : Int))] ∧ Keep [] h h' ∧ Own h' h98.size 52 2 v (k + 1) xs ∧ RowsR 2 (cStep N0 h) xs (preS key k)) r [(0, _), (1, _), (10, _), (13, _), (61, _), (62, _)] ⟨rfl, rfl, rfl, rfl, rfl, rfl, trivial⟩ ⟨0, _, _, Nat.zero_le _, rfl, rfl, K, own_new B10 (Nat.le_refl _) rfl, (RowsR.nil 2 (cStep N0 h)).snoc rfl rfl⟩ ?_
    rintro m E hL11 ⟨k, v, xs, hk, rfl, rfl, K, O, hrow⟩
    obtain ⟨_, _, _, hz1, hz2, _⟩ := own_some O
    have hob := own_ne O; have KL := Keep.refl [] hL11
    refine tr_seq ?_
    refine tr_reg ?_
    refine rs_v (v_lt rfl rfl) rfl ?_
    refine rs_nil ?_
    refine q_thn ?_
    refine tr_seq ?_
    refine tr_ifn rfl (fun hif => ?_) (fun hif => ?_)
    · -- no
      simp only [decide_eq_true_eq, decide_eq_false_iff_not] at hif
      have hkk : r = k := by omega
      subst hkk
      have hst : RSteps (All hL11) hL11 v (preS key r) := SlR.of_rows O (preS_len key r).symm hrow (fun b _ hb => hb) (fun b o c a hc hr => cStep_r N0 _ b o c a hc hr)
      obtain ⟨sa, sc, hsv⟩ := SlR.form2 hst
      rw [preS_len] at hsv
      subst hsv
      have hW := RSpans.kk hW K
      have KA := K
      have K : Keep [] hL11 hL11 := Keep.refl _ _
      have hA := all_low hL11
      obtain ⟨_, _, _, e9, hx⟩ := SlR.form hW
      cases e9
      refine tr_exit ?_
      refine q_thn_exit ?_
      refine q_lp_exit ?_
      refine q_blk_hit ?_
      refine q_thn ?_
      refine tr_seq ?_
      refine tr_reg ?_
      refine rs_v (v_assign rfl) rfl ?_
      refine rs_nil ?_
      refine q_thn ?_
      refine tr_seq ?_
      refine tr_seq ?_
      refine tr_reg ?_
      refine rs_v (v_move rfl) rfl ?_
      refine rs_v (v_len u_sl_spec_Span rfl) rfl ?_
      refine rs_v (v_move rfl) rfl ?_
      refine rs_nil ?_
      refine q_thn ?_
      refine tr_block ?_
      refine tr_loop (fun m E h' => ∃ k v n, k ≤ W.length ∧ m = W.length - k ∧ E = [(14, v), (0, .slice a W.length c), (1, .string P), (10, .bool false), (13, .slice sa (r + 1) sc), (69, .slice a W.length c), (70, .int .i64 (W.length : Int)), (71, .int .i64 (k : Int))] ∧ Keep [] hL11 h' ∧ n = ((W.take k).filterMap (ffB (some P) (some (pre1 P)))).length ∧ OutR (All hL11) hL11 h' hL11.size 55 3 cSpan v n ((W.take k).filterMap (ffB (some P) (some (pre1 P))))) W.length [(14, _), (0, _), (1, _), (10, _), (13, _), (69, _), (70, _), (71, _)] ⟨rfl, rfl, rfl, rfl, rfl, rfl, rfl, rfl, trivial⟩ ⟨0, _, 0, Nat.zero_le _, rfl, rfl, K, rfl, OutR.nil _ _ _ _ _ _ _⟩ ?_
      rintro m E hL12 ⟨k, v, n, hk, rfl, rfl, K, hn, hout⟩
      have hout0 := hout
      obtain ⟨xs, F, O, hrow, hF⟩ := hout
      have KL0 := K.1
      have hob := own_ne O; have KL := Keep.refl [] hL12
      refine tr_seq ?_
      refine tr_reg ?_
      refine rs_v (v_lt rfl rfl) rfl ?_
      refine rs_nil ?_
      refine q_thn ?_
      refine tr_seq ?_
      refine tr_ifn rfl (fun hif => ?_) (fun hif => ?_)
      · -- no
        simp only [decide_eq_true_eq, decide_eq_false_iff_not] at hif
        have hkk : k = W.length := by omega
        subst hkk
        rw [List.take_length] at hout0 hn
        have hF := hout0.fin cSpan_st hn (Nat.le_refl _) cSpan_r
        rw [ffB_filter] at hF
        have hF := RSpans.mono hF (upA K)
        obtain ⟨fa, fc, rfl⟩ := SlR.form2 hF
        have hW := RSpans.kk hW K
        have hst := RSteps.kk hst K
        have KA := KA.new0 K
        have K : Keep [] hL12 hL12 := Keep.refl _ _
        refine tr_exit ?_
        refine q_thn_exit ?_
        refine q_lp_exit ?_
        refine q_blk_hit ?_
        refine q_thn ?_
        refine tr_seq ?_
        refine tr_reg ?_
        refine rs_v (v_build1 rfl (bld_impl_SpanKey_0 _)) rfl ?_
        refine rs_w (w_new1 u_sl_impl_SpanKey siz_impl_SpanKey zero_impl_SpanKey rfl rfl rfl rfl rfl) rfl ?_
        rintro _ h13 ⟨rfl, B13, K13, Z13⟩
        have O := O.keep2 K13 (fun x hm => by have := hob x hm; simp; try omega)
        have S13 := K.1; have K := K.new0 K13; have KL := KL.new0 K13
        refine rs_v (v_build3 rfl rfl rfl (bld_impl_Span_0_1_2 _ _ _ _ _)) rfl ?_
        refine rs_w (w_new1 u_sl_impl_Span siz_impl_Span zero_impl_Span rfl rfl rfl rfl rfl) rfl ?_
        rintro _ h14 ⟨rfl, B14, K14, Z14⟩
        have B13 := K14.blk (by simp) B13
        have O := O.keep2 K14 (fun x hm => by have := hob x hm; simp; try omega)
        have S14 := K.1; have K := K.new0 K14; have KL := KL.new0 K14
        refine rs_v (v_assign rfl) rfl ?_
        refine rs_nil ?_
        refine q_thn ?_
        refine tr_seq ?_
        refine tr_reg ?_
        refine rs_v (v_move rfl) rfl ?_
        refine rs_v (v_build0 (bld_impl_Bound_)) rfl ?_
        refine rs_v (v_build0 (bld_impl_Bound_)) rfl ?_
        refine rs_v (v_build2 rfl rfl (bld_impl_Step_0_1 _ _)) rfl ?_
        refine rs_w (w_new1 u_sl_impl_Step siz_impl_Step zero_impl_Step rfl rfl rfl rfl rfl) rfl ?_
        rintro _ h15 ⟨rfl, B15, K15, Z15⟩
        have B13 := K15.blk (by simp) B13
        have B14 := K15.blk (by simp) B14
        have O := O.keep2 K15 (fun x hm => by have := hob x hm; simp; try omega)
        have S15 := K.1; have K := K.new0 K15; have KL := KL.new0 K15
        refine rs_w (w_call (vs := [_, _, _, _, _]) ok_impl_SpanPrefixed rfl ⟨rfl, rfl, rfl, rfl, rfl, trivial⟩ (c_implSpanPrefixed χ _ _ (all_low _) _ _ someW startA noB noB aB noZ_a (some_at B13 B14) some_good.n some_good.small some_good.ord (by decide) (by decide) rfl rfl (by decide) (ord_pre _) (start_at B15) (by decide) smallA alP_a)) rfl ?_
        rintro hfov h16 ⟨hfo, K16⟩
        rw [found_a] at hfo
        have hfo := RAnss.mono hfo (upN K16)
        obtain ⟨hfoa, hfoc, rfl⟩ := SlR.form2 hfo
        have B13 := K16.blk (by simp) B13
        have B14 := K16.blk (by simp) B14
        have B15 := K16.blk (by simp) B15
        have O := O.keep2 K16 (fun x hm => by have := hob x hm; simp; try omega)
        have K := K.new0 K16; have Z16 := K16.1; have KL := KL.new0 K16
        refine rs_v (v_assign rfl) rfl ?_
        refine rs_nil ?_
        refine q_thn ?_
        refine tr_seq ?_
        refine tr_reg ?_
        refine rs_v (v_move rfl) rfl ?_
        refine rs_w (w_call (vs := [_]) ok_laws_toSpans rfl ⟨rfl, trivial⟩ (c_toSpans χ _ _ (all_low _) _ W (RSpans.kk hW K) hG.n hG.few)) rfl ?_
        rintro hQv h17 ⟨hQ, K17⟩
        have hQ := RSpans.mono hQ (upA K17)
        obtain ⟨hQa, hQc, rfl⟩ := SlR.form2 hQ
        have B13 := K17.blk (by simp) B13
        have B14 := K17.blk (by simp) B14
        have B15 := K17.blk (by simp) B15
        have hfo := RAnss.kk hfo K17
        have O := O.keep2 K17 (fun x hm => by have := hob x hm; simp; try omega)
        have K := K.new0 K17; have Z17 := K17.1; have KL := KL.new0 K17
        refine rs_v (v_build0 (bld_impl_Bound_)) rfl ?_
        refine rs_v (v_build0 (bld_impl_Bound_)) rfl ?_
        refine rs_v (v_move rfl) rfl ?_
        refine rs_v (v_move rfl) rfl ?_
        refine rs_w (w_call (vs := [_]) ok_laws_toSteps rfl ⟨rfl, trivial⟩ (c_toSteps χ _ _ (all_low _) _ (preS key r) (RSteps.kk hst K) (by rw [preS_len]; omega))) rfl ?_
        rintro hQsv h18 ⟨hQs, K18⟩
        have hQs := RSteps.mono hQs (upA K18)
        obtain ⟨hQsa, hQsc, rfl⟩ := SlR.form2 hQs
        have B13 := K18.blk (by simp) B13
        have B14 := K18.blk (by simp) B14
        have B15 := K18.blk (by simp) B15
        have hfo := RAnss.kk hfo K18
        have hQ := RSpans.kk hQ K18
        have O := O.keep2 K18 (fun x hm => by have := hob x hm; simp; try omega)
        have K := K.new0 K18; have Z18 := K18.1; have KL := KL.new0 K18
        refine rs_w (w_call (vs := [_, _, _, _, _]) ok_impl_SpanPrefixed rfl ⟨rfl, rfl, rfl, rfl, rfl, trivial⟩ (c_implSpanPrefixed χ _ _ (all_low _) _ _ W (preS key r) noB noB P hP hQ hG.n hG.small hG.ord (by decide) (by decide) rfl rfl (by omega) (ord_pre _) hQs (by rw [preS_len]; omega) (preS_small (by omega) _) (preS_al hk1 hk2 _))) rfl ?_
        rintro hgotv h19 ⟨hgot, K19⟩
        have hgot := RAnss.mono hgot (upN K19)
        obtain ⟨hgota, hgotc, rfl⟩ := SlR.form2 hgot
        have B13 := K19.blk (by simp) B13
        have B14 := K19.blk (by simp) B14
        have B15 := K19.blk (by simp) B15
        have hfo := RAnss.kk hfo K19
        have hQ := RSpans.kk hQ K19
        have hQs := RSteps.kk hQs K19
        have O := O.keep2 K19 (fun x hm => by have := hob x hm; simp; try omega)
        have K := K.new0 K19; have Z19 := K19.1; have KL := KL.new0 K19
        refine rs_v (v_assign rfl) rfl ?_
        refine rs_nil ?_
        refine q_thn ?_
        refine tr_seq ?_
        refine tr_reg ?_
        refine rs_v (v_move rfl) rfl ?_
        refine rs_v (v_move rfl) rfl ?_
        refine rs_v (v_move rfl) rfl ?_
        refine rs_w (w_call (vs := [_, _]) ok_spec_SpanWalk rfl ⟨rfl, rfl, trivial⟩ (c_SpanWalk χ _ _ (all_low _) _ _ _ (preS key r) (RSpans.kk hF K) (RSteps.kk hst K) (by rw [preS_len]; omega))) rfl ?_
        rintro hwantv h20 ⟨hwant, K20⟩
        have hwant := RAnss.mono hwant (upA K20)
        obtain ⟨hwanta, hwantc, rfl⟩ := SlR.form2 hwant
        have B13 := K20.blk (by simp) B13
        have B14 := K20.blk (by simp) B14
        have B15 := K20.blk (by simp) B15
        have hfo := RAnss.kk hfo K20
        have hQ := RSpans.kk hQ K20
        have hQs := RSteps.kk hQs K20
        have hgot := RAnss.kk hgot K20
        have O := O.keep2 K20 (fun x hm => by have := hob x hm; simp; try omega)
        have K := K.new0 K20; have Z20 := K20.1; have KL := KL.new0 K20
        refine rs_w (w_call (vs := [_, _]) ok_laws_spanAnswers rfl ⟨rfl, rfl, trivial⟩ (c_spanAnswers χ _ _ _ (all_low _) (all_low _) _ _ _ _ hgot hwant (ansLike_walk (filter_desc hG) _ _))) rfl ?_
        rintro _ h21 ⟨rfl, K21⟩
        have B13 := K21.blk (by simp) B13
        have B14 := K21.blk (by simp) B14
        have B15 := K21.blk (by simp) B15
        have hfo := RAnss.kk hfo K21
        have hQ := RSpans.kk hQ K21
        have hQs := RSteps.kk hQs K21
        have hgot := RAnss.kk hgot K21
        have hwant := RAnss.kk hwant K21
        have O := O.keep2 K21 (fun x hm => by have := hob x hm; simp; try omega)
        have K := K.new0 K21; have Z21 := K21.1; have KL := KL.new0 K21
        refine rs_v (v_move rfl) rfl ?_
        refine rs_gv rfl rfl (v_move rfl) rfl ?_
        refine rs_gw rfl rfl (w_call (vs := [_]) ok_laws_spanFound rfl ⟨rfl, trivial⟩ (c_spanFound χ _ _ _ _ hfo)) rfl ?_
        rintro _ h22 ⟨rfl, K22⟩
        have B13 := K22.blk (by simp) B13
        have B14 := K22.blk (by simp) B14
        have B15 := K22.blk (by simp) B15
        have hfo := RAnss.kk hfo K22
        have hQ := RSpans.kk hQ K22
        have hQs := RSteps.kk hQs K22
        have hgot := RAnss.kk hgot K22
        have hwant := RAnss.kk hwant K22
        have O := O.keep2 K22 (fun x hm => by have := hob x hm; simp; try omega)
        have K := K.new0 K22; have Z22 := K22.1; have KL := KL.new0 K22
        refine rs_v (v_pick_t rfl rfl) rfl ?_
        refine rs_v (v_assign rfl) rfl ?_
        refine rs_nil ?_
        refine q_thn ?_
        refine tr_ret ?_
        refine q_ret (res_tmp rfl rfl) ?_
        exact ⟨rfl, KA.new0 K⟩
      -- yes
      simp only [decide_eq_true_eq, decide_eq_false_iff_not] at hif
      rcases hx with rfl | ⟨b, o, rfl, hAb, hR⟩
      · simp at hif; omega
      obtain ⟨x, hsk⟩ := ex_get (L := W) (k := k) (by omega)
      have hkl : k < W.length := (List.getElem?_eq_some_iff.1 hsk).1
      have KL0 := K.1
      obtain ⟨kv, hcc, hkx⟩ := hR k x hsk
      obtain ⟨ka, kc, rfl⟩ := hkx.form2
      have hcells := K.cells (by simp) hcc
      have hnk : n ≤ k := by rw [hn]; exact Nat.le_trans (List.length_filterMap_le _ _) (by rw [List.length_take]; omega)
      refine tr_skip ?_
      refine q_thn ?_
      refine tr_seq ?_
      refine tr_block ?_
      refine tr_seq ?_
      refine tr_reg ?_
      refine rs_v (v_indexAddrN u_sl_spec_Span siz_spec_Span rfl rfl (by omega)) rfl ?_
      refine rs_v (v_loadAgg (vs := [_, _, _]) many_spec_Span rfl (by exact hcells)) rfl ?_
      refine rs_w (w_new zero_spec_Span) rfl ?_
      rintro _ h23 ⟨rfl, B23, K23, Z23⟩
      have O := O.keep2 K23 (fun x hm => by have := hob x hm; simp; try omega)
      have S23 := K.1; have K := K.new0 K23; have KL := KL.new0 K23
      refine rs_w0 (w_put siz_spec_Span rfl rfl rfl rfl B23 rfl) ?_
      rintro _ h24 ⟨B24, K24⟩
      have O := O.keep2 K24 (fun x hm => by have := hob x hm; simp; try omega)
      have B23 := B24; have K := K.new1 K24 (by first | (right; omega) | (left; simp; done)); have Z24 := K24.1; have KL := KL.new1 K24 (.inr (by omega))
      refine rs_nil ?_
      refine q_thn ?_
      refine tr_seq ?_
      refine tr_reg ?_
      refine rs_v (v_loadAgg (vs := [_, _, _]) many_spec_Span rfl (by exact B23.sub _ 3 rfl)) rfl ?_
      refine rs_v (v_move rfl) rfl ?_
      refine rs_w (w_call (vs := [_, _]) ok_laws_spanPrefixBounds rfl ⟨rfl, rfl, trivial⟩ (c_spanPrefixBounds χ _ x _ P (by omega))) rfl ?_
      rintro _ h25 ⟨rfl, K25⟩
      have B23 := K25.blk (by simp) B23
      have O := O.keep2 K25 (fun x hm => by have := hob x hm; simp; try omega)
      have K := K.new0 K25; have Z25 := K25.1; have KL := KL.new0 K25
      refine rs_nil ?_
      refine q_thn ?_
      refine tr_if rfl (fun hif => ?_) (fun hif => ?_)
      · -- yes
        skip
        refine tr_reg ?_
        refine rs_v (v_move rfl) rfl ?_
        refine rs_v (v_loadAgg (vs := [_, _, _]) many_spec_Span rfl (by exact B23.sub _ 3 rfl)) rfl ?_
        refine rs_w (w_new1 u_sl_spec_Span siz_spec_Span zero_spec_Span rfl rfl rfl rfl rfl) rfl ?_
        rintro _ h26 ⟨rfl, B26, K26, Z26⟩
        have B23 := K26.blk (by simp) B23
        have O := O.keep2 K26 (fun x hm => by have := hob x hm; simp; try omega)
        have S26 := K.1; have K := K.new0 K26; have KL := KL.new0 K26
        refine rs_w (w_app1 u_sl_spec_Span info_spec_Span rfl rfl rfl O rfl rfl B26 rfl (by omega) (by omega) (by omega)) rfl ?_
        have K70 := K
        have KL70 := KL
        rintro v27 h27 ⟨O27, K27, N27, F27⟩
        have K := K.newX K27 (fun x hm => .inr (by have := hob x hm; omega)); have Z27 := K27.1
        have B23 := K27.blk (fun hm => by have := hob _ hm; omega) B23
        have B26 := K27.blk (fun hm => by have := hob _ hm; omega) B26
        refine rs_v (v_assign rfl) rfl ?_
        refine rs_nil ?_
        refine q_blk_n ?_
        refine q_thn ?_
        refine tr_reg ?_
        refine rs_v (v_add rfl rfl (by omega) (by omega)) rfl ?_
        refine rs_v (v_move rfl) rfl ?_
        refine rs_nil ?_
        have hff : ffB (some P) (some (pre1 P)) x = some x := by unfold ffB; rw [if_pos hif]
        refine q_lp (W.length - (k + 1)) [(14, _), (0, _), (1, _), (10, _), (13, _), (69, _), (70, _), (71, _)] (by omega) ⟨rfl, rfl, rfl, rfl, rfl, rfl, rfl, rfl, trivial⟩ ⟨k + 1, v27, n + 1, by omega, rfl, rfl, K, ?_, ?_⟩
        · rw [take_snoc' hsk, fm_snoc1, hff, List.length_append, ← hn]; rfl
        · rw [take_snoc' hsk, fm_snoc1, hff]
          exact OutR.snoc cSpan_st hA (by omega) hob hrow hF KL0 KL70 O27 K27 F27 rfl ⟨_, rfl, (hkx.stab (K70.st hA)).mono Up.old⟩
      -- no
      skip
      refine tr_skip ?_
      refine q_blk_n ?_
      refine q_thn ?_
      refine tr_reg ?_
      refine rs_v (v_add rfl rfl (by omega) (by omega)) rfl ?_
      refine rs_v (v_move rfl) rfl ?_
      refine rs_nil ?_
      have hff : ffB (some P) (some (pre1 P)) x = none := by unfold ffB; rw [if_neg (by rw [hif]; decide)]
      refine q_lp (W.length - (k + 1)) [(14, _), (0, _), (1, _), (10, _), (13, _), (69, _), (70, _), (71, _)] (by omega) ⟨rfl, rfl, rfl, rfl, rfl, rfl, rfl, rfl, trivial⟩ ⟨k + 1, v, n, by omega, rfl, rfl, K, ?_, ?_⟩
      · rw [take_snoc' hsk, fm_snoc1, hff, Option.toList_none, List.append_nil]; exact hn
      · rw [take_snoc' hsk, fm_snoc1, hff, Option.toList_none, List.append_nil]
        exact hout0.keep cSpan_st KL
    -- yes
    simp only [decide_eq_true_eq, decide_eq_false_iff_not] at hif
    refine tr_skip ?_
    refine q_thn ?_
    refine tr_seq ?_
    refine tr_block ?_
    refine tr_reg ?_
    refine rs_v (v_move rfl) rfl ?_
    refine rs_v (v_build1 rfl (bld_spec_Step_0 _)) rfl ?_
    refine rs_w (w_new1 u_sl_spec_Step siz_spec_Step zero_spec_Step rfl rfl rfl rfl rfl) rfl ?_
    rintro _ h28 ⟨rfl, B28, K28, Z28⟩
    have O := O.keep2 K28 (fun x hm => by have := hob x hm; simp; try omega)
    have S28 := K.1; have K := K.new0 K28
    refine rs_w (w_app1 u_sl_spec_Step info_spec_Step rfl rfl rfl O rfl rfl B28 rfl (by omega) (by omega) (by omega)) rfl ?_
    rintro v29 h29 ⟨O29, K29, N29, F29⟩
    have K := K.newX K29 (fun x hm => .inr (by have := hob x hm; omega)); have Z29 := K29.1
    have B28 := K29.blk (fun hm => by have := hob _ hm; omega) B28
    refine rs_v (v_assign rfl) rfl ?_
    refine rs_nil ?_
    refine q_blk_n ?_
    refine q_thn ?_
    refine tr_reg ?_
    refine rs_v (v_add8 rfl rfl (by omega) (by omega)) rfl ?_
    refine rs_v (v_move rfl) rfl ?_
    refine rs_nil ?_
    refine q_lp (r - (k + 1)) [(0, _), (1, _), (10, _), (13, _), (61, _), (62, _)] (by omega) ⟨rfl, rfl, rfl, rfl, rfl, rfl, trivial⟩ ⟨k + 1, _, _, by omega, rfl, rfl, K, O29, ?_⟩
    rw [preS_succ]
    exact hrow.snoc rfl rfl
  -- yes
  simp only [decide_eq_true_eq, decide_eq_false_iff_not] at hif
  obtain ⟨c9, hsk⟩ := ex_get (L := P.data.toList) (k := k) (by show k < P.size; omega)
  refine tr_skip ?_
  refine q_thn ?_
  refine tr_seq ?_
  refine tr_block ?_
  refine tr_seq ?_
  refine tr_reg ?_
  refine rs_v (v_move rfl) rfl ?_
  refine rs_v (v_move rfl) rfl ?_
  refine rs_v (v_strIndex u_string rfl rfl (hsk)) rfl ?_
  refine rs_v (v_eq rfl rfl) rfl ?_
  refine rs_nil ?_
  refine q_thn ?_
  refine tr_if rfl (fun hif => ?_) (fun hif => ?_)
  · -- yes
    simp only [decide_eq_true_eq, decide_eq_false_iff_not] at hif
    refine tr_seq ?_
    refine tr_reg ?_
    refine rs_v (v_assign rfl) rfl ?_
    refine rs_nil ?_
    refine q_thn ?_
    refine tr_ret ?_
    refine q_blk_ret ?_
    refine q_thn_ret ?_
    refine q_lp_ret ?_
    refine q_blk_ret ?_
    refine q_thn_ret ?_
    refine q_ret (res_tmp rfl rfl) ?_
    exact ⟨rfl, K⟩
  -- no
  simp only [decide_eq_true_eq, decide_eq_false_iff_not] at hif
  refine tr_skip ?_
  refine q_blk_n ?_
  refine q_thn ?_
  refine tr_reg ?_
  refine rs_v (v_move rfl) rfl ?_
  refine rs_v (v_add rfl rfl (by omega) (by omega)) rfl ?_
  refine rs_v (v_assign rfl) rfl ?_
  refine rs_nil ?_
  refine q_lp (P.size - (k + 1)) [(0, _), (1, _), (2, _), (3, _), (4, _), (10, _), (11, _)] (by omega) ⟨rfl, rfl, rfl, rfl, rfl, rfl, rfl, trivial⟩ ⟨k + 1, by omega, rfl, rfl, K, fun j c8 hj hc8 => ?_⟩
  rcases Nat.lt_or_ge j k with h9 | h9
  · exact hnz j c8 h9 hc8
  · have e9 : j = k := by omega
    rw [e9, hsk] at hc8; cases hc8
    exact fun e => hif (by rw [e]; rfl)
end Go.Proofs.Ytgebfbnndgjkiaa
