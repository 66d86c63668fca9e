/- Texts W71 to W72, as far as the statement reaches them, laid together by a program of ours. Conditions: those that each theorem names. -/
import Derived.Test.YtgebfbnndgjkiaaK3
set_option linter.unusedVariables false
set_option linter.unusedSimpArgs false
set_option linter.unusedSectionVars false
namespace Go.Proofs.Ytgebfbnndgjkiaa
open Go.Tess Go.RowKit
set_option maxRecDepth 100000
set_option maxHeartbeats 2000000
def fit12 (e : EntD) : Bool := decide (e.user.size ≤ MX) && decide (e.val.size ≤ MX)
def EntD.cells (e : EntD) : List Value := [.string e.user, .int .u64 e.tr, .string e.val]
abbrev ptr (b : Nat) : Value := .pointer (some ⟨b, 0, none⟩)
/-- An internal key that has been made, beside what the two pointers name. -/
def KyI (h0 : Heap) (L : Nat → Bool) (g : Nat → Option Value) (h : Heap) (t : Nat) (k : ByteArray) (tr : Int) : Prop :=
  ∃ a n c, g t = some (.agg #[.slice a n c, .int .u64 tr]) ∧ RBytes (fun b => h0.size ≤ b ∧ b < h.size ∧ (L 4 = true → g 14 ≠ some (ptr b)) ∧ (L 5 = true → g 15 ≠ some (ptr b))) h (.slice a n c) k
def PtI (h0 : Heap) (L : Nat → Bool) (g : Nat → Option Value) (h : Heap) (t s u : Nat) : Prop :=
  ∃ b, g t = some (ptr b) ∧ h0.size ≤ b ∧ b < h.size ∧ (L s = false → Blk h b [.slice none 0 0, .int .u64 0] 169) ∧ (L s = true → ∃ x y, g u = some (.agg #[x, y]) ∧ Blk h b [x, y] 169)
structure WiI (h0 : Heap) (E0 : Env) (st en : EntD) (L : Nat → Bool) (g : Nat → Option Value) (h : Heap) : Prop where
  e0 : ∀ t v, E0.lookup t = some v → g t = some v
  kb : Keep [] h0 h
  a0 : L 0 = true → g 20 = some st.v
  a2 : L 2 = true → g 22 = some en.v
  a1 : L 1 = true → KyI h0 L g h 21 st.user st.tr
  a3 : L 3 = true → KyI h0 L g h 23 en.user en.tr
  a4 : L 4 = true → PtI h0 L g h 14 6 21
  a5 : L 5 = true → PtI h0 L g h 15 7 23
  ne : L 4 = true → L 5 = true → g 14 ≠ g 15
section
variable {h0 h h' : Heap} {E0 : Env} {st en : EntD} {L : Nat → Bool} {g : Nat → Option Value}
theorem updL_ne {i j : Nat} (h : j ≠ i) : updL L i j = L j := by unfold updL; rw [if_neg h]
theorem updL_eq {i : Nat} : updL L i i = true := by unfold updL; rw [if_pos rfl]
theorem updG_ne {d t : Nat} {v : Value} (h : t ≠ d) : updG g (some d) v t = g t := by simp only [updG]; rw [if_neg h]
theorem updG_eq {d : Nat} {v : Value} : updG g (some d) v d = some v := by simp [updG]
/-- A step that makes blocks and fills a slot beside the pointers. -/
theorem KyI.keep {t i d : Nat} {k : ByteArray} {tr : Int} {v : Value} (hk : KyI h0 L g h t k tr) (K : Keep [] h h') (hi : i ≠ 4 ∧ i ≠ 5) (hd : d ≠ 14 ∧ d ≠ 15 ∧ d ≠ t) : KyI h0 (updL L i) (updG g (some d) v) h' t k tr := by
  obtain ⟨a, n, c, e, hr⟩ := hk
  refine ⟨a, n, c, by rw [updG_ne (Ne.symm hd.2.2)]; exact e, (RBytes.stab hr (K.stab fun b hb => ⟨hb.2.1, by simp⟩)).mono fun b hb => ⟨hb.1, Nat.lt_of_lt_of_le hb.2.1 K.1, ?_, ?_⟩⟩
  · rw [updL_ne (Ne.symm hi.1), updG_ne (Ne.symm hd.1)]; exact hb.2.2.1
  · rw [updL_ne (Ne.symm hi.2), updG_ne (Ne.symm hd.2.1)]; exact hb.2.2.2
theorem PtI.keep {t s u i d : Nat} {v : Value} (hk : PtI h0 L g h t s u) (K : Keep [] h h') (hi : i ≠ s) (hd : d ≠ t) (hu : d = u → L s = false) : PtI h0 (updL L i) (updG g (some d) v) h' t s u := by
  obtain ⟨b, e, h1, h2, h3, h4⟩ := hk
  refine ⟨b, by rw [updG_ne (Ne.symm hd)]; exact e, h1, Nat.lt_of_lt_of_le h2 K.1, fun hl => K.blk (by simp) (h3 (by rw [← hl, updL_ne (Ne.symm hi)])), fun hl => ?_⟩
  rw [updL_ne (Ne.symm hi)] at hl
  obtain ⟨x, y, e2, B⟩ := h4 hl
  refine ⟨x, y, ?_, K.blk (by simp) B⟩
  rw [updG_ne (fun e => by rw [hu e.symm] at hl; cases hl)]; exact e2
theorem e0_put {d : Nat} {v : Value} (he : ∀ t v, E0.lookup t = some v → g t = some v) (hd : E0.lookup d = none) : ∀ t u, E0.lookup t = some u → updG g (some d) v t = some u := fun t u hl => by
  rw [updG_ne (fun e => by subst e; rw [hd] at hl; cases hl)]; exact he t u hl
/-- A value or a call, of slot d. -/
theorem WiI.step (I : WiI h0 E0 st en L g h) (K : Keep [] h h') {i d : Nat} {v : Value} (hi : i ≠ 4 ∧ i ≠ 5 ∧ i ≠ 6 ∧ i ≠ 7) (hd : d ≠ 14 ∧ d ≠ 15) (hE : E0.lookup d = none)
    (h0' : updL L i 0 = true → updG g (some d) v 20 = some st.v) (h2' : updL L i 2 = true → updG g (some d) v 22 = some en.v)
    (h1' : updL L i 1 = true → KyI h0 (updL L i) (updG g (some d) v) h' 21 st.user st.tr) (h3' : updL L i 3 = true → KyI h0 (updL L i) (updG g (some d) v) h' 23 en.user en.tr)
    (hu1 : d = 21 → L 6 = false) (hu2 : d = 23 → L 7 = false) : WiI h0 E0 st en (updL L i) (updG g (some d) v) h' where
  e0 := e0_put I.e0 hE
  kb := I.kb.trans K
  a0 := h0'
  a2 := h2'
  a1 := h1'
  a3 := h3'
  a4 := fun hl => (I.a4 (by rw [← hl, updL_ne (Ne.symm hi.1)])).keep K hi.2.2.1 hd.1 hu1
  a5 := fun hl => (I.a5 (by rw [← hl, updL_ne (Ne.symm hi.2.1)])).keep K hi.2.2.2 hd.2 hu2
  ne := fun l4 l5 => by
    rw [updL_ne (Ne.symm hi.1)] at l4; rw [updL_ne (Ne.symm hi.2.1)] at l5
    rw [updG_ne (Ne.symm hd.1), updG_ne (Ne.symm hd.2)]; exact I.ne l4 l5
theorem KyI.new {t i d : Nat} {k : ByteArray} {tr : Int} (hk : KyI h0 L g h t k tr) (K : Keep [] h h') (hd : d = 14 ∨ d = 15) (hi : i = 4 ∨ i = 5) (hdi : d = 14 → i = 4) (hdi2 : d = 15 → i = 5) (ht : t ≠ 14 ∧ t ≠ 15) : KyI h0 (updL L i) (updG g (some d) (ptr h.size)) h' t k tr := by
  obtain ⟨a, n, c, e, hr⟩ := hk
  refine ⟨a, n, c, by rw [updG_ne (by rcases hd with rfl | rfl; exact ht.1; exact ht.2)]; exact e, (RBytes.stab hr (K.stab fun b hb => ⟨hb.2.1, by simp⟩)).mono fun b hb => ⟨hb.1, Nat.lt_of_lt_of_le hb.2.1 K.1, fun hl => ?_, fun hl => ?_⟩⟩
  · by_cases hd1 : d = 14
    · subst hd1; rw [updG_eq]; intro e; cases e; have := hb.2.1; omega
    · rw [updG_ne (Ne.symm hd1)]
      have : i = 5 := hdi2 (hd.resolve_left hd1)
      subst this
      rw [updL_ne (by decide)] at hl
      exact hb.2.2.1 hl
  · by_cases hd1 : d = 15
    · subst hd1; rw [updG_eq]; intro e; cases e; have := hb.2.1; omega
    · rw [updG_ne (Ne.symm hd1)]
      have : i = 4 := hdi (hd.resolve_right hd1)
      subst this
      rw [updL_ne (by decide)] at hl
      exact hb.2.2.2 hl
theorem PtI.new {t s u i : Nat} (B : Blk h' h.size [.slice none 0 0, .int .u64 0] 169) (hz : h0.size ≤ h.size) (hl : h.size < h'.size) (hs : L s = false) (hi : i ≠ s) : PtI h0 (updL L i) (updG g (some t) (ptr h.size)) h' t s u :=
  ⟨h.size, updG_eq, hz, hl, fun _ => B, fun h => by rw [updL_ne (Ne.symm hi), hs] at h; cases h⟩
end
theorem look_cons {g : Nat → Option Value} {d : Nat} {x : Value} {E : Env} (h1 : g d = some x) (h2 : ∀ t v, E.lookup t = some v → g t = some v) : ∀ t v, ((d, x) :: E).lookup t = some v → g t = some v := by
  intro t v hl
  rw [List.lookup_cons] at hl
  by_cases e : t = d
  · subst e; simp at hl; subst hl; exact h1
  · have hb : (t == d) = false := by simpa using e
    simp only [hb] at hl
    exact h2 t v hl

theorem c_implKey (χ : Chi) (h : Heap) (e : EntD) (hs : e.user.size ≤ 9223372036854775807) :
    Cl Try.prog χ 71 #[e.v] h (fun r h' => (∃ a n c, r = .agg #[.slice a n c, .int .u64 e.tr] ∧ RBytes (fun b => h.size ≤ b ∧ b < h'.size) h' (.slice a n c) e.user) ∧ Keep [] h h') := by
  unfold EntD.v
  refine cl_intro Try.func71 rfl rfl rfl ?_
  have K : Keep [] h h := Keep.refl _ _
  refine tr_seq ?_
  refine tr_reg ?_
  refine rs_w (w_newbox rfl) rfl ?_
  rintro _ h1 ⟨rfl, B1, K1, Z1⟩
  have S1 := K.1; have K := K.new0 K1
  refine rs_w (w_new zero_base_InternalKey) rfl ?_
  rintro _ h2 ⟨rfl, B2, K2, Z2⟩
  have B1 := K2.blk (by simp) B1
  have S2 := K.1; have K := K.new0 K2
  refine rs_nil ?_
  refine q_thn ?_
  refine tr_seq ?_
  refine tr_reg ?_
  refine rs_v (v_fieldAddr fa_impl_Entry_0 rfl) rfl ?_
  refine rs_v (v_load one_string rfl (by exact B1.cell _ rfl)) rfl ?_
  refine rs_w (w_bytes u_string u_sl_uint8 u_uint8 rfl (by omega)) rfl ?_
  rintro _ h3 ⟨cb, rfl, K3, hby⟩
  have B1 := K3.blk (by simp) B1
  have B2 := K3.blk (by simp) B2
  have K := K.new0 K3; have Z3 := K3.1
  refine rs_v (v_fieldAddr fa_impl_Entry_1 rfl) rfl ?_
  refine rs_v (v_load one_uint64 rfl (by exact B1.cell _ rfl)) rfl ?_
  refine rs_v (v_build2 rfl rfl (bld_base_InternalKey_0_1 _ _ _ _)) rfl ?_
  refine rs_w0 (w_put siz_base_InternalKey rfl rfl rfl rfl B2 rfl) ?_
  rintro _ h4 ⟨B4, K4⟩
  have B1 := K4.blk (by simp; omega) B1
  have B2 := B4; have K := K.new1 K4 (by first | (right; omega) | (left; simp; done)); have Z4 := K4.1
  refine rs_nil ?_
  refine q_thn ?_
  refine tr_ret ?_
  refine q_ret (res_cell (vs := [_, _]) rfl rfl many_base_InternalKey (by exact B4.sub 0 2 rfl)) ?_
  exact ⟨⟨_, _, _, rfl, (RBytes.stab hby (K4.stab fun b hb => ⟨hb.2, by have := hb.1; simp; omega⟩)).mono fun b hb => ⟨by have := hb.1; omega, Nat.lt_of_lt_of_le hb.2 K4.1⟩⟩, K⟩
theorem c_toEntry (χ : Chi) (h : Heap) (e : EntD) :
    Cl Try.prog χ 42 #[e.v] h (fun r h' => r = e.v ∧ Keep [] h h') := by
  unfold EntD.v
  refine cl_intro Try.func42 rfl rfl rfl ?_
  have K : Keep [] h h := Keep.refl _ _
  refine tr_seq ?_
  refine tr_reg ?_
  refine rs_w (w_newbox rfl) rfl ?_
  rintro _ h1 ⟨rfl, B1, K1, Z1⟩
  have S1 := K.1; have K := K.new0 K1
  refine rs_w (w_new zero_impl_Entry) rfl ?_
  rintro _ h2 ⟨rfl, B2, K2, Z2⟩
  have B1 := K2.blk (by simp) B1
  have S2 := K.1; have K := K.new0 K2
  refine rs_nil ?_
  refine q_thn ?_
  refine tr_seq ?_
  refine tr_reg ?_
  refine rs_v (v_loadAgg (vs := [_, _, _]) many_spec_Entry rfl (by exact B1.sub _ 3 rfl)) rfl ?_
  refine rs_w0 (w_put siz_impl_Entry rfl rfl rfl rfl B2 rfl) ?_
  rintro _ h3 ⟨B3, K3⟩
  have B1 := K3.blk (by simp; omega) B1
  have B2 := B3; have K := K.new1 K3 (by first | (right; omega) | (left; simp; done)); have Z3 := K3.1
  refine rs_nil ?_
  refine q_thn ?_
  refine tr_ret ?_
  refine q_ret (res_cell (vs := [_, _, _]) rfl rfl many_impl_Entry (by exact B3.sub 0 3 rfl)) ?_
  exact ⟨rfl, K⟩
theorem c_zzFits12 (χ : Chi) (h : Heap) (e : EntD) :
    Cl Try.prog χ 39 #[e.v] h (fun r h' => r = .bool (fit12 e) ∧ Keep [] h h') := by
  unfold EntD.v
  refine cl_intro Try.func39 rfl rfl rfl ?_
  have K : Keep [] h h := Keep.refl _ _
  refine tr_seq ?_
  refine tr_reg ?_
  refine rs_w (w_newbox rfl) rfl ?_
  rintro _ h1 ⟨rfl, B1, K1, Z1⟩
  have S1 := K.1; have K := K.new0 K1
  refine rs_v (v_assign rfl) rfl ?_
  refine rs_nil ?_
  refine q_thn ?_
  refine tr_seq ?_
  refine tr_seq ?_
  refine tr_reg ?_
  refine rs_v (v_fieldAddr fa_spec_Entry_0 rfl) rfl ?_
  refine rs_v (v_load one_string rfl (by exact B1.cell _ rfl)) rfl ?_
  refine rs_v (v_lenStr u_string rfl) rfl ?_
  refine rs_v (v_gt rfl rfl) rfl ?_
  refine rs_nil ?_
  refine q_thn ?_
  refine tr_if rfl (fun hif => ?_) (fun hif => ?_)
  · -- yes
    simp only [decide_eq_true_eq, decide_eq_false_iff_not] at hif
    refine tr_seq ?_
    refine tr_reg ?_
    refine rs_v (v_assign rfl) rfl ?_
    refine rs_nil ?_
    refine q_thn ?_
    refine tr_ret ?_
    refine q_thn_ret ?_
    refine q_ret (res_tmp rfl rfl) ?_
    exact ⟨by simp only [fit12, ofNat_gt hif, Bool.false_and], K⟩
  -- no
  simp only [decide_eq_true_eq, decide_eq_false_iff_not] at hif
  have f1 := hif; clear hif
  refine tr_skip ?_
  refine q_thn ?_
  refine tr_seq ?_
  refine tr_seq ?_
  refine tr_reg ?_
  refine rs_v (v_fieldAddr fa_spec_Entry_2 rfl) rfl ?_
  refine rs_v (v_load one_string rfl (by exact B1.cell _ rfl)) rfl ?_
  refine rs_v (v_lenStr u_string rfl) rfl ?_
  refine rs_v (v_gt rfl rfl) rfl ?_
  refine rs_nil ?_
  refine q_thn ?_
  refine tr_if rfl (fun hif => ?_) (fun hif => ?_)
  · -- yes
    simp only [decide_eq_true_eq, decide_eq_false_iff_not] at hif
    refine tr_seq ?_
    refine tr_reg ?_
    refine rs_v (v_assign rfl) rfl ?_
    refine rs_nil ?_
    refine q_thn ?_
    refine tr_ret ?_
    refine q_thn_ret ?_
    refine q_ret (res_tmp rfl rfl) ?_
    exact ⟨by simp only [fit12, ofNat_gt hif, Bool.and_false], K⟩
  -- no
  simp only [decide_eq_true_eq, decide_eq_false_iff_not] at hif
  refine tr_skip ?_
  refine q_thn ?_
  refine tr_seq ?_
  refine tr_reg ?_
  refine rs_v (v_assign rfl) rfl ?_
  refine rs_nil ?_
  refine q_thn ?_
  refine tr_ret ?_
  refine q_ret (res_tmp rfl rfl) ?_
  exact ⟨by simp only [fit12, ofNat_le f1, ofNat_le hif]; rfl, K⟩
theorem c_implSpanTruncatedWithin (χ : Chi) (h : Heap) (A : Nat → Prop) (hA : Low A h) (v sv : Value) (W : List SpanD) (steps : List StepD) (lo up : ByteArray) (st en : EntD) (hW : RSpans A h v W) (hn : W.length ≤ 100000) (hm : ∀ s, s ∈ W → SpanD.small s) (hne : ∀ s, s ∈ W → s.ks ≠ []) (hO : Tess.Ord W)
    (hlo : lo.size ≤ 9223372036854775807) (hup : up.size ≤ 9223372036854775807) (hst : st.user.size ≤ 9223372036854775807) (hen : en.user.size ≤ 9223372036854775807) (hend : ∀ s, s ∈ W → en.user ≠ s.s) (hS : RSteps A h sv steps) (hsn : steps.length ≤ 1000) (hz : ∀ s, s ∈ steps → s.key.size ≤ 9223372036854775807) :
    Cl Try.prog χ 41 #[v, .string lo, .string up, st.v, en.v, sv] h (fun r h' => RAnss (Up N0 h h') h' r (walkP (W.filterMap (ffT (some st.user) (some en.user) lo up)) .nowhere steps) ∧ Keep [] h h') := by
  unfold EntD.v
  refine cl_intro Try.func41 rfl rfl rfl ?_
  have K : Keep [] h h := Keep.refl _ _
  refine tr_seq ?_
  refine tr_reg ?_
  refine rs_w (w_newbox rfl) rfl ?_
  rintro _ h1 ⟨rfl, B1, K1, Z1⟩
  have S1 := K.1; have K := K.new0 K1
  refine rs_w (w_newbox rfl) rfl ?_
  rintro _ h2 ⟨rfl, B2, K2, Z2⟩
  have B1 := K2.blk (by simp) B1
  have S2 := K.1; have K := K.new0 K2
  refine rs_v (v_assign rfl) rfl ?_
  refine rs_nil ?_
  refine q_thn ?_
  refine tr_seq ?_
  refine tr_reg ?_
  refine rs_w (w_call (vs := []) ok_base_DefaultComparer rfl trivial (c_DefaultComparer χ _)) rfl ?_
  rintro _ h3 ⟨rfl, ⟨rest, Bq⟩, K3⟩
  have B1 := K3.blk (by simp) B1
  have B2 := K3.blk (by simp) B2
  have K := K.new0 K3; have Z3 := K3.1
  refine rs_v (v_nilCheck_ptr rfl) rfl ?_
  refine rs_v (v_fieldAddr fa_base_Comparer_0 rfl) rfl ?_
  refine rs_v (v_load one_base_Compare rfl (by exact Bq.cell _ rfl)) rfl ?_
  refine rs_v (v_assign rfl) rfl ?_
  refine rs_nil ?_
  refine q_thn ?_
  refine tr_seq ?_
  have nL : ∀ {ops : Array Oper} {L : Nat → Bool} (j k : Nat), (match ops[j]? with | some q => waits q k | none => false) = true → (∀ j q k, ops[j]? = some q → L j = true → waits q k = true → L k = true) → L k = false → L j = false := fun j k hq hc hk => by
    rename_i ops L
    cases hl : L j with
    | false => rfl
    | true =>
      cases ho : ops[j]? with
      | none => rw [ho] at hq; cases hq
      | some q => rw [ho] at hq; have := hc j q k ho hl hq; rw [hk] at this; cases this
  refine tr_inv (WiI h3 _ st en) (by kernel_rfl) (by kernel_rfl) rfl (fun g hg => by
    refine ⟨hg, Keep.refl _ _, ?_, ?_, ?_, ?_, ?_, ?_, ?_⟩ <;> intro h <;> cases h) ⟨?_, ?_, ?_, ?_, ?_, ?_, ?_, ?_, trivial⟩ ?_
  · intro L g hx hLi hw hc I
    refine ⟨[(9, ptr h.size)], look_cons (I.e0 _ _ rfl) (by simp), OpW.mono (v_loadAgg (vs := [_, _, _]) many_impl_Entry rfl ((I.kb.blk (by simp) B1).sub 0 3 rfl)).w ?_⟩
    rintro v h' ⟨rfl, rfl⟩
    exact I.step (Keep.refl _ _) (by decide) (by decide) rfl (fun hl => by exact updG_eq) (fun hl => by rw [updG_ne (by decide)]; exact I.a2 (by rw [← hl, updL_ne (by decide)]))
      (fun hl => (I.a1 (by rw [← hl, updL_ne (by decide)])).keep (Keep.refl _ _) (by decide) (by decide)) (fun hl => (I.a3 (by rw [← hl, updL_ne (by decide)])).keep (Keep.refl _ _) (by decide) (by decide)) (fun h => by cases h) (fun h => by cases h)
  · intro L g hx hLi hw hc I
    refine ⟨[(20, st.v)], look_cons (I.a0 (hw 0 (by kernel_rfl))) (by simp), OpW.mono (w_call (vs := [_]) ok_impl_key rfl ⟨rfl, trivial⟩ (c_implKey χ hx st (by omega))) ?_⟩
    rintro v h' ⟨⟨a, n, c, rfl, hr⟩, Kn⟩
    refine I.step Kn (by decide) (by decide) rfl (fun hl => by rw [updG_ne (by decide)]; exact I.a0 (by rw [← hl, updL_ne (by decide)])) (fun hl => by rw [updG_ne (by decide)]; exact I.a2 (by rw [← hl, updL_ne (by decide)]))
      (fun hl => by
        refine ⟨a, n, c, updG_eq, hr.mono fun b hb => ⟨Nat.le_trans I.kb.1 hb.1, hb.2, fun l4 => ?_, fun l5 => ?_⟩⟩
        · rw [updL_ne (by decide)] at l4
          rw [updG_ne (by decide)]
          obtain ⟨b1, e1, _, hb1, _⟩ := I.a4 l4
          rw [e1]; intro e; cases e; have := hb.1; omega
        · rw [updL_ne (by decide)] at l5
          rw [updG_ne (by decide)]
          obtain ⟨b1, e1, _, hb1, _⟩ := I.a5 l5
          rw [e1]; intro e; cases e; have := hb.1; omega) (fun hl => (I.a3 (by rw [← hl, updL_ne (by decide)])).keep Kn (by decide) (by decide)) (fun h => by exact nL 6 1 (by kernel_rfl) hc hLi) (fun h => by cases h)
  · intro L g hx hLi hw hc I
    refine ⟨[(10, ptr h1.size)], look_cons (I.e0 _ _ rfl) (by simp), OpW.mono (v_loadAgg (vs := [_, _, _]) many_impl_Entry rfl ((I.kb.blk (by simp) B2).sub 0 3 rfl)).w ?_⟩
    rintro v h' ⟨rfl, rfl⟩
    exact I.step (Keep.refl _ _) (by decide) (by decide) rfl (fun hl => by rw [updG_ne (by decide)]; exact I.a0 (by rw [← hl, updL_ne (by decide)])) (fun hl => by exact updG_eq)
      (fun hl => (I.a1 (by rw [← hl, updL_ne (by decide)])).keep (Keep.refl _ _) (by decide) (by decide)) (fun hl => (I.a3 (by rw [← hl, updL_ne (by decide)])).keep (Keep.refl _ _) (by decide) (by decide)) (fun h => by cases h) (fun h => by cases h)
  · intro L g hx hLi hw hc I
    refine ⟨[(22, en.v)], look_cons (I.a2 (hw 2 (by kernel_rfl))) (by simp), OpW.mono (w_call (vs := [_]) ok_impl_key rfl ⟨rfl, trivial⟩ (c_implKey χ hx en (by omega))) ?_⟩
    rintro v h' ⟨⟨a, n, c, rfl, hr⟩, Kn⟩
    refine I.step Kn (by decide) (by decide) rfl (fun hl => by rw [updG_ne (by decide)]; exact I.a0 (by rw [← hl, updL_ne (by decide)])) (fun hl => by rw [updG_ne (by decide)]; exact I.a2 (by rw [← hl, updL_ne (by decide)]))
      (fun hl => (I.a1 (by rw [← hl, updL_ne (by decide)])).keep Kn (by decide) (by decide)) (fun hl => by
        refine ⟨a, n, c, updG_eq, hr.mono fun b hb => ⟨Nat.le_trans I.kb.1 hb.1, hb.2, fun l4 => ?_, fun l5 => ?_⟩⟩
        · rw [updL_ne (by decide)] at l4
          rw [updG_ne (by decide)]
          obtain ⟨b1, e1, _, hb1, _⟩ := I.a4 l4
          rw [e1]; intro e; cases e; have := hb.1; omega
        · rw [updL_ne (by decide)] at l5
          rw [updG_ne (by decide)]
          obtain ⟨b1, e1, _, hb1, _⟩ := I.a5 l5
          rw [e1]; intro e; cases e; have := hb.1; omega) (fun h => by cases h) (fun h => by exact nL 7 3 (by kernel_rfl) hc hLi)
  · intro L g hx hLi hw hc I
    refine ⟨[], by simp, OpW.mono (w_new zero_base_InternalKey) ?_⟩
    rintro v h' ⟨rfl, B, Kn, _⟩
    exact ⟨e0_put I.e0 rfl, I.kb.trans Kn, fun hl => by rw [updG_ne (by decide)]; exact I.a0 (by rw [← hl, updL_ne (by decide)]), fun hl => by rw [updG_ne (by decide)]; exact I.a2 (by rw [← hl, updL_ne (by decide)]),
      fun hl => (I.a1 (by rw [← hl, updL_ne (by decide)])).new Kn (by decide) (by decide) (by decide) (by decide) (by decide), fun hl => (I.a3 (by rw [← hl, updL_ne (by decide)])).new Kn (by decide) (by decide) (by decide) (by decide) (by decide),
      fun hl => PtI.new B I.kb.1 B.lt (nL 6 4 (by kernel_rfl) hc hLi) (by decide), fun hl => (I.a5 (by rw [← hl, updL_ne (by decide)])).keep Kn (by decide) (by decide) (fun h => by cases h), fun l4 l5 => by
        rw [updL_ne (by decide)] at l5
        obtain ⟨b1, e1, _, hb1, _⟩ := I.a5 l5
        rw [updG_eq, updG_ne (by decide), e1]; intro e; cases e; omega⟩
  · intro L g hx hLi hw hc I
    refine ⟨[], by simp, OpW.mono (w_new zero_base_InternalKey) ?_⟩
    rintro v h' ⟨rfl, B, Kn, _⟩
    exact ⟨e0_put I.e0 rfl, I.kb.trans Kn, fun hl => by rw [updG_ne (by decide)]; exact I.a0 (by rw [← hl, updL_ne (by decide)]), fun hl => by rw [updG_ne (by decide)]; exact I.a2 (by rw [← hl, updL_ne (by decide)]),
      fun hl => (I.a1 (by rw [← hl, updL_ne (by decide)])).new Kn (by decide) (by decide) (by decide) (by decide) (by decide), fun hl => (I.a3 (by rw [← hl, updL_ne (by decide)])).new Kn (by decide) (by decide) (by decide) (by decide) (by decide),
      fun hl => (I.a4 (by rw [← hl, updL_ne (by decide)])).keep Kn (by decide) (by decide) (fun h => by cases h), fun hl => PtI.new B I.kb.1 B.lt (nL 7 5 (by kernel_rfl) hc hLi) (by decide), fun l4 l5 => by
        rw [updL_ne (by decide)] at l4
        obtain ⟨b1, e1, _, hb1, _⟩ := I.a4 l4
        rw [updG_eq, updG_ne (by decide), e1]; intro e; cases e; omega⟩
  · intro L g hx hLi hw hc I
    have lme := hw 4 (by kernel_rfl)
    obtain ⟨bb, hbe, hb1, hb2, hb3, _⟩ := I.a4 lme
    obtain ⟨ka, kn, kc, hky, hkr⟩ := I.a1 (hw 1 (by kernel_rfl))
    refine ⟨[(14, ptr bb), (21, _)], look_cons hbe (look_cons hky (by simp)), OpW.mono (w_put siz_base_InternalKey rfl rfl rfl rfl (hb3 hLi) rfl) ?_⟩
    rintro v h' ⟨Bn, Kn⟩
    have hold : Keep [] _ h' := ⟨Nat.le_trans I.kb.1 Kn.1, fun b hb _ => (Kn.2 b (Nat.lt_of_lt_of_le hb I.kb.1) (fun hm => by rw [List.mem_singleton] at hm; omega)).trans (I.kb.2 b hb (by simp))⟩
    exact ⟨I.e0, hold, fun hl => I.a0 (by rw [← hl, updL_ne (by decide)]), fun hl => I.a2 (by rw [← hl, updL_ne (by decide)]), fun hl => by
        obtain ⟨a, n, c, e, hr⟩ := I.a1 (by rw [← hl, updL_ne (by decide)])
        refine ⟨a, n, c, e, (RBytes.stab hr (Kn.stab fun b hb => ⟨hb.2.1, fun hm => ?_⟩)).mono fun b hb => ⟨hb.1, Nat.lt_of_lt_of_le hb.2.1 Kn.1, fun l4 => hb.2.2.1 (by rw [← l4, updL_ne (by decide)]), fun l5 => hb.2.2.2 (by rw [← l5, updL_ne (by decide)])⟩⟩
        rw [List.mem_singleton] at hm; subst hm
        exact hb.2.2.1 lme hbe, fun hl => by
        obtain ⟨a, n, c, e, hr⟩ := I.a3 (by rw [← hl, updL_ne (by decide)])
        refine ⟨a, n, c, e, (RBytes.stab hr (Kn.stab fun b hb => ⟨hb.2.1, fun hm => ?_⟩)).mono fun b hb => ⟨hb.1, Nat.lt_of_lt_of_le hb.2.1 Kn.1, fun l4 => hb.2.2.1 (by rw [← l4, updL_ne (by decide)]), fun l5 => hb.2.2.2 (by rw [← l5, updL_ne (by decide)])⟩⟩
        rw [List.mem_singleton] at hm; subst hm
        exact hb.2.2.1 lme hbe,
      fun hl => ⟨bb, hbe, hb1, Nat.lt_of_lt_of_le hb2 Kn.1, fun h => (by have h9 : updL L 6 6 = false := h; rw [updL_eq] at h9; cases h9), fun _ => ⟨_, _, hky, Bn⟩⟩, fun hl => by
        have lot : L 5 = true := by rw [← hl, updL_ne (by decide)]
        obtain ⟨b9, e9, g1, g2, g3, g4⟩ := I.a5 lot
        have hne := I.ne lme lot
        have hbn : b9 ∉ [bb] := fun hm => by rw [List.mem_singleton] at hm; subst hm; rw [hbe, e9] at hne; exact hne rfl
        refine ⟨b9, e9, g1, Nat.lt_of_lt_of_le g2 Kn.1, fun h => Kn.blk hbn (g3 (by rw [← h, updL_ne (by decide)])), fun h => ?_⟩
        obtain ⟨x, y, e8, B8⟩ := g4 (by rw [← h, updL_ne (by decide)])
        exact ⟨x, y, e8, Kn.blk hbn B8⟩, fun l4 l5 => I.ne (by rw [← l4, updL_ne (by decide)]) (by rw [← l5, updL_ne (by decide)])⟩
  · intro L g hx hLi hw hc I
    have lme := hw 5 (by kernel_rfl)
    obtain ⟨bb, hbe, hb1, hb2, hb3, _⟩ := I.a5 lme
    obtain ⟨ka, kn, kc, hky, hkr⟩ := I.a3 (hw 3 (by kernel_rfl))
    refine ⟨[(15, ptr bb), (23, _)], look_cons hbe (look_cons hky (by simp)), OpW.mono (w_put siz_base_InternalKey rfl rfl rfl rfl (hb3 hLi) rfl) ?_⟩
    rintro v h' ⟨Bn, Kn⟩
    have hold : Keep [] _ h' := ⟨Nat.le_trans I.kb.1 Kn.1, fun b hb _ => (Kn.2 b (Nat.lt_of_lt_of_le hb I.kb.1) (fun hm => by rw [List.mem_singleton] at hm; omega)).trans (I.kb.2 b hb (by simp))⟩
    exact ⟨I.e0, hold, fun hl => I.a0 (by rw [← hl, updL_ne (by decide)]), fun hl => I.a2 (by rw [← hl, updL_ne (by decide)]), fun hl => by
        obtain ⟨a, n, c, e, hr⟩ := I.a1 (by rw [← hl, updL_ne (by decide)])
        refine ⟨a, n, c, e, (RBytes.stab hr (Kn.stab fun b hb => ⟨hb.2.1, fun hm => ?_⟩)).mono fun b hb => ⟨hb.1, Nat.lt_of_lt_of_le hb.2.1 Kn.1, fun l4 => hb.2.2.1 (by rw [← l4, updL_ne (by decide)]), fun l5 => hb.2.2.2 (by rw [← l5, updL_ne (by decide)])⟩⟩
        rw [List.mem_singleton] at hm; subst hm
        exact hb.2.2.2 lme hbe, fun hl => by
        obtain ⟨a, n, c, e, hr⟩ := I.a3 (by rw [← hl, updL_ne (by decide)])
        refine ⟨a, n, c, e, (RBytes.stab hr (Kn.stab fun b hb => ⟨hb.2.1, fun hm => ?_⟩)).mono fun b hb => ⟨hb.1, Nat.lt_of_lt_of_le hb.2.1 Kn.1, fun l4 => hb.2.2.1 (by rw [← l4, updL_ne (by decide)]), fun l5 => hb.2.2.2 (by rw [← l5, updL_ne (by decide)])⟩⟩
        rw [List.mem_singleton] at hm; subst hm
        exact hb.2.2.2 lme hbe,
      fun hl => by
        have lot : L 4 = true := by rw [← hl, updL_ne (by decide)]
        obtain ⟨b9, e9, g1, g2, g3, g4⟩ := I.a4 lot
        have hne := I.ne lot lme
        have hbn : b9 ∉ [bb] := fun hm => by rw [List.mem_singleton] at hm; subst hm; rw [hbe, e9] at hne; exact hne rfl
        refine ⟨b9, e9, g1, Nat.lt_of_lt_of_le g2 Kn.1, fun h => Kn.blk hbn (g3 (by rw [← h, updL_ne (by decide)])), fun h => ?_⟩
        obtain ⟨x, y, e8, B8⟩ := g4 (by rw [← h, updL_ne (by decide)])
        exact ⟨x, y, e8, Kn.blk hbn B8⟩, fun hl => ⟨bb, hbe, hb1, Nat.lt_of_lt_of_le hb2 Kn.1, fun h => (by have h9 : updL L 7 7 = false := h; rw [updL_eq] at h9; cases h9), fun _ => ⟨_, _, hky, Bn⟩⟩, fun l4 l5 => I.ne (by rw [← l4, updL_ne (by decide)]) (by rw [← l5, updL_ne (by decide)])⟩
  intro Lf gf h4 hL I
  obtain ⟨bs, hbs, hs1, hs2, _, hs4⟩ := I.a4 (hL 4 (by decide))
  obtain ⟨be, hbe, he1, he2, _, he4⟩ := I.a5 (hL 5 (by decide))
  obtain ⟨xs9, ys9, e9, Bs⟩ := hs4 (hL 6 (by decide))
  obtain ⟨xe9, ye9, e8, Be⟩ := he4 (hL 7 (by decide))
  obtain ⟨sa, sn, sc, e7, hsr⟩ := I.a1 (hL 1 (by decide))
  obtain ⟨ea, en9, ec, e6, her⟩ := I.a3 (hL 3 (by decide))
  rw [e9] at e7; rw [e8] at e6
  cases e7; cases e6
  have Kr := I.kb
  have hsr : RBytes (fun b => h3.size ≤ b ∧ b < h4.size) h4 (.slice sa sn sc) st.user := hsr.mono fun b hb => ⟨hb.1, hb.2.1⟩
  have her : RBytes (fun b => h3.size ≤ b ∧ b < h4.size) h4 (.slice ea en9 ec) en.user := her.mono fun b hb => ⟨hb.1, hb.2.1⟩
  refine ⟨_, look_cons hbs (look_cons hbe I.e0), ?_⟩
  have B1 := Kr.blk (by simp) B1
  have B2 := Kr.blk (by simp) B2
  have K := K.new0 Kr; have Zr := Kr.1
  refine q_thn ?_
  refine tr_seq ?_
  refine tr_reg ?_
  refine rs_v (v_move rfl) rfl ?_
  refine rs_v (v_move rfl) rfl ?_
  refine rs_v (v_move rfl) rfl ?_
  refine rs_w (w_call (vs := [_]) ok_impl_spans rfl ⟨rfl, trivial⟩ (c_spans χ _ A (hA.mono (by omega)) v W (hW.stab (K.st hA)) hn hm)) rfl ?_
  rintro w5 h5 ⟨hPW, K5⟩
  obtain ⟨wa, wc, rfl⟩ := SlR.form2 hPW
  have hsr := RBytes.stab hsr (Keep.stab (A := fun b => h3.size ≤ b ∧ b < h4.size) K5 fun b hb => ⟨hb.2, by simp⟩)
  have her := RBytes.stab her (Keep.stab (A := fun b => h3.size ≤ b ∧ b < h4.size) K5 fun b hb => ⟨hb.2, by simp⟩)
  have Bs := K5.blk (by simp) Bs
  have Be := K5.blk (by simp) Be
  have B1 := K5.blk (by simp) B1
  have B2 := K5.blk (by simp) B2
  have K := K.new0 K5; have Z5 := K5.1
  refine rs_w (w_call (vs := [_, _]) ok_keyspan_NewIter rfl ⟨rfl, rfl, trivial⟩ (c_NewIter χ _ wa W.length wc)) rfl ?_
  rintro _ h6 ⟨rfl, Bi, K6⟩
  have hPW := hPW.stab (K6.st ((n0low _).up Z5))
  have hi6 := Bi.lt
  have B1 := K6.blk (by simp) B1
  have B2 := K6.blk (by simp) B2
  have hsr := RBytes.stab hsr (Keep.stab (A := fun b => h3.size ≤ b ∧ b < h4.size) K6 fun b hb => ⟨by have := hb.2; omega, by simp⟩)
  have her := RBytes.stab her (Keep.stab (A := fun b => h3.size ≤ b ∧ b < h4.size) K6 fun b hb => ⟨by have := hb.2; omega, by simp⟩)
  have Bs := (K6).blk (by simp) Bs
  have Be := (K6).blk (by simp) Be
  have K := K.new0 K6; have Z6 := K6.1
  refine rs_v (v_makeIface u_p_keyspan_Iter rfl) rfl ?_
  refine rs_v (v_move rfl) rfl ?_
  refine rs_w (w_bytes u_string u_sl_uint8 u_uint8 rfl (by omega)) rfl ?_
  rintro _ h7 ⟨cl, rfl, K7, hlv⟩
  have hPW := hPW.stab (K7.st (fun b hb => Nat.lt_of_lt_of_le ((n0low _).up Z5 b hb) Z6))
  have Bi := K7.blk (by simp) Bi
  have B1 := K7.blk (by simp) B1
  have B2 := K7.blk (by simp) B2
  have hsr := RBytes.stab hsr (Keep.stab (A := fun b => h3.size ≤ b ∧ b < h4.size) K7 fun b hb => ⟨by have := hb.2; omega, by simp⟩)
  have her := RBytes.stab her (Keep.stab (A := fun b => h3.size ≤ b ∧ b < h4.size) K7 fun b hb => ⟨by have := hb.2; omega, by simp⟩)
  have Bs := (K7).blk (by simp) Bs
  have Be := (K7).blk (by simp) Be
  have K := K.new0 K7; have Z7 := K7.1
  refine rs_v (v_move rfl) rfl ?_
  refine rs_w (w_bytes u_string u_sl_uint8 u_uint8 rfl (by omega)) rfl ?_
  rintro _ h8 ⟨cu, rfl, K8, huv⟩
  have hPW := hPW.stab (K8.st (fun b hb => Nat.lt_of_lt_of_le ((n0low _).up Z5 b hb) (Nat.le_trans Z6 Z7)))
  have Bi := K8.blk (by simp) Bi
  have hlv := hlv.stab (K8.stab fun b hb => ⟨hb.2, by simp⟩)
  have B1 := K8.blk (by simp) B1
  have B2 := K8.blk (by simp) B2
  have hsr := RBytes.stab hsr (Keep.stab (A := fun b => h3.size ≤ b ∧ b < h4.size) K8 fun b hb => ⟨by have := hb.2; omega, by simp⟩)
  have her := RBytes.stab her (Keep.stab (A := fun b => h3.size ≤ b ∧ b < h4.size) K8 fun b hb => ⟨by have := hb.2; omega, by simp⟩)
  have Bs := (K8).blk (by simp) Bs
  have Be := (K8).blk (by simp) Be
  have K := K.new0 K8; have Z8 := K8.1
  refine rs_w (w_call (vs := [_, _, _, _, _, _, _]) ok_keyspan_Truncate rfl ⟨rfl, rfl, rfl, rfl, rfl, rfl, rfl, trivial⟩ (c_Truncate χ _ _ _ _ _ _ _ _ _ (some ⟨bs, 0, none⟩) (some ⟨be, 0, none⟩))) rfl ?_
  rintro _ h9 ⟨b0, b1, b2, b3, b4, b5, c, g0, g1, g2, g3, g4, g5, g6, rfl, Bf, T0, T1, T2, T3, T4, T5, K9⟩
  have hPW := hPW.stab (K9.st (fun b hb => Nat.lt_of_lt_of_le ((n0low _).up Z5 b hb) (Nat.le_trans Z6 (Nat.le_trans Z7 Z8))))
  have Bi := K9.blk (by simp) Bi
  have hcl := Bf.lt
  have Z6' := K9.1
  have hsr := RBytes.stab hsr (Keep.stab (A := fun b => h3.size ≤ b ∧ b < h4.size) K9 fun b hb => ⟨by have := hb.2; omega, by simp⟩)
  have her := RBytes.stab her (Keep.stab (A := fun b => h3.size ≤ b ∧ b < h4.size) K9 fun b hb => ⟨by have := hb.2; omega, by simp⟩)
  have Bs := K9.blk (by simp) Bs
  have Be := K9.blk (by simp) Be
  have hEnv : EnvT b3 b0 b4 b1 b2 b5 (some st.user) (some en.user) lo up (fun b => (h6.size ≤ b ∧ b < c) ∨ (h3.size ≤ b ∧ b < h4.size)) h9 := ⟨fun b hb => by rcases hb with hb | hb <;> (have := hb.2; omega), ⟨.inl ⟨by omega, by omega⟩, .inl ⟨by omega, by omega⟩, .inl ⟨by omega, by omega⟩, .inl ⟨by omega, by omega⟩, .inl ⟨by omega, by omega⟩, .inl ⟨by omega, by omega⟩⟩,
    ⟨_, T3, bs, 0, _, _, rfl, .inr ⟨hs1, hs2⟩, Bs.cells, hsr.mono fun b hb => .inr hb⟩, T0, ⟨_, T4, be, 0, _, _, rfl, .inr ⟨he1, he2⟩, Be.cells, her.mono fun b hb => .inr hb⟩, ⟨_, T1, (hlv.stab (K9.stab fun b hb => ⟨by have := hb.2; omega, by simp⟩)).mono (fun b hb => .inl ⟨hb.1, by have := hb.2; omega⟩)⟩, ⟨_, T2, (huv.stab (K9.stab fun b hb => ⟨hb.2, by simp⟩)).mono (fun b hb => .inl ⟨by have := hb.1; omega, by have := hb.2; omega⟩)⟩, T5⟩
  have B1 := K9.blk (by simp) B1
  have B2 := K9.blk (by simp) B2
  have K := K.new0 K9; have Z9 := K9.1
  refine rs_v (v_move rfl) rfl ?_
  refine rs_w (w_call (vs := [_, _]) ok_impl_walkSpans rfl ⟨rfl, rfl, trivial⟩ (c_walkSpans χ h9 A (hA.mono K.1) (W.filterMap (ffT (some st.user) (some en.user) lo up)) _ _ _
    (fi_ok c (itB_ok χ h5.size wa wc W 187 hn hO) (fnT_ok χ W b3 b0 b4 b1 b2 b5 (some st.user) (some en.user) lo up (fun b => (h6.size ≤ b ∧ b < c) ∨ (h3.size ≤ b ∧ b < h4.size)) (fun s hs => ⟨(hm s hs).2.2.1, hne s hs, fun e => hend s hs (Option.some.inj e)⟩)) (fun s hs => (hm s hs).2.2.1) hO (ffT_shrink _ _ _ _ W))
    (fun b => h.size ≤ b ∧ b < h9.size)
    ⟨.nowhere, (fun b => h4.size ≤ b ∧ b < h6.size), _, _, _, 0, _, _, ⟨⟨_, Up N0 h4 h5, Bi, trivial, hPW, (fun b hb => by
        rcases hb with hb | hb
        · exact hb.elim
        · exact ⟨⟨hb.1, by omega⟩, by omega⟩), ⟨by omega, by omega⟩, (fun b hb => by have := hb.2; omega)⟩, Bf, Own.nil _ _ _ _, hEnv, (by simp [Value.ownBlock]), (fun hb => by have := hb.2; omega), (fun hb => by omega), (fun b hb hg => by have := hb.1; have := hb.2; omega),
        (fun b hb => ⟨by have := hb.1; omega, by have := hb.2; omega⟩), ⟨by omega, by omega⟩, (by simp [Value.ownBlock]), (fun b hb => by omega), (fun b hb => hb.2)⟩, trivial⟩
    (fun b hb hf => by have := hA b hb; have := hf.1; omega) sv steps (hS.stab (K.st hA)) hsn hz (ffT_len (fun s hs => (hm s hs).2.2.1)))) rfl ?_
  rintro r9 h10 ⟨hans, KP⟩
  refine rs_v (v_assign rfl) rfl ?_
  refine rs_nil ?_
  refine q_thn ?_
  refine tr_ret ?_
  refine q_ret (res_tmp rfl rfl) ?_
  have h60 := K.1
  exact ⟨hans.mono (n0up h60 (Nat.le_refl _)), keep_of_p K KP (fun b hb => hb.1)⟩
end Go.Proofs.Ytgebfbnndgjkiaa
namespace Go.Proofs.Ytgebfbnndgjkiaa
open Go.Tess Go.RowKit
set_option maxRecDepth 100000
set_option maxHeartbeats 2000000
theorem fit12_s {e : EntD} (h : fit12 e = true) : e.user.size ≤ 2147483647 := by
  simp only [fit12, Bool.and_eq_true, decide_eq_true_eq, MX] at h; exact h.1
theorem be_le : sle ⟨#[98]⟩ ByteArray.empty = false := by rw [sle_cmp]; decide
theorem ba_lt : slt ⟨#[98]⟩ ⟨#[97]⟩ = false := by rw [slt_cmp]; decide
theorem someTW : someW.filterMap (ffT (some ByteArray.empty) (some ⟨#[98]⟩) ⟨#[97]⟩ ⟨#[98]⟩) = someW := by
  have h1 : ffT (some ByteArray.empty) (some ⟨#[98]⟩) ⟨#[97]⟩ ⟨#[98]⟩ ⟨⟨#[97]⟩, ⟨#[98]⟩, [⟨256, ByteArray.empty, ByteArray.empty⟩]⟩ = some ⟨⟨#[97]⟩, ⟨#[98]⟩, [⟨256, ByteArray.empty, ByteArray.empty⟩]⟩ := by
    simp only [ffT, stB, enB, be_le, ba_lt, cutLo, cutUp, aa_lt, bb_lt, Bool.false_eq_true, if_false, ab_lt, if_true]
  simp only [someW, List.filterMap_cons, h1, List.filterMap_nil]
def esT : EntD := ⟨ByteArray.empty, 0, ByteArray.empty⟩
def enT : EntD := ⟨⟨#[98]⟩, 0, ByteArray.empty⟩
theorem someTW2 : someW.filterMap (ffT (some esT.user) (some enT.user) ⟨#[97]⟩ ⟨#[98]⟩) = someW := someTW
theorem en_some : ∀ s, s ∈ someW → enT.user ≠ s.s := by
  intro s hs; simp [someW] at hs; subst hs; decide

theorem c_FnSpanWithin (χ : Chi) (h : Heap) (A : Nat → Prop) (hA : Low A h) (v sv : Value) (W : List SpanD) (steps : List StepD) (lo up : ByteArray) (st en : EntD) (hW : RSpans A h v W) (hS : RSteps A h sv steps) :
    Cl Try.prog χ 9 #[v, .string lo, .string up, st.v, en.v, sv] h (fun r h' => r = .bool true ∧ Keep [] h h') := by
  have hW := RSpans.mono hW hA
  have hS := RSteps.mono hS hA
  obtain ⟨a, c, rfl⟩ := SlR.form2 hW
  obtain ⟨a2, c2, rfl⟩ := SlR.form2 hS
  unfold EntD.v
  refine cl_intro Try.func9 rfl rfl rfl ?_
  have K : Keep [] h h := Keep.refl _ _
  refine tr_seq ?_
  refine tr_reg ?_
  refine rs_w (w_newbox rfl) rfl ?_
  rintro _ h1 ⟨rfl, B1, K1, Z1⟩
  try have KB := KB.newX K1 (fun x hx => .inr (by first | (simp at hx; done) | (simp at hx; omega)))
  have S1 := K.1; have K := K.new0 K1
  refine rs_w (w_newbox rfl) rfl ?_
  rintro _ h2 ⟨rfl, B2, K2, Z2⟩
  have B1 := K2.blk (by simp) B1
  try have KB := KB.newX K2 (fun x hx => .inr (by first | (simp at hx; done) | (simp at hx; omega)))
  have S2 := K.1; have K := K.new0 K2
  refine rs_v (v_assign rfl) rfl ?_
  refine rs_nil ?_
  refine q_thn ?_
  refine tr_seq ?_
  refine tr_cut (fun E h' => Keep [] h h' ∧ Keep [] h2 h' ∧ E = [(0, .slice a W.length c), (1, .string lo), (2, .string up), (5, .slice a2 steps.length c2), (9, ptr h.size), (10, ptr h1.size), (12, .bool false), (43, .bool ((!fit4 W) || (decide ((2147483647 : Int) < (lo.size : Int))) || (decide ((2147483647 : Int) < (up.size : Int))) || (!fit12 st) || (!fit12 en) || (!fit8 steps)))]) ?_ ?_
  ·
    rcases bsplit6 (!fit4 W) (decide ((2147483647 : Int) < (lo.size : Int))) (decide ((2147483647 : Int) < (up.size : Int))) (!fit12 st) (!fit12 en) with g1 | ⟨g1, g2⟩ | ⟨g1, g2, g3⟩ | ⟨g1, g2, g3, g4⟩ | ⟨g1, g2, g3, g4, g5⟩ | ⟨g1, g2, g3, g4, g5⟩
    · have KB : Keep [] h2 h2 := Keep.refl [] h2
      refine tr_reg ?_
      refine rs_v (v_move rfl) rfl ?_
      refine rs_w (w_call (vs := [_]) ok_laws_zzFits4 rfl ⟨rfl, trivial⟩ (c_zzFits4 χ _ (All h) ((all_low h).mono K.1) _ W (RSpans.stab hW (all_st K)))) rfl ?_
      rintro _ h3 ⟨rfl, K3⟩
      have B1 := K3.blk (by simp) B1
      have B2 := K3.blk (by simp) B2
      try have KB := KB.newX K3 (fun x hx => .inr (by first | (simp at hx; done) | (simp at hx; omega)))
      have K := K.new0 K3; have Z3 := K3.1
      refine rs_v (v_not rfl) rfl ?_
      refine rs_v (v_move rfl) rfl ?_
      refine rs_gs rfl (lkb g1) rfl rfl ?_
      refine rs_gs rfl (lkb g1) rfl rfl ?_
      refine rs_gs rfl (lkb g1) rfl rfl ?_
      refine rs_v (v_pick_t (lkb g1) rfl) rfl ?_
      refine rs_v (v_move rfl) rfl ?_
      refine rs_gs rfl (rfl) rfl rfl ?_
      refine rs_gs rfl (rfl) rfl rfl ?_
      refine rs_gs rfl (rfl) rfl rfl ?_
      refine rs_v (v_pick_t rfl rfl) rfl ?_
      refine rs_v (v_move rfl) rfl ?_
      refine rs_gs rfl (rfl) rfl rfl ?_
      refine rs_gs rfl (rfl) rfl rfl ?_
      refine rs_gs rfl (rfl) rfl rfl ?_
      refine rs_v (v_pick_t rfl rfl) rfl ?_
      refine rs_v (v_move rfl) rfl ?_
      refine rs_gs rfl (rfl) rfl rfl ?_
      refine rs_gs rfl (rfl) rfl rfl ?_
      refine rs_gs rfl (rfl) rfl rfl ?_
      refine rs_v (v_pick_t rfl rfl) rfl ?_
      refine rs_v (v_move rfl) rfl ?_
      refine rs_gs rfl (rfl) rfl rfl ?_
      refine rs_gs rfl (rfl) rfl rfl ?_
      refine rs_gs rfl (rfl) rfl rfl ?_
      refine rs_v (v_pick_t rfl rfl) rfl ?_
      refine rs_nil ?_
      exact q_cut [(0, _), (1, _), (2, _), (5, _), (9, _), (10, _), (12, _), (43, _)] ⟨rfl, rfl, rfl, rfl, rfl, rfl, rfl, rfl, trivial⟩ ⟨K, KB, by rw [show ((!fit4 W) || (decide ((2147483647 : Int) < (lo.size : Int))) || (decide ((2147483647 : Int) < (up.size : Int))) || (!fit12 st) || (!fit12 en) || (!fit8 steps)) = (true) from by simp only [g1, Bool.true_or, Bool.false_or]]⟩
    · have KB : Keep [] h2 h2 := Keep.refl [] h2
      refine tr_reg ?_
      refine rs_v (v_move rfl) rfl ?_
      refine rs_w (w_call (vs := [_]) ok_laws_zzFits4 rfl ⟨rfl, trivial⟩ (c_zzFits4 χ _ (All h) ((all_low h).mono K.1) _ W (RSpans.stab hW (all_st K)))) rfl ?_
      rintro _ h4 ⟨rfl, K4⟩
      have B1 := K4.blk (by simp) B1
      have B2 := K4.blk (by simp) B2
      try have KB := KB.newX K4 (fun x hx => .inr (by first | (simp at hx; done) | (simp at hx; omega)))
      have K := K.new0 K4; have Z4 := K4.1
      refine rs_v (v_not rfl) rfl ?_
      refine rs_v (v_move rfl) rfl ?_
      refine rs_gv rfl (lkb g1) (v_move rfl) rfl ?_
      refine rs_gv rfl (lkb g1) (v_lenStr u_string rfl) rfl ?_
      refine rs_gv rfl (lkb g1) (v_gt rfl rfl) rfl ?_
      refine rs_v (v_pick_f (lkb g1) rfl) rfl ?_
      refine rs_v (v_move rfl) rfl ?_
      refine rs_gs rfl (lkb g2) rfl rfl ?_
      refine rs_gs rfl (lkb g2) rfl rfl ?_
      refine rs_gs rfl (lkb g2) rfl rfl ?_
      refine rs_v (v_pick_t (lkb g2) rfl) rfl ?_
      refine rs_v (v_move rfl) rfl ?_
      refine rs_gs rfl (rfl) rfl rfl ?_
      refine rs_gs rfl (rfl) rfl rfl ?_
      refine rs_gs rfl (rfl) rfl rfl ?_
      refine rs_v (v_pick_t rfl rfl) rfl ?_
      refine rs_v (v_move rfl) rfl ?_
      refine rs_gs rfl (rfl) rfl rfl ?_
      refine rs_gs rfl (rfl) rfl rfl ?_
      refine rs_gs rfl (rfl) rfl rfl ?_
      refine rs_v (v_pick_t rfl rfl) rfl ?_
      refine rs_v (v_move rfl) rfl ?_
      refine rs_gs rfl (rfl) rfl rfl ?_
      refine rs_gs rfl (rfl) rfl rfl ?_
      refine rs_gs rfl (rfl) rfl rfl ?_
      refine rs_v (v_pick_t rfl rfl) rfl ?_
      refine rs_nil ?_
      exact q_cut [(0, _), (1, _), (2, _), (5, _), (9, _), (10, _), (12, _), (43, _)] ⟨rfl, rfl, rfl, rfl, rfl, rfl, rfl, rfl, trivial⟩ ⟨K, KB, by rw [show ((!fit4 W) || (decide ((2147483647 : Int) < (lo.size : Int))) || (decide ((2147483647 : Int) < (up.size : Int))) || (!fit12 st) || (!fit12 en) || (!fit8 steps)) = (true) from by simp only [g1, g2, Bool.true_or, Bool.false_or]]⟩
    · have KB : Keep [] h2 h2 := Keep.refl [] h2
      refine tr_reg ?_
      refine rs_v (v_move rfl) rfl ?_
      refine rs_w (w_call (vs := [_]) ok_laws_zzFits4 rfl ⟨rfl, trivial⟩ (c_zzFits4 χ _ (All h) ((all_low h).mono K.1) _ W (RSpans.stab hW (all_st K)))) rfl ?_
      rintro _ h5 ⟨rfl, K5⟩
      have B1 := K5.blk (by simp) B1
      have B2 := K5.blk (by simp) B2
      try have KB := KB.newX K5 (fun x hx => .inr (by first | (simp at hx; done) | (simp at hx; omega)))
      have K := K.new0 K5; have Z5 := K5.1
      refine rs_v (v_not rfl) rfl ?_
      refine rs_v (v_move rfl) rfl ?_
      refine rs_gv rfl (lkb g1) (v_move rfl) rfl ?_
      refine rs_gv rfl (lkb g1) (v_lenStr u_string rfl) rfl ?_
      refine rs_gv rfl (lkb g1) (v_gt rfl rfl) rfl ?_
      refine rs_v (v_pick_f (lkb g1) rfl) rfl ?_
      refine rs_v (v_move rfl) rfl ?_
      refine rs_gv rfl (lkb g2) (v_move rfl) rfl ?_
      refine rs_gv rfl (lkb g2) (v_lenStr u_string rfl) rfl ?_
      refine rs_gv rfl (lkb g2) (v_gt rfl rfl) rfl ?_
      refine rs_v (v_pick_f (lkb g2) rfl) rfl ?_
      refine rs_v (v_move rfl) rfl ?_
      refine rs_gs rfl (lkb g3) rfl rfl ?_
      refine rs_gs rfl (lkb g3) rfl rfl ?_
      refine rs_gs rfl (lkb g3) rfl rfl ?_
      refine rs_v (v_pick_t (lkb g3) rfl) rfl ?_
      refine rs_v (v_move rfl) rfl ?_
      refine rs_gs rfl (rfl) rfl rfl ?_
      refine rs_gs rfl (rfl) rfl rfl ?_
      refine rs_gs rfl (rfl) rfl rfl ?_
      refine rs_v (v_pick_t rfl rfl) rfl ?_
      refine rs_v (v_move rfl) rfl ?_
      refine rs_gs rfl (rfl) rfl rfl ?_
      refine rs_gs rfl (rfl) rfl rfl ?_
      refine rs_gs rfl (rfl) rfl rfl ?_
      refine rs_v (v_pick_t rfl rfl) rfl ?_
      refine rs_nil ?_
      exact q_cut [(0, _), (1, _), (2, _), (5, _), (9, _), (10, _), (12, _), (43, _)] ⟨rfl, rfl, rfl, rfl, rfl, rfl, rfl, rfl, trivial⟩ ⟨K, KB, by rw [show ((!fit4 W) || (decide ((2147483647 : Int) < (lo.size : Int))) || (decide ((2147483647 : Int) < (up.size : Int))) || (!fit12 st) || (!fit12 en) || (!fit8 steps)) = (true) from by simp only [g1, g2, g3, Bool.true_or, Bool.false_or]]⟩
    · have KB : Keep [] h2 h2 := Keep.refl [] h2
      refine tr_reg ?_
      refine rs_v (v_move rfl) rfl ?_
      refine rs_w (w_call (vs := [_]) ok_laws_zzFits4 rfl ⟨rfl, trivial⟩ (c_zzFits4 χ _ (All h) ((all_low h).mono K.1) _ W (RSpans.stab hW (all_st K)))) rfl ?_
      rintro _ h6 ⟨rfl, K6⟩
      have B1 := K6.blk (by simp) B1
      have B2 := K6.blk (by simp) B2
      try have KB := KB.newX K6 (fun x hx => .inr (by first | (simp at hx; done) | (simp at hx; omega)))
      have K := K.new0 K6; have Z6 := K6.1
      refine rs_v (v_not rfl) rfl ?_
      refine rs_v (v_move rfl) rfl ?_
      refine rs_gv rfl (lkb g1) (v_move rfl) rfl ?_
      refine rs_gv rfl (lkb g1) (v_lenStr u_string rfl) rfl ?_
      refine rs_gv rfl (lkb g1) (v_gt rfl rfl) rfl ?_
      refine rs_v (v_pick_f (lkb g1) rfl) rfl ?_
      refine rs_v (v_move rfl) rfl ?_
      refine rs_gv rfl (lkb g2) (v_move rfl) rfl ?_
      refine rs_gv rfl (lkb g2) (v_lenStr u_string rfl) rfl ?_
      refine rs_gv rfl (lkb g2) (v_gt rfl rfl) rfl ?_
      refine rs_v (v_pick_f (lkb g2) rfl) rfl ?_
      refine rs_v (v_move rfl) rfl ?_
      refine rs_gv rfl (lkb g3) (v_loadAgg (vs := [_, _, _]) many_spec_Entry rfl (by exact B1.sub _ 3 rfl)) rfl ?_
      refine rs_gw rfl (lkb g3) (w_call (vs := [_]) ok_laws_zzFits12 rfl ⟨rfl, trivial⟩ (c_zzFits12 χ _ st)) rfl ?_
      rintro _ h7 ⟨rfl, K7⟩
      have B1 := K7.blk (by simp) B1
      have B2 := K7.blk (by simp) B2
      try have KB := KB.newX K7 (fun x hx => .inr (by first | (simp at hx; done) | (simp at hx; omega)))
      have K := K.new0 K7; have Z7 := K7.1
      refine rs_gv rfl (lkb g3) (v_not rfl) rfl ?_
      refine rs_v (v_pick_f (lkb g3) rfl) rfl ?_
      refine rs_v (v_move rfl) rfl ?_
      refine rs_gs rfl (lkb g4) rfl rfl ?_
      refine rs_gs rfl (lkb g4) rfl rfl ?_
      refine rs_gs rfl (lkb g4) rfl rfl ?_
      refine rs_v (v_pick_t (lkb g4) rfl) rfl ?_
      refine rs_v (v_move rfl) rfl ?_
      refine rs_gs rfl (rfl) rfl rfl ?_
      refine rs_gs rfl (rfl) rfl rfl ?_
      refine rs_gs rfl (rfl) rfl rfl ?_
      refine rs_v (v_pick_t rfl rfl) rfl ?_
      refine rs_nil ?_
      exact q_cut [(0, _), (1, _), (2, _), (5, _), (9, _), (10, _), (12, _), (43, _)] ⟨rfl, rfl, rfl, rfl, rfl, rfl, rfl, rfl, trivial⟩ ⟨K, KB, by rw [show ((!fit4 W) || (decide ((2147483647 : Int) < (lo.size : Int))) || (decide ((2147483647 : Int) < (up.size : Int))) || (!fit12 st) || (!fit12 en) || (!fit8 steps)) = (true) from by simp only [g1, g2, g3, g4, Bool.true_or, Bool.false_or]]⟩
    · have KB : Keep [] h2 h2 := Keep.refl [] h2
      refine tr_reg ?_
      refine rs_v (v_move rfl) rfl ?_
      refine rs_w (w_call (vs := [_]) ok_laws_zzFits4 rfl ⟨rfl, trivial⟩ (c_zzFits4 χ _ (All h) ((all_low h).mono K.1) _ W (RSpans.stab hW (all_st K)))) rfl ?_
      rintro _ h8 ⟨rfl, K8⟩
      have B1 := K8.blk (by simp) B1
      have B2 := K8.blk (by simp) B2
      try have KB := KB.newX K8 (fun x hx => .inr (by first | (simp at hx; done) | (simp at hx; omega)))
      have K := K.new0 K8; have Z8 := K8.1
      refine rs_v (v_not rfl) rfl ?_
      refine rs_v (v_move rfl) rfl ?_
      refine rs_gv rfl (lkb g1) (v_move rfl) rfl ?_
      refine rs_gv rfl (lkb g1) (v_lenStr u_string rfl) rfl ?_
      refine rs_gv rfl (lkb g1) (v_gt rfl rfl) rfl ?_
      refine rs_v (v_pick_f (lkb g1) rfl) rfl ?_
      refine rs_v (v_move rfl) rfl ?_
      refine rs_gv rfl (lkb g2) (v_move rfl) rfl ?_
      refine rs_gv rfl (lkb g2) (v_lenStr u_string rfl) rfl ?_
      refine rs_gv rfl (lkb g2) (v_gt rfl rfl) rfl ?_
      refine rs_v (v_pick_f (lkb g2) rfl) rfl ?_
      refine rs_v (v_move rfl) rfl ?_
      refine rs_gv rfl (lkb g3) (v_loadAgg (vs := [_, _, _]) many_spec_Entry rfl (by exact B1.sub _ 3 rfl)) rfl ?_
      refine rs_gw rfl (lkb g3) (w_call (vs := [_]) ok_laws_zzFits12 rfl ⟨rfl, trivial⟩ (c_zzFits12 χ _ st)) rfl ?_
      rintro _ h9 ⟨rfl, K9⟩
      have B1 := K9.blk (by simp) B1
      have B2 := K9.blk (by simp) B2
      try have KB := KB.newX K9 (fun x hx => .inr (by first | (simp at hx; done) | (simp at hx; omega)))
      have K := K.new0 K9; have Z9 := K9.1
      refine rs_gv rfl (lkb g3) (v_not rfl) rfl ?_
      refine rs_v (v_pick_f (lkb g3) rfl) rfl ?_
      refine rs_v (v_move rfl) rfl ?_
      refine rs_gv rfl (lkb g4) (v_loadAgg (vs := [_, _, _]) many_spec_Entry rfl (by exact B2.sub _ 3 rfl)) rfl ?_
      refine rs_gw rfl (lkb g4) (w_call (vs := [_]) ok_laws_zzFits12 rfl ⟨rfl, trivial⟩ (c_zzFits12 χ _ en)) rfl ?_
      rintro _ h10 ⟨rfl, K10⟩
      have B1 := K10.blk (by simp) B1
      have B2 := K10.blk (by simp) B2
      try have KB := KB.newX K10 (fun x hx => .inr (by first | (simp at hx; done) | (simp at hx; omega)))
      have K := K.new0 K10; have Z10 := K10.1
      refine rs_gv rfl (lkb g4) (v_not rfl) rfl ?_
      refine rs_v (v_pick_f (lkb g4) rfl) rfl ?_
      refine rs_v (v_move rfl) rfl ?_
      refine rs_gs rfl (lkb g5) rfl rfl ?_
      refine rs_gs rfl (lkb g5) rfl rfl ?_
      refine rs_gs rfl (lkb g5) rfl rfl ?_
      refine rs_v (v_pick_t (lkb g5) rfl) rfl ?_
      refine rs_nil ?_
      exact q_cut [(0, _), (1, _), (2, _), (5, _), (9, _), (10, _), (12, _), (43, _)] ⟨rfl, rfl, rfl, rfl, rfl, rfl, rfl, rfl, trivial⟩ ⟨K, KB, by rw [show ((!fit4 W) || (decide ((2147483647 : Int) < (lo.size : Int))) || (decide ((2147483647 : Int) < (up.size : Int))) || (!fit12 st) || (!fit12 en) || (!fit8 steps)) = (true) from by simp only [g1, g2, g3, g4, g5, Bool.true_or, Bool.false_or]]⟩
    · have KB : Keep [] h2 h2 := Keep.refl [] h2
      refine tr_reg ?_
      refine rs_v (v_move rfl) rfl ?_
      refine rs_w (w_call (vs := [_]) ok_laws_zzFits4 rfl ⟨rfl, trivial⟩ (c_zzFits4 χ _ (All h) ((all_low h).mono K.1) _ W (RSpans.stab hW (all_st K)))) rfl ?_
      rintro _ h11 ⟨rfl, K11⟩
      have B1 := K11.blk (by simp) B1
      have B2 := K11.blk (by simp) B2
      try have KB := KB.newX K11 (fun x hx => .inr (by first | (simp at hx; done) | (simp at hx; omega)))
      have K := K.new0 K11; have Z11 := K11.1
      refine rs_v (v_not rfl) rfl ?_
      refine rs_v (v_move rfl) rfl ?_
      refine rs_gv rfl (lkb g1) (v_move rfl) rfl ?_
      refine rs_gv rfl (lkb g1) (v_lenStr u_string rfl) rfl ?_
      refine rs_gv rfl (lkb g1) (v_gt rfl rfl) rfl ?_
      refine rs_v (v_pick_f (lkb g1) rfl) rfl ?_
      refine rs_v (v_move rfl) rfl ?_
      refine rs_gv rfl (lkb g2) (v_move rfl) rfl ?_
      refine rs_gv rfl (lkb g2) (v_lenStr u_string rfl) rfl ?_
      refine rs_gv rfl (lkb g2) (v_gt rfl rfl) rfl ?_
      refine rs_v (v_pick_f (lkb g2) rfl) rfl ?_
      refine rs_v (v_move rfl) rfl ?_
      refine rs_gv rfl (lkb g3) (v_loadAgg (vs := [_, _, _]) many_spec_Entry rfl (by exact B1.sub _ 3 rfl)) rfl ?_
      refine rs_gw rfl (lkb g3) (w_call (vs := [_]) ok_laws_zzFits12 rfl ⟨rfl, trivial⟩ (c_zzFits12 χ _ st)) rfl ?_
      rintro _ h12 ⟨rfl, K12⟩
      have B1 := K12.blk (by simp) B1
      have B2 := K12.blk (by simp) B2
      try have KB := KB.newX K12 (fun x hx => .inr (by first | (simp at hx; done) | (simp at hx; omega)))
      have K := K.new0 K12; have Z12 := K12.1
      refine rs_gv rfl (lkb g3) (v_not rfl) rfl ?_
      refine rs_v (v_pick_f (lkb g3) rfl) rfl ?_
      refine rs_v (v_move rfl) rfl ?_
      refine rs_gv rfl (lkb g4) (v_loadAgg (vs := [_, _, _]) many_spec_Entry rfl (by exact B2.sub _ 3 rfl)) rfl ?_
      refine rs_gw rfl (lkb g4) (w_call (vs := [_]) ok_laws_zzFits12 rfl ⟨rfl, trivial⟩ (c_zzFits12 χ _ en)) rfl ?_
      rintro _ h13 ⟨rfl, K13⟩
      have B1 := K13.blk (by simp) B1
      have B2 := K13.blk (by simp) B2
      try have KB := KB.newX K13 (fun x hx => .inr (by first | (simp at hx; done) | (simp at hx; omega)))
      have K := K.new0 K13; have Z13 := K13.1
      refine rs_gv rfl (lkb g4) (v_not rfl) rfl ?_
      refine rs_v (v_pick_f (lkb g4) rfl) rfl ?_
      refine rs_v (v_move rfl) rfl ?_
      refine rs_gv rfl (lkb g5) (v_move rfl) rfl ?_
      refine rs_gw rfl (lkb g5) (w_call (vs := [_]) ok_laws_zzFits8 rfl ⟨rfl, trivial⟩ (c_zzFits8 χ _ (All h) _ steps (RSteps.stab hS (all_st K)))) rfl ?_
      rintro _ h14 ⟨rfl, K14⟩
      have B1 := K14.blk (by simp) B1
      have B2 := K14.blk (by simp) B2
      try have KB := KB.newX K14 (fun x hx => .inr (by first | (simp at hx; done) | (simp at hx; omega)))
      have K := K.new0 K14; have Z14 := K14.1
      refine rs_gv rfl (lkb g5) (v_not rfl) rfl ?_
      refine rs_v (v_pick_f (lkb g5) rfl) rfl ?_
      refine rs_nil ?_
      exact q_cut [(0, _), (1, _), (2, _), (5, _), (9, _), (10, _), (12, _), (43, _)] ⟨rfl, rfl, rfl, rfl, rfl, rfl, rfl, rfl, trivial⟩ ⟨K, KB, by rw [show ((!fit4 W) || (decide ((2147483647 : Int) < (lo.size : Int))) || (decide ((2147483647 : Int) < (up.size : Int))) || (!fit12 st) || (!fit12 en) || (!fit8 steps)) = (!fit8 steps) from by simp only [g1, g2, g3, g4, g5, Bool.true_or, Bool.false_or]]⟩
  rintro E h99 ⟨K, KB, rfl⟩
  have B10 := B1
  have B20 := B2
  have B1 := KB.blk (by simp) B10
  have B2 := KB.blk (by simp) B20
  refine tr_if rfl (fun hif => ?_) (fun hif => ?_)
  · -- yes
    skip
    refine tr_seq ?_
    refine tr_reg ?_
    refine rs_v (v_assign rfl) rfl ?_
    refine rs_nil ?_
    refine q_thn ?_
    refine tr_ret ?_
    refine q_thn_ret ?_
    refine q_ret (res_tmp rfl rfl) ?_
    exact ⟨rfl, K⟩
  -- no
  simp only [Bool.or_eq_false_iff, Bool.not_eq_false', decide_eq_false_iff_not] at hif
  obtain ⟨⟨⟨⟨⟨hf4, hlo⟩, hup⟩, hfs⟩, hfe⟩, hf8⟩ := hif
  have hfs := fit12_s hfs
  have hfe := fit12_s hfe
  refine tr_skip ?_
  refine q_thn ?_
  refine tr_seq ?_
  refine tr_cut (fun E h' => Keep [] h h' ∧ Keep [] h2 h' ∧ E = [(0, .slice a W.length c), (1, .string lo), (2, .string up), (5, .slice a2 steps.length c2), (9, ptr h.size), (10, ptr h1.size), (12, .bool false), (51, .bool ((!(mostB W 40 && wellB W)) || (decide ((60 : Int) < (steps.length : Int)))))]) ?_ ?_
  ·
    rcases bsplit2 (!(mostB W 40 && wellB W)) with g1 | g1
    · skip
      refine tr_reg ?_
      refine rs_v (v_move rfl) rfl ?_
      refine rs_w (w_call (vs := [_, _]) ok_laws_spanWell rfl ⟨rfl, rfl, trivial⟩ (c_spanWell χ _ _ (all_low _) _ W 40 (RSpans.kk hW K))) rfl ?_
      rintro _ h16 ⟨rfl, K16⟩
      have B1 := K16.blk (by simp) B1
      have B2 := K16.blk (by simp) B2
      try have KB := KB.newX K16 (fun x hx => .inr (by first | (simp at hx; done) | (simp at hx; omega)))
      have K := K.new0 K16; have Z16 := K16.1
      refine rs_v (v_not rfl) rfl ?_
      refine rs_v (v_move rfl) rfl ?_
      refine rs_gs rfl (lkb g1) rfl rfl ?_
      refine rs_gs rfl (lkb g1) rfl rfl ?_
      refine rs_gs rfl (lkb g1) rfl rfl ?_
      refine rs_v (v_pick_t (lkb g1) rfl) rfl ?_
      refine rs_nil ?_
      exact q_cut [(0, _), (1, _), (2, _), (5, _), (9, _), (10, _), (12, _), (51, _)] ⟨rfl, rfl, rfl, rfl, rfl, rfl, rfl, rfl, trivial⟩ ⟨K, KB, by rw [show ((!(mostB W 40 && wellB W)) || (decide ((60 : Int) < (steps.length : Int)))) = (true) from by simp only [g1, Bool.true_or, Bool.false_or]]⟩
    · skip
      refine tr_reg ?_
      refine rs_v (v_move rfl) rfl ?_
      refine rs_w (w_call (vs := [_, _]) ok_laws_spanWell rfl ⟨rfl, rfl, trivial⟩ (c_spanWell χ _ _ (all_low _) _ W 40 (RSpans.kk hW K))) rfl ?_
      rintro _ h17 ⟨rfl, K17⟩
      have B1 := K17.blk (by simp) B1
      have B2 := K17.blk (by simp) B2
      try have KB := KB.newX K17 (fun x hx => .inr (by first | (simp at hx; done) | (simp at hx; omega)))
      have K := K.new0 K17; have Z17 := K17.1
      refine rs_v (v_not rfl) rfl ?_
      refine rs_v (v_move rfl) rfl ?_
      refine rs_gv rfl (lkb g1) (v_move rfl) rfl ?_
      refine rs_gv rfl (lkb g1) (v_len u_sl_spec_Step rfl) rfl ?_
      refine rs_gv rfl (lkb g1) (v_gt rfl rfl) rfl ?_
      refine rs_v (v_pick_f (lkb g1) rfl) rfl ?_
      refine rs_nil ?_
      exact q_cut [(0, _), (1, _), (2, _), (5, _), (9, _), (10, _), (12, _), (51, _)] ⟨rfl, rfl, rfl, rfl, rfl, rfl, rfl, rfl, trivial⟩ ⟨K, KB, by rw [show ((!(mostB W 40 && wellB W)) || (decide ((60 : Int) < (steps.length : Int)))) = (decide ((60 : Int) < (steps.length : Int))) from by simp only [g1, Bool.true_or, Bool.false_or]]⟩
  rintro E h99 ⟨K, KB, rfl⟩
  have B1 := KB.blk (by simp) B10
  have B2 := KB.blk (by simp) B20
  refine tr_if rfl (fun hif => ?_) (fun hif => ?_)
  · -- yes
    skip
    refine tr_seq ?_
    refine tr_reg ?_
    refine rs_v (v_assign rfl) rfl ?_
    refine rs_nil ?_
    refine q_thn ?_
    refine tr_ret ?_
    refine q_thn_ret ?_
    refine q_ret (res_tmp rfl rfl) ?_
    exact ⟨rfl, K⟩
  -- no
  simp only [Bool.or_eq_false_iff, Bool.not_eq_false', decide_eq_false_iff_not] at hif
  obtain ⟨hw, hl6⟩ := hif
  obtain ⟨hG, _⟩ := good_of (by decide) hf4 hw
  have hk8 := fit8_small hf8
  obtain ⟨_, _, _, e9, hx⟩ := SlR.form hW
  cases e9
  refine tr_skip ?_
  refine q_thn ?_
  refine tr_seq ?_
  refine tr_seq ?_
  refine tr_reg ?_
  refine rs_v (v_move rfl) rfl ?_
  refine rs_v (v_len u_sl_spec_Span rfl) rfl ?_
  refine rs_v (v_move rfl) rfl ?_
  refine rs_nil ?_
  refine q_thn ?_
  refine tr_block ?_
  refine tr_loop (fun m E h' => ∃ k, k ≤ W.length ∧ m = W.length - k ∧ E = [(0, .slice a W.length c), (1, .string lo), (2, .string up), (5, .slice a2 steps.length c2), (9, ptr h.size), (10, ptr h1.size), (52, .slice a W.length c), (53, .int .i64 (W.length : Int)), (54, .int .i64 (k : Int))] ∧ Keep [] h h' ∧ Keep [] h2 h' ∧ ∀ s, s ∈ W.take k → en.user ≠ s.s) W.length [(0, _), (1, _), (2, _), (5, _), (9, _), (10, _), (52, _), (53, _), (54, _)] ⟨rfl, rfl, rfl, rfl, rfl, rfl, rfl, rfl, rfl, trivial⟩ ⟨0, Nat.zero_le _, rfl, rfl, K, KB, by simp⟩ ?_
  rintro m E hL19 ⟨k, hk, rfl, rfl, K, KB, hen⟩
  have B1 := KB.blk (by simp) B10
  have B2 := KB.blk (by simp) B20
  have hlt1 := B1.lt
  have hlt2 := B2.lt
  have hKBz := KB.1
  refine tr_seq ?_
  refine tr_reg ?_
  refine rs_v (v_lt rfl rfl) rfl ?_
  refine rs_nil ?_
  refine q_thn ?_
  refine tr_seq ?_
  refine tr_ifn rfl (fun hif => ?_) (fun hif => ?_)
  · -- no
    simp only [decide_eq_true_eq, decide_eq_false_iff_not] at hif
    have hkk : k = W.length := by omega
    subst hkk
    rw [List.take_length] at hen
    refine tr_exit ?_
    refine q_thn_exit ?_
    refine q_lp_exit ?_
    refine q_blk_hit ?_
    refine q_thn ?_
    refine tr_seq ?_
    refine tr_reg ?_
    refine rs_v (v_move rfl) rfl ?_
    refine rs_v (v_loadAgg (vs := [_, _, _]) many_spec_Entry rfl (by exact B1.sub _ 3 rfl)) rfl ?_
    refine rs_v (v_loadAgg (vs := [_, _, _]) many_spec_Entry rfl (by exact B2.sub _ 3 rfl)) rfl ?_
    refine rs_w (w_call (vs := [_, _, _]) ok_spec_SpanWithin rfl ⟨rfl, rfl, rfl, trivial⟩ (c_SpanWithin χ _ _ (all_low _) _ W st en (RSpans.kk hW K) hG.n)) rfl ?_
    rintro hWiv h20 ⟨hWi, K20⟩
    have hWi := RSpans.mono hWi (upA K20)
    obtain ⟨hWia, hWic, rfl⟩ := SlR.form2 hWi
    have B1 := K20.blk (by simp) B1
    have B2 := K20.blk (by simp) B2
    try have KB := KB.newX K20 (fun x hx => .inr (by first | (simp at hx; done) | (simp at hx; omega)))
    have K := K.new0 K20; have Z20 := K20.1
    refine rs_v (v_move rfl) rfl ?_
    refine rs_v (v_move rfl) rfl ?_
    refine rs_w (w_call (vs := [_, _, _]) ok_spec_SpanTruncated rfl ⟨rfl, rfl, rfl, trivial⟩ (c_SpanTruncated χ _ _ (all_low _) _ _ lo up hWi (Nat.le_trans (List.length_filterMap_le _ _) hG.n))) rfl ?_
    rintro hFv h21 ⟨hF, K21⟩
    have hF := RSpans.mono hF (upA K21)
    rw [ffT_both] at hF
    obtain ⟨hFa, hFc, rfl⟩ := SlR.form2 hF
    have B1 := K21.blk (by simp) B1
    have B2 := K21.blk (by simp) B2
    try have KB := KB.newX K21 (fun x hx => .inr (by first | (simp at hx; done) | (simp at hx; omega)))
    have hWi := RSpans.kk hWi K21
    have K := K.new0 K21; have Z21 := K21.1
    refine rs_v (v_assign rfl) rfl ?_
    refine rs_nil ?_
    refine q_thn ?_
    refine tr_seq ?_
    refine tr_any (Keep []) (keep_pre _) (by kernel_rfl) (by kernel_rfl) ?_
    refine rm_v (keep_pre _) (fun h' hk => v_move rfl) ?_
    refine rm_w (fun v h' => RSpans (All h') h' v W) (fun v _ _ _ k2 hr => RSpans.kk hr k2) (fun h' hk => OpW.mono (w_call (vs := [_]) ok_laws_toSpans rfl ⟨rfl, trivial⟩ (c_toSpans χ h' _ (all_low _) _ W (RSpans.kk hW (K.new0 hk)) hG.n hG.few)) (fun v h'' hv => ⟨hv.2, RSpans.mono hv.1 (upA hv.2)⟩)) ?_
    refine rm_v (keep_pre _) (fun h' hk => v_move rfl) ?_
    refine rm_v (keep_pre _) (fun h' hk => v_move rfl) ?_
    refine rm_v (keep_pre _) (fun h' hk => v_loadAgg (vs := [_, _, _]) many_spec_Entry rfl ((hk.blk (by simp) B1).sub 0 3 rfl)) ?_
    refine rm_c (v := st.v) (fun h' hk => w_call (vs := [_]) ok_laws_toEntry rfl ⟨rfl, trivial⟩ (c_toEntry χ h' st)) ?_
    refine rm_v (keep_pre _) (fun h' hk => v_loadAgg (vs := [_, _, _]) many_spec_Entry rfl ((hk.blk (by simp) B2).sub 0 3 rfl)) ?_
    refine rm_c (v := en.v) (fun h' hk => w_call (vs := [_]) ok_laws_toEntry rfl ⟨rfl, trivial⟩ (c_toEntry χ h' en)) ?_
    refine rm_v (keep_pre _) (fun h' hk => v_move rfl) ?_
    refine rm_w (fun v h' => RSteps (All h') h' v steps) (fun v _ _ _ k2 hr => RSteps.kk hr k2) (fun h' hk => OpW.mono (w_call (vs := [_]) ok_laws_toSteps rfl ⟨rfl, trivial⟩ (c_toSteps χ h' _ (all_low _) _ steps (RSteps.kk hS (K.new0 hk)) (by omega))) (fun v h'' hv => ⟨hv.2, RSteps.mono hv.1 (upA hv.2)⟩)) ?_
    refine rm_mk (.loose (fun v h' => RAnss (All h') h' v (walkP (W.filterMap (ffT (some st.user) (some en.user) lo up)) .nowhere steps))) (fun v _ _ _ k2 hr => RAnss.kk hr k2) (fun h' hk => om_open 72 rfl (by kernel_rfl) fun u hu => om_open 80 rfl (by kernel_rfl) fun u2 hu2 => om_w (by simp) rfl (OpW.mono (w_call (vs := [_, _, _, _, _, _]) ok_impl_SpanTruncatedWithin rfl ⟨rfl, rfl, rfl, rfl, rfl, rfl, trivial⟩ (c_implSpanTruncatedWithin χ h' _ (all_low _) _ _ W steps lo up st en hu hG.n hG.small hG.ne hG.ord (by omega) (by omega) (by omega) (by omega) hen hu2 (by omega) hk8)) (fun v h'' hv => ⟨hv.2, RAnss.mono hv.1 (upN hv.2)⟩))) ?_
    refine rm_v (keep_pre _) (fun h' hk => v_move rfl) ?_
    refine rm_v (keep_pre _) (fun h' hk => v_move rfl) ?_
    refine rm_w (fun v h' => RAnss (All h') h' v (walkP (W.filterMap (ffT (some st.user) (some en.user) lo up)) .nowhere steps)) (fun v _ _ _ k2 hr => RAnss.kk hr k2) (fun h' hk => OpW.mono (w_call (vs := [_, _]) ok_spec_SpanWalk rfl ⟨rfl, rfl, trivial⟩ (c_SpanWalk χ h' _ (all_low _) _ _ _ steps (RSpans.kk hF hk) (RSteps.kk hS (K.new0 hk)) (by omega))) (fun v h'' hv => ⟨hv.2, RAnss.mono hv.1 (upA hv.2)⟩)) ?_
    refine rm_mk (.val (.bool true)) (fun _ _ _ _ _ h => h) (fun h' hk => om_open 81 rfl (by kernel_rfl) fun u hu => om_open 84 rfl (by kernel_rfl) fun u2 hu2 => om_w (by simp) rfl (OpW.mono (w_call (vs := [_, _]) ok_laws_spanAnswers rfl ⟨rfl, rfl, trivial⟩ (c_spanAnswers χ h' _ _ (all_low _) (all_low _) _ _ _ _ hu hu2 (ansLike_walk (ffT_desc hG) _ _))) (fun v h'' hv => ⟨hv.2, hv.1⟩))) ?_
    refine rm_v (keep_pre _) (fun h' hk => v_move rfl) ?_
    refine rm_mk (.loose (fun v h' => RSpans (All h') h' v someW)) (fun v _ _ _ k2 hr => RSpans.kk hr k2) (fun h' hk => om_gt (by simp) rfl rfl rfl (OpW.mono (w_call (vs := []) ok_laws_spanSome rfl trivial (c_spanSome χ h')) (fun v h'' hv => ⟨hv.2, RSpans.mono hv.1 (upN hv.2)⟩))) ?_
    refine rm_gv (keep_pre _) rfl rfl (fun h' hk => v_build0 (v := esT.v) bld_impl_Entry_) ?_
    refine rm_gv (keep_pre _) rfl rfl (fun h' hk => v_build1 (v := enT.v) rfl (bld_impl_Entry_0 _)) ?_
    refine rm_mk (.loose (fun v h' => RSteps (All h') h' v startS)) (fun v _ _ _ k2 hr => RSteps.kk hr k2) (fun h' hk => om_gt (by simp) rfl rfl rfl (OpW.mono (w_call (vs := []) ok_laws_spanStart rfl trivial (c_spanStart χ h')) (fun v h'' hv => ⟨hv.2, RSteps.mono hv.1 (upN hv.2)⟩))) ?_
    refine rm_mk (.loose (fun v h' => RAnss (All h') h' v [⟨true, true, ⟨⟨#[97]⟩, ⟨#[98]⟩, [⟨256, ByteArray.empty, ByteArray.empty⟩]⟩⟩])) (fun v _ _ _ k2 hr => RAnss.kk hr k2) (fun h' hk => om_open 87 rfl (by kernel_rfl) fun u hu => om_open 90 rfl (by kernel_rfl) fun u2 hu2 => om_gt (by simp) rfl rfl rfl (OpW.mono (w_call (vs := [_, _, _, _, _, _]) ok_impl_SpanTruncatedWithin rfl ⟨rfl, rfl, rfl, rfl, rfl, rfl, trivial⟩ (c_implSpanTruncatedWithin χ h' _ (all_low _) _ _ someW startS ⟨#[97]⟩ ⟨#[98]⟩ esT enT hu some_good.n some_good.small some_good.ne some_good.ord (by decide) (by decide) (by decide) (by decide) en_some hu2 (by decide) start_small)) (fun v h'' hv => ⟨hv.2, by have h1 := hv.1; rw [someTW2] at h1; exact RAnss.mono h1 (upN hv.2)⟩))) ?_
    refine rm_mk (.val (.bool true)) (fun _ _ _ _ _ h => h) (fun h' hk => om_open 91 rfl (by kernel_rfl) fun u hu => om_gt (by simp) rfl rfl rfl (OpW.mono (w_call (vs := [_]) ok_laws_spanFound rfl ⟨rfl, trivial⟩ (c_spanFound χ h' _ _ _ hu)) (fun v h'' hv => ⟨hv.2, hv.1⟩))) ?_
    refine rm_v (keep_pre _) (fun h' hk => v_pick_t rfl rfl) ?_
    refine rm_v (keep_pre _) (fun h' hk => v_assign rfl) ?_
    refine rm_end ?_; intro h22 K22; simp only [endM, hypF, ofE, argE, List.nil_append]
    iterate 7 (intro _ _)
    have K := K.new0 K22
    refine q_thn ?_
    refine tr_ret ?_
    refine q_ret (res_tmp rfl rfl) ?_
    exact ⟨rfl, K⟩
  -- yes
  simp only [decide_eq_true_eq, decide_eq_false_iff_not] at hif
  rcases hx with rfl | ⟨b, o, rfl, hAb, hR⟩
  · simp at hif; omega
  obtain ⟨x, hsk⟩ := ex_get (L := W) (k := k) (by omega)
  have hkl : k < W.length := (List.getElem?_eq_some_iff.1 hsk).1
  have KL0 := K.1
  obtain ⟨kv, hcc, hkx⟩ := hR k x hsk
  obtain ⟨ka, kc, rfl⟩ := hkx.form2
  have hcells := K.cells (by simp) hcc
  refine tr_skip ?_
  refine q_thn ?_
  refine tr_seq ?_
  refine tr_block ?_
  refine tr_seq ?_
  refine tr_reg ?_
  refine rs_v (v_indexAddrN u_sl_spec_Span siz_spec_Span rfl rfl (by omega)) rfl ?_
  refine rs_v (v_loadAgg (vs := [_, _, _]) many_spec_Span rfl (by exact hcells)) rfl ?_
  refine rs_w (w_new zero_spec_Span) rfl ?_
  rintro _ h23 ⟨rfl, B23, K23, Z23⟩
  have B1 := K23.blk (by simp) B1
  have B2 := K23.blk (by simp) B2
  try have KB := KB.newX K23 (fun x hx => .inr (by first | (simp at hx; done) | (simp at hx; omega)))
  have S23 := K.1; have K := K.new0 K23
  refine rs_w0 (w_put siz_spec_Span rfl rfl rfl rfl B23 rfl) ?_
  rintro _ h24 ⟨B24, K24⟩
  have B1 := K24.blk (by simp; omega) B1
  have B2 := K24.blk (by simp; omega) B2
  try have KB := KB.newX K24 (fun x hx => .inr (by first | (simp at hx; done) | (simp at hx; omega)))
  have B23 := B24; have K := K.new1 K24 (by first | (right; omega) | (left; simp; done)); have Z24 := K24.1
  refine rs_nil ?_
  refine q_thn ?_
  refine tr_seq ?_
  refine tr_reg ?_
  refine rs_v (v_fieldAddr fa_spec_Span_0 rfl) rfl ?_
  refine rs_v (v_load one_string rfl (by exact B23.cell _ rfl)) rfl ?_
  refine rs_v (v_fieldAddr fa_spec_Entry_0 rfl) rfl ?_
  refine rs_v (v_load one_string rfl (by exact B2.cell _ rfl)) rfl ?_
  refine rs_v (v_seq rfl rfl) rfl ?_
  refine rs_nil ?_
  refine q_thn ?_
  refine tr_if rfl (fun hif => ?_) (fun hif => ?_)
  · -- yes
    skip
    refine tr_seq ?_
    refine tr_reg ?_
    refine rs_v (v_assign rfl) rfl ?_
    refine rs_nil ?_
    refine q_thn ?_
    refine tr_ret ?_
    refine q_blk_ret ?_
    refine q_thn_ret ?_
    refine q_lp_ret ?_
    refine q_blk_ret ?_
    refine q_thn_ret ?_
    refine q_ret (res_tmp rfl rfl) ?_
    exact ⟨rfl, K⟩
  -- no
  skip
  refine tr_skip ?_
  refine q_blk_n ?_
  refine q_thn ?_
  refine tr_reg ?_
  refine rs_v (v_add rfl rfl (by omega) (by omega)) rfl ?_
  refine rs_v (v_move rfl) rfl ?_
  refine rs_nil ?_
  refine q_lp (W.length - (k + 1)) [(0, _), (1, _), (2, _), (5, _), (9, _), (10, _), (52, _), (53, _), (54, _)] (by omega) ⟨rfl, rfl, rfl, rfl, rfl, rfl, rfl, rfl, rfl, trivial⟩ ⟨k + 1, by omega, rfl, rfl, K, KB, fun s hs => ?_⟩
  rw [take_snoc' hsk] at hs
  rcases List.mem_append.1 hs with hs | hs
  · exact hen s hs
  · simp at hs; rw [hs]; intro e; rw [e] at hif; have := seq_iff.2 (rfl : x.s = x.s); rw [this] at hif; cases hif
end Go.Proofs.Ytgebfbnndgjkiaa
