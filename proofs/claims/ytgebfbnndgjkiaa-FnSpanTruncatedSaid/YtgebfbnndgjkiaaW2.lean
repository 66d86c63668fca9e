/- Walks, second part: spans in order. Conditions: those that each theorem names. -/
import Derived.Test.YtgebfbnndgjkiaaW1
set_option linter.unusedVariables false
set_option linter.unusedSimpArgs false
namespace Go.Proofs.Ytgebfbnndgjkiaa
open Go.Tess Go.RowKit
set_option maxRecDepth 100000
def chainB {α : Type} (r : α → α → Bool) : List α → Bool
  | a :: b :: l => r a b && chainB r (b :: l)
  | _ => true
theorem chainB_iff {α : Type} (r : α → α → Bool) : ∀ l : List α, chainB r l = true ↔ ∀ (i : Nat) a b, l[i]? = some a → l[i + 1]? = some b → r a b = true
  | [] => by simp [chainB]
  | [a] => by simp [chainB]
  | a :: b :: l => by
    simp only [chainB, Bool.and_eq_true, chainB_iff r (b :: l)]
    constructor
    · rintro ⟨h1, h2⟩ i x y hx hy
      cases i with
      | zero => simp at hx hy; subst hx; subst hy; exact h1
      | succ i => exact h2 i x y (by simpa using hx) (by simpa using hy)
    · intro h
      exact ⟨h 0 a b rfl rfl, fun i x y hx hy => h (i + 1) x y (by simpa using hx) (by simpa using hy)⟩
theorem chainB_hit {α : Type} {r : α → α → Bool} {l : List α} {i : Nat} {a b : α} (ha : l[i]? = some a) (hb : l[i + 1]? = some b) (h : r a b = false) : chainB r l = false := by
  cases hc : chainB r l with
  | false => rfl
  | true => rw [(chainB_iff r l).1 hc i a b ha hb] at h; cases h
def descB (ks : List KeyD) : Bool := chainB (fun a b : KeyD => decide (b.tr ≤ a.tr)) ks
def fullB (s : SpanD) : Bool := slt s.s s.e && (decide ((0 : Int) < (s.ks.length : Int)) && descB s.ks)
def wellB (L : List SpanD) : Bool := L.all fullB && chainB (fun a b : SpanD => sle a.e b.s) L

theorem c_SpanDescending (χ : Chi) (h : Heap) (A : Nat → Prop) (v : Value) (ks : List KeyD) (hk : RKeys A h v ks) :
    Cl Try.prog χ 72 #[v] h (fun r h' => r = .bool (descB ks) ∧ h' = h) := by
  obtain ⟨hlen, a, c, rfl, hx⟩ := hk.form
  refine cl_intro Try.func72 rfl rfl rfl ?_
  have K : Keep [] h h := Keep.refl _ _
  refine tr_seq ?_
  refine tr_reg ?_
  refine rs_v (v_assign rfl) rfl ?_
  refine rs_nil ?_
  refine q_thn ?_
  refine tr_seq ?_
  refine tr_seq ?_
  refine tr_reg ?_
  refine rs_v (v_assign rfl) rfl ?_
  refine rs_nil ?_
  refine q_thn ?_
  refine tr_block ?_
  refine tr_loop (fun m E h' => ∃ k, m = ks.length - k ∧ E = [(0, .slice a ks.length c), (3, .int .i64 ((k + 1 : Nat) : Int))] ∧ h' = h ∧ (k = 0 ∨ k + 1 ≤ ks.length) ∧ ∀ (i : Nat) x y, i < k → ks[i]? = some x → ks[i + 1]? = some y → decide (y.tr ≤ x.tr) = true) ks.length [(0, _), (3, _)] ⟨rfl, rfl, trivial⟩ ⟨0, rfl, rfl, rfl, .inl rfl, fun i _ _ hi => by omega⟩ ?_
  rintro m E hL1 ⟨k, rfl, rfl, rfl, hk1, hall⟩
  refine tr_seq ?_
  refine tr_seq ?_
  refine tr_reg ?_
  refine rs_v (v_move rfl) rfl ?_
  refine rs_v (v_move rfl) rfl ?_
  refine rs_v (v_len u_sl_spec_SpanKey rfl) rfl ?_
  refine rs_v (v_lt rfl rfl) rfl ?_
  refine rs_nil ?_
  refine q_thn ?_
  refine tr_ifn rfl (fun hif => ?_) (fun hif => ?_)
  · -- no
    simp only [decide_eq_true_eq, decide_eq_false_iff_not] at hif
    refine tr_exit ?_
    refine q_thn_exit ?_
    refine q_lp_exit ?_
    refine q_blk_hit ?_
    refine q_thn ?_
    refine tr_seq ?_
    refine tr_reg ?_
    refine rs_v (v_assign rfl) rfl ?_
    refine rs_nil ?_
    refine q_thn ?_
    refine tr_ret ?_
    refine q_ret (res_tmp rfl rfl) ?_
    refine ⟨?_, rfl⟩
    have : descB ks = true := (chainB_iff _ ks).2 fun i x y hx hy => by
      have hlt := (List.getElem?_eq_some_iff.1 hy).1
      exact hall i x y (by omega) hx hy
    rw [this]
  -- yes
  simp only [decide_eq_true_eq, decide_eq_false_iff_not] at hif
  rcases hx with rfl | ⟨b, o, rfl, hAb, hR⟩
  · simp at hif; omega
  obtain ⟨x, hxk⟩ := ex_get (L := ks) (k := k) (by omega)
  obtain ⟨y, hyk⟩ := ex_get (L := ks) (k := k + 1) (by omega)
  refine tr_skip ?_
  refine q_thn ?_
  refine tr_seq ?_
  refine tr_block ?_
  refine tr_seq ?_
  refine tr_quiet (by kernel_rfl) (by kernel_rfl) ?_
  refine rq_v (v_move rfl) ?_
  refine rq_v (v_move rfl) ?_
  refine rq_v (v_sub rfl rfl (by omega) (by omega)) ?_
  refine rq_v (v_indexAddrE (i := k) u_sl_spec_SpanKey siz_spec_SpanKey rfl rfl (by omega) (by omega)) ?_
  refine rq_v (v_fieldAddr fa_spec_SpanKey_0 rfl) ?_
  refine rq_v (v_load one_uint64 rfl (by exact (hR k x hxk).at 0 rfl)) ?_
  refine rq_v (v_move rfl) ?_
  refine rq_v (v_move rfl) ?_
  refine rq_v (v_indexAddrN u_sl_spec_SpanKey siz_spec_SpanKey rfl rfl (by omega)) ?_
  refine rq_v (v_fieldAddr fa_spec_SpanKey_0 rfl) ?_
  refine rq_v (v_load one_uint64 rfl (by exact (hR (k + 1) y hyk).at 0 rfl)) ?_
  refine rq_v (v_lt rfl rfl) ?_
  refine rm_end ?_; simp only [endM, hypF, ofE, argE]
  refine q_thn ?_
  refine tr_if rfl (fun hif => ?_) (fun hif => ?_)
  · -- yes
    simp only [decide_eq_true_eq, decide_eq_false_iff_not] at hif
    refine tr_seq ?_
    refine tr_reg ?_
    refine rs_v (v_assign rfl) rfl ?_
    refine rs_nil ?_
    refine q_thn ?_
    refine tr_ret ?_
    refine q_blk_ret ?_
    refine q_thn_ret ?_
    refine q_lp_ret ?_
    refine q_blk_ret ?_
    refine q_thn_ret ?_
    refine q_ret (res_tmp rfl rfl) ?_
    exact ⟨by rw [show descB ks = false from chainB_hit hxk hyk (by simpa using hif)], rfl⟩
  -- no
  simp only [decide_eq_true_eq, decide_eq_false_iff_not] at hif
  have hno := hif
  refine tr_skip ?_
  refine q_blk_n ?_
  refine q_thn ?_
  refine tr_reg ?_
  refine rs_v (v_move rfl) rfl ?_
  refine rs_v (v_add rfl rfl (by omega) (by omega)) rfl ?_
  refine rs_v (v_assign rfl) rfl ?_
  refine rs_nil ?_
  refine q_lp (ks.length - (k + 1)) [(0, _), (3, _)] (by omega) ⟨rfl, rfl, trivial⟩ ⟨k + 1, rfl, rfl, rfl, .inr (by omega), fun i x' y' hi hx' hy' => ?_⟩
  rcases Nat.lt_or_ge i k with hlt | hge
  · exact hall i x' y' hlt hx' hy'
  · have : i = k := by omega
    subst this
    rw [hxk] at hx'; rw [hyk] at hy'; cases hx'; cases hy'
    simpa using hno
theorem c_SpanFull_a (χ : Chi) (h : Heap) (A : Nat → Prop) (kv : Value) (s : SpanD) (hA : ∀ b, A b → b < h.size) (hk : RKeys A h kv s.ks) (hs : slt s.s s.e = false) :
    Cl Try.prog χ 75 #[.agg #[.string s.s, .string s.e, kv]] h (fun r h' => r = .bool (fullB s) ∧ Keep [] h h') := by
  obtain ⟨ka, kc, rfl⟩ := hk.form2
  refine cl_intro Try.func75 rfl rfl rfl ?_
  have K : Keep [] h h := Keep.refl _ _
  refine tr_seq ?_
  refine tr_reg ?_
  refine rs_w (w_newbox rfl) rfl ?_
  rintro _ h1 ⟨rfl, B1, K1, Z1⟩
  have S1 := K.1; have K := K.new0 K1
  refine rs_v (v_assign rfl) rfl ?_
  refine rs_nil ?_
  refine q_thn ?_
  refine tr_seq ?_
  refine tr_reg ?_
  refine rs_v (v_fieldAddr fa_spec_Span_0 rfl) rfl ?_
  refine rs_v (v_load one_string rfl (by exact B1.cell _ rfl)) rfl ?_
  refine rs_v (v_fieldAddr fa_spec_Span_1 rfl) rfl ?_
  refine rs_v (v_load one_string rfl (by exact B1.cell _ rfl)) rfl ?_
  refine rs_v (v_slt rfl rfl) rfl ?_
  refine rs_v (v_move rfl) rfl ?_
  refine rs_gs rfl (lkb hs) rfl rfl ?_
  refine rs_gs rfl (lkb hs) rfl rfl ?_
  refine rs_gs rfl (lkb hs) rfl rfl ?_
  refine rs_gs rfl (lkb hs) rfl rfl ?_
  refine rs_v (v_pick_f (lkb hs) rfl) rfl ?_
  refine rs_v (v_move rfl) rfl ?_
  refine rs_gs rfl rfl rfl rfl ?_
  refine rs_gs rfl rfl rfl rfl ?_
  refine rs_gs rfl rfl rfl rfl ?_
  refine rs_v (v_pick_f rfl rfl) rfl ?_
  refine rs_v (v_assign rfl) rfl ?_
  refine rs_nil ?_
  refine q_thn ?_
  refine tr_ret ?_
  refine q_ret (res_tmp rfl rfl) ?_
  exact ⟨by simp only [fullB, hs, Bool.false_and], K⟩
theorem c_SpanFull_b (χ : Chi) (h : Heap) (A : Nat → Prop) (kv : Value) (s : SpanD) (hA : ∀ b, A b → b < h.size) (hk : RKeys A h kv s.ks) (hs : slt s.s s.e = true) (hz : decide ((0 : Int) < (s.ks.length : Int)) = false) :
    Cl Try.prog χ 75 #[.agg #[.string s.s, .string s.e, kv]] h (fun r h' => r = .bool (fullB s) ∧ Keep [] h h') := by
  obtain ⟨ka, kc, rfl⟩ := hk.form2
  refine cl_intro Try.func75 rfl rfl rfl ?_
  have K : Keep [] h h := Keep.refl _ _
  refine tr_seq ?_
  refine tr_reg ?_
  refine rs_w (w_newbox rfl) rfl ?_
  rintro _ h1 ⟨rfl, B1, K1, Z1⟩
  have S1 := K.1; have K := K.new0 K1
  refine rs_v (v_assign rfl) rfl ?_
  refine rs_nil ?_
  refine q_thn ?_
  refine tr_seq ?_
  refine tr_reg ?_
  refine rs_v (v_fieldAddr fa_spec_Span_0 rfl) rfl ?_
  refine rs_v (v_load one_string rfl (by exact B1.cell _ rfl)) rfl ?_
  refine rs_v (v_fieldAddr fa_spec_Span_1 rfl) rfl ?_
  refine rs_v (v_load one_string rfl (by exact B1.cell _ rfl)) rfl ?_
  refine rs_v (v_slt rfl rfl) rfl ?_
  refine rs_v (v_move rfl) rfl ?_
  refine rs_gv rfl (lkb hs) (v_fieldAddr fa_spec_Span_2 rfl) rfl ?_
  refine rs_gv rfl (lkb hs) (v_load one_sl_spec_SpanKey rfl (by exact B1.cell _ rfl)) rfl ?_
  refine rs_gv rfl (lkb hs) (v_len u_sl_spec_SpanKey rfl) rfl ?_
  refine rs_gv rfl (lkb hs) (v_gt rfl rfl) rfl ?_
  refine rs_v (v_pick_t (lkb hs) rfl) rfl ?_
  refine rs_v (v_move rfl) rfl ?_
  refine rs_gs rfl (lkb hz) rfl rfl ?_
  refine rs_gs rfl (lkb hz) rfl rfl ?_
  refine rs_gs rfl (lkb hz) rfl rfl ?_
  refine rs_v (v_pick_f (lkb hz) rfl) rfl ?_
  refine rs_v (v_assign rfl) rfl ?_
  refine rs_nil ?_
  refine q_thn ?_
  refine tr_ret ?_
  refine q_ret (res_tmp rfl rfl) ?_
  exact ⟨by simp only [fullB, hs, hz, Bool.false_and, Bool.and_false], K⟩
theorem c_SpanFull_c (χ : Chi) (h : Heap) (A : Nat → Prop) (kv : Value) (s : SpanD) (hA : ∀ b, A b → b < h.size) (hk : RKeys A h kv s.ks) (hs : slt s.s s.e = true) (hz : decide ((0 : Int) < (s.ks.length : Int)) = true) :
    Cl Try.prog χ 75 #[.agg #[.string s.s, .string s.e, kv]] h (fun r h' => r = .bool (fullB s) ∧ Keep [] h h') := by
  obtain ⟨ka, kc, rfl⟩ := hk.form2
  refine cl_intro Try.func75 rfl rfl rfl ?_
  have K : Keep [] h h := Keep.refl _ _
  refine tr_seq ?_
  refine tr_reg ?_
  refine rs_w (w_newbox rfl) rfl ?_
  rintro _ h1 ⟨rfl, B1, K1, Z1⟩
  have S1 := K.1; have K := K.new0 K1
  refine rs_v (v_assign rfl) rfl ?_
  refine rs_nil ?_
  refine q_thn ?_
  refine tr_seq ?_
  refine tr_reg ?_
  refine rs_v (v_fieldAddr fa_spec_Span_0 rfl) rfl ?_
  refine rs_v (v_load one_string rfl (by exact B1.cell _ rfl)) rfl ?_
  refine rs_v (v_fieldAddr fa_spec_Span_1 rfl) rfl ?_
  refine rs_v (v_load one_string rfl (by exact B1.cell _ rfl)) rfl ?_
  refine rs_v (v_slt rfl rfl) rfl ?_
  refine rs_v (v_move rfl) rfl ?_
  refine rs_gv rfl (lkb hs) (v_fieldAddr fa_spec_Span_2 rfl) rfl ?_
  refine rs_gv rfl (lkb hs) (v_load one_sl_spec_SpanKey rfl (by exact B1.cell _ rfl)) rfl ?_
  refine rs_gv rfl (lkb hs) (v_len u_sl_spec_SpanKey rfl) rfl ?_
  refine rs_gv rfl (lkb hs) (v_gt rfl rfl) rfl ?_
  refine rs_v (v_pick_t (lkb hs) rfl) rfl ?_
  refine rs_v (v_move rfl) rfl ?_
  refine rs_gv rfl (lkb hz) (v_fieldAddr fa_spec_Span_2 rfl) rfl ?_
  refine rs_gv rfl (lkb hz) (v_load one_sl_spec_SpanKey rfl (by exact B1.cell _ rfl)) rfl ?_
  refine rs_gw rfl (lkb hz) (w_call (vs := [_]) ok_spec_SpanDescending rfl ⟨rfl, trivial⟩ (c_SpanDescending χ _ A _ s.ks (hk.stab (K.stab fun b hb => ⟨hA b hb, by simp⟩)))) rfl ?_
  rintro _ h2 ⟨rfl, hsame⟩; have hsame := hsame.symm; subst hsame
  refine rs_v (v_pick_t (lkb hz) rfl) rfl ?_
  refine rs_v (v_assign rfl) rfl ?_
  refine rs_nil ?_
  refine q_thn ?_
  refine tr_ret ?_
  refine q_ret (res_tmp rfl rfl) ?_
  exact ⟨by simp only [fullB, hs, hz, Bool.true_and], K⟩
theorem c_SpanFull (χ : Chi) (h : Heap) (A : Nat → Prop) (kv : Value) (s : SpanD) (hA : ∀ b, A b → b < h.size) (hk : RKeys A h kv s.ks) :
    Cl Try.prog χ 75 #[.agg #[.string s.s, .string s.e, kv]] h (fun r h' => r = .bool (fullB s) ∧ Keep [] h h') := by
  rcases Bool.eq_false_or_eq_true (slt s.s s.e) with hs | hs
  · rcases Bool.eq_false_or_eq_true (decide ((0 : Int) < (s.ks.length : Int))) with hz | hz
    · exact c_SpanFull_c χ h A kv s hA hk hs hz
    · exact c_SpanFull_b χ h A kv s hA hk hs hz
  · exact c_SpanFull_a χ h A kv s hA hk hs
theorem c_SpanWell (χ : Chi) (h : Heap) (A : Nat → Prop) (hA : ∀ b, A b → b < h.size) (v : Value) (L : List SpanD) (hL : RSpans A h v L) :
    Cl Try.prog χ 50 #[v] h (fun r h' => r = .bool (wellB L) ∧ Keep [] h h') := by
  obtain ⟨hlen, a, c, rfl, hx⟩ := hL.form
  refine cl_intro Try.func50 rfl rfl rfl ?_
  have K : Keep [] h h := Keep.refl _ _
  refine tr_seq ?_
  refine tr_reg ?_
  refine rs_v (v_assign rfl) rfl ?_
  refine rs_nil ?_
  refine q_thn ?_
  refine tr_seq ?_
  refine tr_seq ?_
  refine tr_reg ?_
  refine rs_v (v_move rfl) rfl ?_
  refine rs_v (v_len u_sl_spec_Span rfl) rfl ?_
  refine rs_v (v_move rfl) rfl ?_
  refine rs_nil ?_
  refine q_thn ?_
  refine tr_block ?_
  refine tr_loop (fun m E h' => ∃ k, k ≤ L.length ∧ m = L.length - k ∧ E = [(0, .slice a L.length c), (5, .slice a L.length c), (6, .int .i64 (L.length : Int)), (7, .int .i64 (k : Int))] ∧ Keep [] h h' ∧ (L.take k).all fullB = true ∧ ∀ (i : Nat) x y, i + 1 < k → L[i]? = some x → L[i + 1]? = some y → sle x.e y.s = true) L.length [(0, _), (5, _), (6, _), (7, _)] ⟨rfl, rfl, rfl, rfl, trivial⟩ ⟨0, Nat.zero_le _, rfl, rfl, K, rfl, fun i _ _ hi => by omega⟩ ?_
  rintro m E hL1 ⟨k, hk, rfl, rfl, K, hall, hch⟩
  refine tr_seq ?_
  refine tr_reg ?_
  refine rs_v (v_lt rfl rfl) rfl ?_
  refine rs_nil ?_
  refine q_thn ?_
  refine tr_seq ?_
  refine tr_ifn rfl (fun hif => ?_) (fun hif => ?_)
  · -- no
    simp only [decide_eq_true_eq, decide_eq_false_iff_not] at hif
    have hkk : k = L.length := by omega
    subst hkk
    refine tr_exit ?_
    refine q_thn_exit ?_
    refine q_lp_exit ?_
    refine q_blk_hit ?_
    refine q_thn ?_
    refine tr_seq ?_
    refine tr_reg ?_
    refine rs_v (v_assign rfl) rfl ?_
    refine rs_nil ?_
    refine q_thn ?_
    refine tr_ret ?_
    refine q_ret (res_tmp rfl rfl) ?_
    refine ⟨?_, K⟩
    rw [List.take_length] at hall
    have : chainB (fun a b : SpanD => sle a.e b.s) L = true := (chainB_iff _ L).2 fun i x y hx hy => hch i x y (by have := (List.getElem?_eq_some_iff.1 hy).1; omega) hx hy
    simp only [wellB, hall, this]; rfl
  -- yes
  simp only [decide_eq_true_eq, decide_eq_false_iff_not] at hif
  rcases hx with rfl | ⟨b, o, rfl, hAb, hR⟩
  · simp at hif; omega
  obtain ⟨x, hxk⟩ := ex_get (L := L) (k := k) (by omega)
  obtain ⟨kv, hcells, hkeys⟩ := hR k x hxk
  obtain ⟨ka, kc, hkv⟩ := hkeys.form2
  subst hkv
  have hcells := K.cells (by simp) hcells
  refine tr_skip ?_
  refine q_thn ?_
  refine tr_seq ?_
  refine tr_block ?_
  refine tr_seq ?_
  refine tr_reg ?_
  refine rs_v (v_move rfl) rfl ?_
  refine rs_v (v_indexAddrN u_sl_spec_Span siz_spec_Span rfl rfl (by omega)) rfl ?_
  refine rs_v (v_loadAgg (vs := [_, _, _]) many_spec_Span rfl (by exact hcells)) rfl ?_
  refine rs_w (w_new zero_spec_Span) rfl ?_
  rintro _ h2 ⟨rfl, B2, K2, Z2⟩
  have S2 := K.1; have K := K.new0 K2
  refine rs_v (v_assign rfl) rfl ?_
  refine rs_w0 (w_put siz_spec_Span rfl rfl rfl rfl B2 rfl) ?_
  rintro _ h3 ⟨B3, K3⟩
  have B2 := B3; have K := K.new1 K3 (by first | (right; omega) | (left; simp; done)); have Z3 := K3.1
  refine rs_nil ?_
  refine q_thn ?_
  refine tr_cut (fun E h' => ∃ bad, E = [(0, .slice (some ⟨b, o, none⟩) L.length c), (5, .slice (some ⟨b, o, none⟩) L.length c), (6, .int .i64 (L.length : Int)), (7, .int .i64 (k : Int)), (29, .bool bad)] ∧ Keep [] h h' ∧ (bad = false ↔ fullB x = true ∧ ∀ j y, k = j + 1 → L[j]? = some y → sle y.e x.s = true)) ?_ ?_
  ·
    have hcall : ∀ h', Keep [] h3 h' → Cl Try.prog χ 75 #[.agg #[.string x.s, .string x.e, .slice ka x.ks.length kc]] h' (fun r h'' => r = .bool (fullB x) ∧ Keep [] h' h'') := fun h' hk => c_SpanFull χ h' A _ x (fun b hb => by have := hA b hb; have := K.1; have := hk.1; omega) (hkeys.stab ((K.new0 hk).stab fun b hb => ⟨hA b hb, by simp⟩))
    rcases Bool.eq_false_or_eq_true (fullB x) with hf | hf
    rcases Nat.eq_zero_or_pos k with hk0 | hk0
    · -- the first one
      have hz : decide ((0 : Int) < (k : Int)) = false := by simp; omega
      have hf2 : (!fullB x) = false := by rw [hf]; rfl
      refine tr_any (Keep []) (keep_pre _) (by kernel_rfl) (by kernel_rfl) ?_
      refine rm_v (keep_pre _) (fun h' hk => v_loadAgg (vs := [_, _, _]) many_spec_Span rfl (by exact (hk.blk (by simp) B2).sub _ 3 rfl)) ?_
      refine rm_c (fun h' hk => w_call (vs := [_]) ok_spec_SpanFull rfl ⟨rfl, trivial⟩ (hcall h' hk)) ?_
      refine rm_v (keep_pre _) (fun h' hk => v_not rfl) ?_
      refine rm_v (keep_pre _) (fun h' hk => v_move rfl) ?_
      refine rm_gv (keep_pre _) rfl (lkm hf2) (fun h' hk => v_move rfl) ?_
      refine rm_gv (keep_pre _) rfl (lkm hf2) (fun h' hk => v_gt rfl rfl) ?_
      refine rm_gv (keep_pre _) rfl (lkm hf2) (fun h' hk => v_move rfl) ?_
      refine rm_gs (keep_pre _) rfl (lkm hz) rfl ?_
      refine rm_gs (keep_pre _) rfl (lkm hz) rfl ?_
      refine rm_gs (keep_pre _) rfl (lkm hz) rfl ?_
      refine rm_gs (keep_pre _) rfl (lkm hz) rfl ?_
      refine rm_gs (keep_pre _) rfl (lkm hz) rfl ?_
      refine rm_gs (keep_pre _) rfl (lkm hz) rfl ?_
      refine rm_gs (keep_pre _) rfl (lkm hz) rfl ?_
      refine rm_gs (keep_pre _) rfl (lkm hz) rfl ?_
      refine rm_gs (keep_pre _) rfl (lkm hz) rfl ?_
      refine rm_gv (keep_pre _) rfl (lkm hf2) (fun h' hk => v_pick_f (lkb hz) rfl) ?_
      refine rm_v (keep_pre _) (fun h' hk => v_pick_f (lkb hf2) rfl) ?_
      refine rm_end ?_; intro h4 K4; simp only [endM, hypF, ofE, argE, List.nil_append]
      have B2 := K4.blk (by simp) B2
      have K := K.new0 K4; have Z4 := K4.1
      refine q_cut [(0, _), (5, _), (6, _), (7, _), (29, _)] ⟨rfl, rfl, rfl, rfl, rfl, trivial⟩ ⟨_, rfl, K, ⟨fun _ => ⟨hf, fun j y hj => by omega⟩, fun _ => rfl⟩⟩
    · -- a later one
      obtain ⟨j, rfl⟩ : ∃ j, k = j + 1 := ⟨k - 1, by omega⟩
      obtain ⟨y, hyj⟩ := ex_get (L := L) (k := j) (by omega)
      obtain ⟨kv2, hcells2, hkeys2⟩ := hR j y hyj
      have hcells2 := K.cells (by simp) hcells2
      have hz : decide ((0 : Int) < ((j + 1 : Nat) : Int)) = true := by simp
      have hf2 : (!fullB x) = false := by rw [hf]; rfl
      refine tr_any (Keep []) (keep_pre _) (by kernel_rfl) (by kernel_rfl) ?_
      refine rm_v (keep_pre _) (fun h' hk => v_loadAgg (vs := [_, _, _]) many_spec_Span rfl (by exact (hk.blk (by simp) B2).sub _ 3 rfl)) ?_
      refine rm_c (fun h' hk => w_call (vs := [_]) ok_spec_SpanFull rfl ⟨rfl, trivial⟩ (hcall h' hk)) ?_
      refine rm_v (keep_pre _) (fun h' hk => v_not rfl) ?_
      refine rm_v (keep_pre _) (fun h' hk => v_move rfl) ?_
      refine rm_gv (keep_pre _) rfl (lkm hf2) (fun h' hk => v_move rfl) ?_
      refine rm_gv (keep_pre _) rfl (lkm hf2) (fun h' hk => v_gt rfl rfl) ?_
      refine rm_gv (keep_pre _) rfl (lkm hf2) (fun h' hk => v_move rfl) ?_
      refine rm_gv (keep_pre _) rfl (lkm hz) (fun h' hk => v_move rfl) ?_
      refine rm_gv (keep_pre _) rfl (lkm hz) (fun h' hk => v_move rfl) ?_
      refine rm_gv (keep_pre _) rfl (lkm hz) (fun h' hk => v_sub rfl rfl (by omega) (by omega)) ?_
      refine rm_gv (keep_pre _) rfl (lkm hz) (fun h' hk => v_indexAddrE (i := j) u_sl_spec_Span siz_spec_Span rfl rfl (by omega) (by omega)) ?_
      refine rm_gv (keep_pre _) rfl (lkm hz) (fun h' hk => v_fieldAddr fa_spec_Span_1 rfl) ?_
      refine rm_gv (keep_pre _) rfl (lkm hz) (fun h' hk => v_load one_string rfl (by exact hk.cell (by simp) (hcells2.at 1 rfl))) ?_
      refine rm_gv (keep_pre _) rfl (lkm hz) (fun h' hk => v_fieldAddr fa_spec_Span_0 rfl) ?_
      refine rm_gv (keep_pre _) rfl (lkm hz) (fun h' hk => v_load one_string rfl (by exact (hk.blk (by simp) B2).cell _ rfl)) ?_
      refine rm_gv (keep_pre _) rfl (lkm hz) (fun h' hk => v_sgt rfl rfl) ?_
      refine rm_gv (keep_pre _) rfl (lkm hf2) (fun h' hk => v_pick_t (lkb hz) rfl) ?_
      refine rm_v (keep_pre _) (fun h' hk => v_pick_f (lkb hf2) rfl) ?_
      refine rm_end ?_; intro h5 K5; simp only [endM, hypF, ofE, argE, List.nil_append]
      have B2 := K5.blk (by simp) B2
      have K := K.new0 K5; have Z5 := K5.1
      refine q_cut [(0, _), (5, _), (6, _), (7, _), (29, _)] ⟨rfl, rfl, rfl, rfl, rfl, trivial⟩ ⟨_, rfl, K, ⟨fun hb => ⟨hf, fun i z hi hz2 => ?_⟩, fun hb => ?_⟩⟩
      · have : i = j := by omega
        subst this
        rw [hyj] at hz2; cases hz2
        simpa using hb
      · have := hb.2 j y rfl hyj
        simpa using this
    · -- not full
      have hf2 : (!fullB x) = true := by rw [hf]; rfl
      refine tr_any (Keep []) (keep_pre _) (by kernel_rfl) (by kernel_rfl) ?_
      refine rm_v (keep_pre _) (fun h' hk => v_loadAgg (vs := [_, _, _]) many_spec_Span rfl (by exact (hk.blk (by simp) B2).sub _ 3 rfl)) ?_
      refine rm_c (fun h' hk => w_call (vs := [_]) ok_spec_SpanFull rfl ⟨rfl, trivial⟩ (hcall h' hk)) ?_
      refine rm_v (keep_pre _) (fun h' hk => v_not rfl) ?_
      refine rm_v (keep_pre _) (fun h' hk => v_move rfl) ?_
      refine rm_gs (keep_pre _) rfl (lkm hf2) rfl ?_
      refine rm_gs (keep_pre _) rfl (lkm hf2) rfl ?_
      refine rm_gs (keep_pre _) rfl (lkm hf2) rfl ?_
      refine rm_gu (keep_pre _) rfl rfl ?_
      refine rm_gu (keep_pre _) rfl rfl ?_
      refine rm_gu (keep_pre _) rfl rfl ?_
      refine rm_gu (keep_pre _) rfl rfl ?_
      refine rm_gu (keep_pre _) rfl rfl ?_
      refine rm_gu (keep_pre _) rfl rfl ?_
      refine rm_gu (keep_pre _) rfl rfl ?_
      refine rm_gu (keep_pre _) rfl rfl ?_
      refine rm_gu (keep_pre _) rfl rfl ?_
      refine rm_gs (keep_pre _) rfl (lkm hf2) rfl ?_
      refine rm_v (keep_pre _) (fun h' hk => v_pick_t (lkb hf2) rfl) ?_
      refine rm_end ?_; intro h6 K6; simp only [endM, hypF, ofE, argE, List.nil_append]
      have B2 := K6.blk (by simp) B2
      have K := K.new0 K6; have Z6 := K6.1
      refine q_cut [(0, _), (5, _), (6, _), (7, _), (29, _)] ⟨rfl, rfl, rfl, rfl, rfl, trivial⟩ ⟨true, rfl, K, ⟨fun e => (by cases e), fun e => (by rw [hf] at e; cases e.1)⟩⟩
  rintro E h4 ⟨bad, rfl, K, hbad⟩
  refine tr_if rfl (fun hif => ?_) (fun hif => ?_)
  · -- yes
    subst hif
    refine tr_seq ?_
    refine tr_reg ?_
    refine rs_v (v_assign rfl) rfl ?_
    refine rs_nil ?_
    refine q_thn ?_
    refine tr_ret ?_
    refine q_blk_ret ?_
    refine q_thn_ret ?_
    refine q_lp_ret ?_
    refine q_blk_ret ?_
    refine q_thn_ret ?_
    refine q_ret (res_tmp rfl rfl) ?_
    refine ⟨?_, K⟩
    have : wellB L = false := by
      cases hw : wellB L with
      | false => rfl
      | true =>
        simp only [wellB, Bool.and_eq_true] at hw
        have h1 : fullB x = true := List.all_eq_true.1 hw.1 x (List.mem_of_getElem? hxk)
        have := hbad.2 ⟨h1, fun j y hj hy => (chainB_iff _ L).1 hw.2 j y x hy (by rw [← hj]; exact hxk)⟩
        cases this
    rw [this]
  -- no
  subst hif
  refine tr_skip ?_
  refine q_blk_n ?_
  refine q_thn ?_
  refine tr_reg ?_
  refine rs_v (v_add rfl rfl (by omega) (by omega)) rfl ?_
  refine rs_v (v_move rfl) rfl ?_
  refine rs_nil ?_
  have hb2 := hbad.1 rfl
  refine q_lp (L.length - (k + 1)) [(0, _), (5, _), (6, _), (7, _)] (by omega) ⟨rfl, rfl, rfl, rfl, trivial⟩ ⟨k + 1, by omega, rfl, rfl, K, ?_, ?_⟩
  · rw [take_all hxk, hall, hb2.1]; rfl
  · intro i x' y' hi hx' hy'
    rcases Nat.lt_or_ge (i + 1) k with hlt | hge
    · exact hch i x' y' hlt hx' hy'
    · have hik : k = i + 1 := by omega
      subst hik
      rw [hxk] at hy'; cases hy'
      exact hb2.2 i x' rfl hx'
end Go.Proofs.Ytgebfbnndgjkiaa
