/- Walks, third part: the place in a list of spans. Conditions: those that each theorem names. -/
import Derived.Test.YtgebfbnndgjkiaaW2
import Derived.Test.YtgebfbnndgjkiaaModel
set_option linter.unusedVariables false
set_option linter.unusedSimpArgs false
namespace Go.Proofs.Ytgebfbnndgjkiaa
open Go.Tess Go.RowKit
set_option maxRecDepth 100000
def inR (x n : Int) : Bool := decide (0 ≤ x) && decide (x < n)
def curL (n x : Int) (f b a : Bool) : List Value := [.int .i64 n, .int .i64 x, .bool f, .bool b, .bool a, .bool false]

theorem c_SpanSeekGE (χ : Chi) (h : Heap) (A : Nat → Prop) (v : Value) (W : List SpanD) (key : ByteArray) (hW : RSpans A h v W) :
    Cl Try.prog χ 52 #[v, .string key] h (fun r h' => r = .int .i64 (geI W key : Int) ∧ Keep [] h h') := by
  obtain ⟨hlen, a, c, rfl, hx⟩ := hW.form
  refine cl_intro Try.func52 rfl rfl rfl ?_
  have K : Keep [] h h := Keep.refl _ _
  refine tr_seq ?_
  refine tr_reg ?_
  refine rs_v (v_assign rfl) rfl ?_
  refine rs_nil ?_
  refine q_thn ?_
  refine tr_seq ?_
  refine tr_seq ?_
  refine tr_reg ?_
  refine rs_v (v_move rfl) rfl ?_
  refine rs_v (v_len u_sl_spec_Span rfl) rfl ?_
  refine rs_v (v_move rfl) rfl ?_
  refine rs_nil ?_
  refine q_thn ?_
  refine tr_block ?_
  refine tr_loop (fun m E h' => ∃ k, k ≤ W.length ∧ m = W.length - k ∧ E = [(0, .slice a W.length c), (1, .string key), (7, .slice a W.length c), (8, .int .i64 (W.length : Int)), (9, .int .i64 (k : Int))] ∧ Keep [] h h' ∧ ∀ (j : Nat) s, j < k → W[j]? = some s → sle s.e key = true) W.length [(0, _), (1, _), (7, _), (8, _), (9, _)] ⟨rfl, rfl, rfl, rfl, rfl, trivial⟩ ⟨0, Nat.zero_le _, rfl, rfl, K, fun j _ hj => by omega⟩ ?_
  rintro m E hL1 ⟨k, hk, rfl, rfl, K, hall⟩
  refine tr_seq ?_
  refine tr_reg ?_
  refine rs_v (v_lt rfl rfl) rfl ?_
  refine rs_nil ?_
  refine q_thn ?_
  refine tr_seq ?_
  refine tr_ifn rfl (fun hif => ?_) (fun hif => ?_)
  · -- no
    simp only [decide_eq_true_eq, decide_eq_false_iff_not] at hif
    have hkk : k = W.length := by omega
    subst hkk
    refine tr_exit ?_
    refine q_thn_exit ?_
    refine q_lp_exit ?_
    refine q_blk_hit ?_
    refine q_thn ?_
    refine tr_seq ?_
    refine tr_reg ?_
    refine rs_v (v_move rfl) rfl ?_
    refine rs_v (v_len u_sl_spec_Span rfl) rfl ?_
    refine rs_v (v_assign rfl) rfl ?_
    refine rs_nil ?_
    refine q_thn ?_
    refine tr_ret ?_
    refine q_ret (res_tmp rfl rfl) ?_
    exact ⟨by rw [geI_spec W key W.length hall (.inl rfl)], K⟩
  -- yes
  simp only [decide_eq_true_eq, decide_eq_false_iff_not] at hif
  rcases hx with rfl | ⟨b, o, rfl, hAb, hR⟩
  · simp at hif; omega
  obtain ⟨x, hxk⟩ := ex_get (L := W) (k := k) (by omega)
  obtain ⟨kv, hcells, hkeys⟩ := hR k x hxk
  obtain ⟨ka, kc, hkv⟩ := hkeys.form2
  subst hkv
  have hcells := K.cells (by simp) hcells
  refine tr_skip ?_
  refine q_thn ?_
  refine tr_seq ?_
  refine tr_block ?_
  refine tr_seq ?_
  refine tr_reg ?_
  refine rs_v (v_move rfl) rfl ?_
  refine rs_v (v_indexAddrN u_sl_spec_Span siz_spec_Span rfl rfl (by omega)) rfl ?_
  refine rs_v (v_loadAgg (vs := [_, _, _]) many_spec_Span rfl (by exact hcells)) rfl ?_
  refine rs_w (w_new zero_spec_Span) rfl ?_
  rintro _ h2 ⟨rfl, B2, K2, Z2⟩
  have S2 := K.1; have K := K.new0 K2
  refine rs_v (v_assign rfl) rfl ?_
  refine rs_w0 (w_put siz_spec_Span rfl rfl rfl rfl B2 rfl) ?_
  rintro _ h3 ⟨B3, K3⟩
  have B2 := B3; have K := K.new1 K3 (by first | (right; omega) | (left; simp; done)); have Z3 := K3.1
  refine rs_nil ?_
  refine q_thn ?_
  refine tr_seq ?_
  refine tr_reg ?_
  refine rs_v (v_fieldAddr fa_spec_Span_1 rfl) rfl ?_
  refine rs_v (v_load one_string rfl (by exact B2.cell _ rfl)) rfl ?_
  refine rs_v (v_move rfl) rfl ?_
  refine rs_v (v_sgt rfl rfl) rfl ?_
  refine rs_nil ?_
  refine q_thn ?_
  refine tr_if rfl (fun hif => ?_) (fun hif => ?_)
  · -- yes
    simp only [Bool.not_eq_true'] at hif
    refine tr_seq ?_
    refine tr_reg ?_
    refine rs_v (v_move rfl) rfl ?_
    refine rs_v (v_assign rfl) rfl ?_
    refine rs_nil ?_
    refine q_thn ?_
    refine tr_ret ?_
    refine q_blk_ret ?_
    refine q_thn_ret ?_
    refine q_lp_ret ?_
    refine q_blk_ret ?_
    refine q_thn_ret ?_
    refine q_ret (res_tmp rfl rfl) ?_
    exact ⟨by rw [geI_spec W key k hall (.inr ⟨x, hxk, hif⟩)], K⟩
  -- no
  simp only [Bool.not_eq_false'] at hif
  have hno := hif
  refine tr_skip ?_
  refine q_blk_n ?_
  refine q_thn ?_
  refine tr_reg ?_
  refine rs_v (v_add rfl rfl (by omega) (by omega)) rfl ?_
  refine rs_v (v_move rfl) rfl ?_
  refine rs_nil ?_
  refine q_lp (W.length - (k + 1)) [(0, _), (1, _), (7, _), (8, _), (9, _)] (by omega) ⟨rfl, rfl, rfl, rfl, rfl, trivial⟩ ⟨k + 1, by omega, rfl, rfl, K, fun j s hj hs => ?_⟩
  rcases Nat.lt_or_ge j k with hlt | hge
  · exact hall j s hlt hs
  · have : j = k := by omega
    subst this
    rw [hxk] at hs; cases hs; exact hno
theorem c_SpanSeekLT (χ : Chi) (h : Heap) (A : Nat → Prop) (v : Value) (W : List SpanD) (key : ByteArray) (hW : RSpans A h v W) :
    Cl Try.prog χ 53 #[v, .string key] h (fun r h' => r = .int .i64 ((ltI W key : Int) - 1) ∧ Keep [] h h') := by
  obtain ⟨hlen, a, c, rfl, hx⟩ := hW.form
  refine cl_intro Try.func53 rfl rfl rfl ?_
  have K : Keep [] h h := Keep.refl _ _
  refine tr_seq ?_
  refine tr_reg ?_
  refine rs_v (v_assign rfl) rfl ?_
  refine rs_nil ?_
  refine q_thn ?_
  refine tr_seq ?_
  refine tr_reg ?_
  refine rs_v (v_assign rfl) rfl ?_
  refine rs_nil ?_
  refine q_thn ?_
  refine tr_seq ?_
  refine tr_seq ?_
  refine tr_reg ?_
  refine rs_v (v_move rfl) rfl ?_
  refine rs_v (v_len u_sl_spec_Span rfl) rfl ?_
  refine rs_v (v_move rfl) rfl ?_
  refine rs_nil ?_
  refine q_thn ?_
  refine tr_block ?_
  refine tr_loop (fun m E h' => ∃ k at_, k ≤ W.length ∧ m = W.length - k ∧ E = [(0, .slice a W.length c), (1, .string key), (5, .int .i64 at_), (8, .slice a W.length c), (9, .int .i64 (W.length : Int)), (10, .int .i64 (k : Int))] ∧ Keep [] h h' ∧ at_ = (ltI (W.take k) key : Int) - 1) W.length [(0, _), (1, _), (5, _), (8, _), (9, _), (10, _)] ⟨rfl, rfl, rfl, rfl, rfl, rfl, trivial⟩ ⟨0, -1, Nat.zero_le _, rfl, rfl, K, rfl⟩ ?_
  rintro m E hL1 ⟨k, at_, hk, rfl, rfl, K, hat⟩
  refine tr_seq ?_
  refine tr_reg ?_
  refine rs_v (v_lt rfl rfl) rfl ?_
  refine rs_nil ?_
  refine q_thn ?_
  refine tr_seq ?_
  refine tr_ifn rfl (fun hif => ?_) (fun hif => ?_)
  · -- no
    simp only [decide_eq_true_eq, decide_eq_false_iff_not] at hif
    have hkk : k = W.length := by omega
    subst hkk
    refine tr_exit ?_
    refine q_thn_exit ?_
    refine q_lp_exit ?_
    refine q_blk_hit ?_
    refine q_thn ?_
    refine tr_seq ?_
    refine tr_reg ?_
    refine rs_v (v_move rfl) rfl ?_
    refine rs_v (v_assign rfl) rfl ?_
    refine rs_nil ?_
    refine q_thn ?_
    refine tr_ret ?_
    refine q_ret (res_tmp rfl rfl) ?_
    exact ⟨by rw [hat, List.take_length], K⟩
  -- yes
  simp only [decide_eq_true_eq, decide_eq_false_iff_not] at hif
  rcases hx with rfl | ⟨b, o, rfl, hAb, hR⟩
  · simp at hif; omega
  obtain ⟨x, hxk⟩ := ex_get (L := W) (k := k) (by omega)
  obtain ⟨kv, hcells, hkeys⟩ := hR k x hxk
  obtain ⟨ka, kc, hkv⟩ := hkeys.form2
  subst hkv
  have hcells := K.cells (by simp) hcells
  refine tr_skip ?_
  refine q_thn ?_
  refine tr_seq ?_
  refine tr_block ?_
  refine tr_seq ?_
  refine tr_reg ?_
  refine rs_v (v_move rfl) rfl ?_
  refine rs_v (v_indexAddrN u_sl_spec_Span siz_spec_Span rfl rfl (by omega)) rfl ?_
  refine rs_v (v_loadAgg (vs := [_, _, _]) many_spec_Span rfl (by exact hcells)) rfl ?_
  refine rs_w (w_new zero_spec_Span) rfl ?_
  rintro _ h2 ⟨rfl, B2, K2, Z2⟩
  have S2 := K.1; have K := K.new0 K2
  refine rs_v (v_assign rfl) rfl ?_
  refine rs_w0 (w_put siz_spec_Span rfl rfl rfl rfl B2 rfl) ?_
  rintro _ h3 ⟨B3, K3⟩
  have B2 := B3; have K := K.new1 K3 (by first | (right; omega) | (left; simp; done)); have Z3 := K3.1
  refine rs_nil ?_
  refine q_thn ?_
  refine tr_seq ?_
  refine tr_reg ?_
  refine rs_v (v_fieldAddr fa_spec_Span_0 rfl) rfl ?_
  refine rs_v (v_load one_string rfl (by exact B2.cell _ rfl)) rfl ?_
  refine rs_v (v_move rfl) rfl ?_
  refine rs_v (v_slt rfl rfl) rfl ?_
  refine rs_nil ?_
  refine q_thn ?_
  refine tr_if rfl (fun hif => ?_) (fun hif => ?_)
  · -- yes
    skip
    refine tr_reg ?_
    refine rs_v (v_move rfl) rfl ?_
    refine rs_v (v_assign rfl) rfl ?_
    refine rs_nil ?_
    refine q_blk_n ?_
    refine q_thn ?_
    refine tr_reg ?_
    refine rs_v (v_add rfl rfl (by omega) (by omega)) rfl ?_
    refine rs_v (v_move rfl) rfl ?_
    refine rs_nil ?_
    refine q_lp (W.length - (k + 1)) [(0, _), (1, _), (5, _), (8, _), (9, _), (10, _)] (by omega) ⟨rfl, rfl, rfl, rfl, rfl, rfl, trivial⟩ ⟨k + 1, _, by omega, rfl, rfl, K, ?_⟩
    rw [take_snoc' hxk, ltI_snoc, if_pos hif, List.length_take]
    omega
  -- no
  skip
  refine tr_skip ?_
  refine q_blk_n ?_
  refine q_thn ?_
  refine tr_reg ?_
  refine rs_v (v_add rfl rfl (by omega) (by omega)) rfl ?_
  refine rs_v (v_move rfl) rfl ?_
  refine rs_nil ?_
  refine q_lp (W.length - (k + 1)) [(0, _), (1, _), (5, _), (8, _), (9, _), (10, _)] (by omega) ⟨rfl, rfl, rfl, rfl, rfl, rfl, trivial⟩ ⟨k + 1, _, by omega, rfl, rfl, K, ?_⟩
  rw [take_snoc' hxk, ltI_snoc, if_neg (by rw [hif]; decide)]
  exact hat
theorem c_place_a (χ : Chi) (h : Heap) (c : Nat) (n x y : Int) (f b a i fwd : Bool) (T : TypeId) (Bc : Blk h c [.int .i64 n, .int .i64 y, .bool f, .bool b, .bool a, .bool i] T) (g0 : decide ((0 : Int) ≤ x) = false) :
    Cl Try.prog χ 76 #[.pointer (some ⟨c, 0, none⟩), .int .i64 x, .bool fwd] h (fun r h' => r = .tuple #[] ∧ Blk h' c (curL n x false fwd (!fwd)) T ∧ Keep [c] h h') := by
  refine cl_intro Try.func76 rfl rfl rfl ?_
  have K : Keep [c] h h := Keep.refl _ _
  refine tr_seq ?_
  refine tr_reg ?_
  refine rs_v (v_move rfl) rfl ?_
  refine rs_v (v_move rfl) rfl ?_
  refine rs_v (v_nilCheck_ptr rfl) rfl ?_
  refine rs_v (v_fieldAddr fa_spec_SpanCursor_1 rfl) rfl ?_
  refine rs_w0 (w_put siz_int rfl rfl rfl rfl Bc rfl) ?_
  rintro _ h1 ⟨B1, K1⟩
  have Bc := B1; have K := K.new1 K1 (by first | (right; omega) | (left; simp; done)); have Z1 := K1.1
  refine rs_nil ?_
  refine q_thn ?_
  refine tr_seq ?_
  refine tr_reg ?_
  refine rs_v (v_move rfl) rfl ?_
  refine rs_v (v_move rfl) rfl ?_
  refine rs_v (v_le rfl rfl) rfl ?_
  refine rs_v (v_move rfl) rfl ?_
  refine rs_gs rfl (lkb g0) rfl rfl ?_
  refine rs_gs rfl (lkb g0) rfl rfl ?_
  refine rs_gs rfl (lkb g0) rfl rfl ?_
  refine rs_gs rfl (lkb g0) rfl rfl ?_
  refine rs_gs rfl (lkb g0) rfl rfl ?_
  refine rs_gs rfl (lkb g0) rfl rfl ?_
  refine rs_v (v_pick_f (lkb g0) rfl) rfl ?_
  refine rs_v (v_nilCheck_ptr rfl) rfl ?_
  refine rs_v (v_fieldAddr fa_spec_SpanCursor_2 rfl) rfl ?_
  refine rs_w0 (w_put siz_bool rfl rfl rfl rfl Bc rfl) ?_
  rintro _ h2 ⟨B2, K2⟩
  have Bc := B2; have K := K.new1 K2 (by first | (right; omega) | (left; simp; done)); have Z2 := K2.1
  refine rs_nil ?_
  refine q_thn ?_
  refine tr_seq ?_
  refine tr_reg ?_
  refine rs_v (v_move rfl) rfl ?_
  refine rs_v (v_move rfl) rfl ?_
  refine rs_v (v_nilCheck_ptr rfl) rfl ?_
  refine rs_v (v_fieldAddr fa_spec_SpanCursor_2 rfl) rfl ?_
  refine rs_v (v_load one_bool rfl (by exact Bc.cell _ rfl)) rfl ?_
  refine rs_v (v_not rfl) rfl ?_
  refine rs_v (v_move rfl) rfl ?_
  refine rs_gv rfl rfl (v_move rfl) rfl ?_
  refine rs_v (v_pick_t rfl rfl) rfl ?_
  refine rs_v (v_nilCheck_ptr rfl) rfl ?_
  refine rs_v (v_fieldAddr fa_spec_SpanCursor_3 rfl) rfl ?_
  refine rs_w0 (w_put siz_bool rfl rfl rfl rfl Bc rfl) ?_
  rintro _ h3 ⟨B3, K3⟩
  have Bc := B3; have K := K.new1 K3 (by first | (right; omega) | (left; simp; done)); have Z3 := K3.1
  refine rs_nil ?_
  refine q_thn ?_
  refine tr_seq ?_
  refine tr_reg ?_
  refine rs_v (v_move rfl) rfl ?_
  refine rs_v (v_move rfl) rfl ?_
  refine rs_v (v_nilCheck_ptr rfl) rfl ?_
  refine rs_v (v_fieldAddr fa_spec_SpanCursor_2 rfl) rfl ?_
  refine rs_v (v_load one_bool rfl (by exact Bc.cell _ rfl)) rfl ?_
  refine rs_v (v_not rfl) rfl ?_
  refine rs_v (v_move rfl) rfl ?_
  refine rs_gv rfl rfl (v_move rfl) rfl ?_
  refine rs_gv rfl rfl (v_not rfl) rfl ?_
  refine rs_v (v_pick_t rfl rfl) rfl ?_
  refine rs_v (v_nilCheck_ptr rfl) rfl ?_
  refine rs_v (v_fieldAddr fa_spec_SpanCursor_4 rfl) rfl ?_
  refine rs_w0 (w_put siz_bool rfl rfl rfl rfl Bc rfl) ?_
  rintro _ h4 ⟨B4, K4⟩
  have Bc := B4; have K := K.new1 K4 (by first | (right; omega) | (left; simp; done)); have Z4 := K4.1
  refine rs_nil ?_
  refine q_thn ?_
  refine tr_reg ?_
  refine rs_v (v_move rfl) rfl ?_
  refine rs_v (v_nilCheck_ptr rfl) rfl ?_
  refine rs_v (v_fieldAddr fa_spec_SpanCursor_5 rfl) rfl ?_
  refine rs_w0 (w_put siz_bool rfl rfl rfl rfl Bc rfl) ?_
  rintro _ h5 ⟨B5, K5⟩
  have Bc := B5; have K := K.new1 K5 (by first | (right; omega) | (left; simp; done)); have Z5 := K5.1
  refine rs_nil ?_
  refine q_end (res_none rfl) ?_
  refine ⟨rfl, ?_, K⟩
  simp [putRow, Value.cells] at Bc
  exact Bc
theorem c_place_b (χ : Chi) (h : Heap) (c : Nat) (n x y : Int) (f b a i fwd : Bool) (T : TypeId) (Bc : Blk h c [.int .i64 n, .int .i64 y, .bool f, .bool b, .bool a, .bool i] T) (g0 : decide ((0 : Int) ≤ x) = true) (g1 : decide (x < n) = true) :
    Cl Try.prog χ 76 #[.pointer (some ⟨c, 0, none⟩), .int .i64 x, .bool fwd] h (fun r h' => r = .tuple #[] ∧ Blk h' c (curL n x true false false) T ∧ Keep [c] h h') := by
  have g2 : (!decide (x < n)) = false := by rw [g1]; rfl
  refine cl_intro Try.func76 rfl rfl rfl ?_
  have K : Keep [c] h h := Keep.refl _ _
  refine tr_seq ?_
  refine tr_reg ?_
  refine rs_v (v_move rfl) rfl ?_
  refine rs_v (v_move rfl) rfl ?_
  refine rs_v (v_nilCheck_ptr rfl) rfl ?_
  refine rs_v (v_fieldAddr fa_spec_SpanCursor_1 rfl) rfl ?_
  refine rs_w0 (w_put siz_int rfl rfl rfl rfl Bc rfl) ?_
  rintro _ h1 ⟨B1, K1⟩
  have Bc := B1; have K := K.new1 K1 (by first | (right; omega) | (left; simp; done)); have Z1 := K1.1
  refine rs_nil ?_
  refine q_thn ?_
  refine tr_seq ?_
  refine tr_reg ?_
  refine rs_v (v_move rfl) rfl ?_
  refine rs_v (v_move rfl) rfl ?_
  refine rs_v (v_le rfl rfl) rfl ?_
  refine rs_v (v_move rfl) rfl ?_
  refine rs_gv rfl (lkb g0) (v_move rfl) rfl ?_
  refine rs_gv rfl (lkb g0) (v_move rfl) rfl ?_
  refine rs_gv rfl (lkb g0) (v_nilCheck_ptr rfl) rfl ?_
  refine rs_gv rfl (lkb g0) (v_fieldAddr fa_spec_SpanCursor_0 rfl) rfl ?_
  refine rs_gv rfl (lkb g0) (v_load one_int rfl (by exact Bc.cell _ rfl)) rfl ?_
  refine rs_gv rfl (lkb g0) (v_lt rfl rfl) rfl ?_
  refine rs_v (v_pick_t (lkb g0) rfl) rfl ?_
  refine rs_v (v_nilCheck_ptr rfl) rfl ?_
  refine rs_v (v_fieldAddr fa_spec_SpanCursor_2 rfl) rfl ?_
  refine rs_w0 (w_put siz_bool rfl rfl rfl rfl Bc rfl) ?_
  rintro _ h2 ⟨B2, K2⟩
  have Bc := B2; have K := K.new1 K2 (by first | (right; omega) | (left; simp; done)); have Z2 := K2.1
  refine rs_nil ?_
  refine q_thn ?_
  refine tr_seq ?_
  refine tr_reg ?_
  refine rs_v (v_move rfl) rfl ?_
  refine rs_v (v_move rfl) rfl ?_
  refine rs_v (v_nilCheck_ptr rfl) rfl ?_
  refine rs_v (v_fieldAddr fa_spec_SpanCursor_2 rfl) rfl ?_
  refine rs_v (v_load one_bool rfl (by exact Bc.cell _ rfl)) rfl ?_
  refine rs_v (v_not rfl) rfl ?_
  refine rs_v (v_move rfl) rfl ?_
  refine rs_gs rfl (lkb g2) rfl rfl ?_
  refine rs_v (v_pick_f (lkb g2) rfl) rfl ?_
  refine rs_v (v_nilCheck_ptr rfl) rfl ?_
  refine rs_v (v_fieldAddr fa_spec_SpanCursor_3 rfl) rfl ?_
  refine rs_w0 (w_put siz_bool rfl rfl rfl rfl Bc rfl) ?_
  rintro _ h3 ⟨B3, K3⟩
  have Bc := B3; have K := K.new1 K3 (by first | (right; omega) | (left; simp; done)); have Z3 := K3.1
  refine rs_nil ?_
  refine q_thn ?_
  refine tr_seq ?_
  refine tr_reg ?_
  refine rs_v (v_move rfl) rfl ?_
  refine rs_v (v_move rfl) rfl ?_
  refine rs_v (v_nilCheck_ptr rfl) rfl ?_
  refine rs_v (v_fieldAddr fa_spec_SpanCursor_2 rfl) rfl ?_
  refine rs_v (v_load one_bool rfl (by exact Bc.cell _ rfl)) rfl ?_
  refine rs_v (v_not rfl) rfl ?_
  refine rs_v (v_move rfl) rfl ?_
  refine rs_gs rfl (lkb g2) rfl rfl ?_
  refine rs_gs rfl (lkb g2) rfl rfl ?_
  refine rs_v (v_pick_f (lkb g2) rfl) rfl ?_
  refine rs_v (v_nilCheck_ptr rfl) rfl ?_
  refine rs_v (v_fieldAddr fa_spec_SpanCursor_4 rfl) rfl ?_
  refine rs_w0 (w_put siz_bool rfl rfl rfl rfl Bc rfl) ?_
  rintro _ h4 ⟨B4, K4⟩
  have Bc := B4; have K := K.new1 K4 (by first | (right; omega) | (left; simp; done)); have Z4 := K4.1
  refine rs_nil ?_
  refine q_thn ?_
  refine tr_reg ?_
  refine rs_v (v_move rfl) rfl ?_
  refine rs_v (v_nilCheck_ptr rfl) rfl ?_
  refine rs_v (v_fieldAddr fa_spec_SpanCursor_5 rfl) rfl ?_
  refine rs_w0 (w_put siz_bool rfl rfl rfl rfl Bc rfl) ?_
  rintro _ h5 ⟨B5, K5⟩
  have Bc := B5; have K := K.new1 K5 (by first | (right; omega) | (left; simp; done)); have Z5 := K5.1
  refine rs_nil ?_
  refine q_end (res_none rfl) ?_
  refine ⟨rfl, ?_, K⟩
  simp [putRow, Value.cells] at Bc
  rw [show decide (x < n) = true from g1] at Bc
  exact Bc
theorem c_place_c (χ : Chi) (h : Heap) (c : Nat) (n x y : Int) (f b a i fwd : Bool) (T : TypeId) (Bc : Blk h c [.int .i64 n, .int .i64 y, .bool f, .bool b, .bool a, .bool i] T) (g0 : decide ((0 : Int) ≤ x) = true) (g1 : decide (x < n) = false) :
    Cl Try.prog χ 76 #[.pointer (some ⟨c, 0, none⟩), .int .i64 x, .bool fwd] h (fun r h' => r = .tuple #[] ∧ Blk h' c (curL n x false fwd (!fwd)) T ∧ Keep [c] h h') := by
  have g2 : (!decide (x < n)) = true := by rw [g1]; rfl
  refine cl_intro Try.func76 rfl rfl rfl ?_
  have K : Keep [c] h h := Keep.refl _ _
  refine tr_seq ?_
  refine tr_reg ?_
  refine rs_v (v_move rfl) rfl ?_
  refine rs_v (v_move rfl) rfl ?_
  refine rs_v (v_nilCheck_ptr rfl) rfl ?_
  refine rs_v (v_fieldAddr fa_spec_SpanCursor_1 rfl) rfl ?_
  refine rs_w0 (w_put siz_int rfl rfl rfl rfl Bc rfl) ?_
  rintro _ h1 ⟨B1, K1⟩
  have Bc := B1; have K := K.new1 K1 (by first | (right; omega) | (left; simp; done)); have Z1 := K1.1
  refine rs_nil ?_
  refine q_thn ?_
  refine tr_seq ?_
  refine tr_reg ?_
  refine rs_v (v_move rfl) rfl ?_
  refine rs_v (v_move rfl) rfl ?_
  refine rs_v (v_le rfl rfl) rfl ?_
  refine rs_v (v_move rfl) rfl ?_
  refine rs_gv rfl (lkb g0) (v_move rfl) rfl ?_
  refine rs_gv rfl (lkb g0) (v_move rfl) rfl ?_
  refine rs_gv rfl (lkb g0) (v_nilCheck_ptr rfl) rfl ?_
  refine rs_gv rfl (lkb g0) (v_fieldAddr fa_spec_SpanCursor_0 rfl) rfl ?_
  refine rs_gv rfl (lkb g0) (v_load one_int rfl (by exact Bc.cell _ rfl)) rfl ?_
  refine rs_gv rfl (lkb g0) (v_lt rfl rfl) rfl ?_
  refine rs_v (v_pick_t (lkb g0) rfl) rfl ?_
  refine rs_v (v_nilCheck_ptr rfl) rfl ?_
  refine rs_v (v_fieldAddr fa_spec_SpanCursor_2 rfl) rfl ?_
  refine rs_w0 (w_put siz_bool rfl rfl rfl rfl Bc rfl) ?_
  rintro _ h2 ⟨B2, K2⟩
  have Bc := B2; have K := K.new1 K2 (by first | (right; omega) | (left; simp; done)); have Z2 := K2.1
  refine rs_nil ?_
  refine q_thn ?_
  refine tr_seq ?_
  refine tr_reg ?_
  refine rs_v (v_move rfl) rfl ?_
  refine rs_v (v_move rfl) rfl ?_
  refine rs_v (v_nilCheck_ptr rfl) rfl ?_
  refine rs_v (v_fieldAddr fa_spec_SpanCursor_2 rfl) rfl ?_
  refine rs_v (v_load one_bool rfl (by exact Bc.cell _ rfl)) rfl ?_
  refine rs_v (v_not rfl) rfl ?_
  refine rs_v (v_move rfl) rfl ?_
  refine rs_gv rfl (lkb g2) (v_move rfl) rfl ?_
  refine rs_v (v_pick_t (lkb g2) rfl) rfl ?_
  refine rs_v (v_nilCheck_ptr rfl) rfl ?_
  refine rs_v (v_fieldAddr fa_spec_SpanCursor_3 rfl) rfl ?_
  refine rs_w0 (w_put siz_bool rfl rfl rfl rfl Bc rfl) ?_
  rintro _ h3 ⟨B3, K3⟩
  have Bc := B3; have K := K.new1 K3 (by first | (right; omega) | (left; simp; done)); have Z3 := K3.1
  refine rs_nil ?_
  refine q_thn ?_
  refine tr_seq ?_
  refine tr_reg ?_
  refine rs_v (v_move rfl) rfl ?_
  refine rs_v (v_move rfl) rfl ?_
  refine rs_v (v_nilCheck_ptr rfl) rfl ?_
  refine rs_v (v_fieldAddr fa_spec_SpanCursor_2 rfl) rfl ?_
  refine rs_v (v_load one_bool rfl (by exact Bc.cell _ rfl)) rfl ?_
  refine rs_v (v_not rfl) rfl ?_
  refine rs_v (v_move rfl) rfl ?_
  refine rs_gv rfl (lkb g2) (v_move rfl) rfl ?_
  refine rs_gv rfl (lkb g2) (v_not rfl) rfl ?_
  refine rs_v (v_pick_t (lkb g2) rfl) rfl ?_
  refine rs_v (v_nilCheck_ptr rfl) rfl ?_
  refine rs_v (v_fieldAddr fa_spec_SpanCursor_4 rfl) rfl ?_
  refine rs_w0 (w_put siz_bool rfl rfl rfl rfl Bc rfl) ?_
  rintro _ h4 ⟨B4, K4⟩
  have Bc := B4; have K := K.new1 K4 (by first | (right; omega) | (left; simp; done)); have Z4 := K4.1
  refine rs_nil ?_
  refine q_thn ?_
  refine tr_reg ?_
  refine rs_v (v_move rfl) rfl ?_
  refine rs_v (v_nilCheck_ptr rfl) rfl ?_
  refine rs_v (v_fieldAddr fa_spec_SpanCursor_5 rfl) rfl ?_
  refine rs_w0 (w_put siz_bool rfl rfl rfl rfl Bc rfl) ?_
  rintro _ h5 ⟨B5, K5⟩
  have Bc := B5; have K := K.new1 K5 (by first | (right; omega) | (left; simp; done)); have Z5 := K5.1
  refine rs_nil ?_
  refine q_end (res_none rfl) ?_
  refine ⟨rfl, ?_, K⟩
  simp [putRow, Value.cells] at Bc
  rw [show decide (x < n) = false from g1] at Bc
  exact Bc
theorem c_place (χ : Chi) (h : Heap) (c : Nat) (n x y : Int) (f b a i fwd : Bool) (T : TypeId) (Bc : Blk h c [.int .i64 n, .int .i64 y, .bool f, .bool b, .bool a, .bool i] T) :
    Cl Try.prog χ 76 #[.pointer (some ⟨c, 0, none⟩), .int .i64 x, .bool fwd] h
      (fun r h' => r = .tuple #[] ∧ Blk h' c (curL n x (inR x n) (!inR x n && fwd) (!inR x n && !fwd)) T ∧ Keep [c] h h') := by
  rcases Bool.eq_false_or_eq_true (decide ((0 : Int) ≤ x)) with h0 | h0
  · rcases Bool.eq_false_or_eq_true (decide (x < n)) with h1 | h1
    · have e : inR x n = true := by simp only [inR, h0, h1]; rfl
      rw [e]; exact c_place_b χ h c n x y f b a i fwd T Bc h0 h1
    · have e : inR x n = false := by simp only [inR, h0, h1]; rfl
      rw [e]; exact c_place_c χ h c n x y f b a i fwd T Bc h0 h1
  · have e : inR x n = false := by simp only [inR, h0]; rfl
    rw [e]; exact c_place_a χ h c n x y f b a i fwd T Bc h0
end Go.Proofs.Ytgebfbnndgjkiaa
