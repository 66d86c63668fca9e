/- Walks, thirteenth part: how the plain iterator seeks. Conditions: those that each theorem names. -/
import Derived.Test.YtgebfbnndgjkiaaW12
set_option linter.unusedVariables false
set_option linter.unusedSimpArgs false
namespace Go.Proofs.Ytgebfbnndgjkiaa
open Go.Tess Go.RowKit
set_option maxRecDepth 100000
theorem PSpans.stabI {G : Nat → Prop} {h h' : Heap} {v : Value} {W : List SpanD} {c : Nat} (hW : PSpans G h v W) (hG : ∀ b, G b → b < h.size ∧ b ≠ c) (K : Keep [c] h h') : PSpans G h' v W :=
  hW.stab (K.stab fun b hb => ⟨(hG b hb).1, by simpa using (hG b hb).2⟩)

theorem c_ItSeekGE (χ : Chi) (h : Heap) (c : Nat) (a : Option Addr) (cc : Nat) (W : List SpanD) (T : TypeId) (hn : W.length ≤ 100000) (x : Int) (Bc : Blk h c (itL (.slice a W.length cc) x) T) (G : Nat → Prop) (hW : PSpans G h (.slice a W.length cc) W) (hG : ∀ b, G b → b < h.size ∧ b ≠ c) (hO : Ord W) (kv : Value) (key : ByteArray) (hkey : RBytes (fun b => b ≠ c) h kv key) :
    Cl Try.prog χ 125 #[.pointer (some ⟨c, 0, none⟩), kv] h (fun r h' => ∃ x', Blk h' c (itL (.slice a W.length cc) x') T ∧ posX W.length (pGE W key) x' ∧ Keep [c] h h' ∧ RetI a (pGE W key) r) := by
  obtain ⟨_, a', c', e', hxW⟩ := hW.form
  cases e'
  refine cl_intro Try.func125 rfl rfl rfl ?_
  have K : Keep [c] h h := Keep.refl _ _
  refine tr_seq ?_
  refine tr_reg ?_
  refine rs_v (v_assign rfl) rfl ?_
  refine rs_nil ?_
  refine q_thn ?_
  refine tr_seq ?_
  refine tr_reg ?_
  refine rs_v (v_move rfl) rfl ?_
  refine rs_v (v_nilCheck_ptr rfl) rfl ?_
  refine rs_v (v_fieldAddr fa_keyspan_Iter_2 rfl) rfl ?_
  refine rs_w0 (w_put siz_int rfl rfl rfl rfl Bc rfl) ?_
  rintro _ h1 ⟨B1, K1⟩
  have Bc := B1; have K := K.new1 K1 (by first | (right; omega) | (left; simp; done)); have Z1 := K1.1
  refine rs_nil ?_
  refine q_thn ?_
  refine tr_seq ?_
  refine tr_reg ?_
  refine rs_v (v_move rfl) rfl ?_
  refine rs_v (v_nilCheck_ptr rfl) rfl ?_
  refine rs_v (v_fieldAddr fa_keyspan_Iter_1 rfl) rfl ?_
  refine rs_v (v_load one_sl_keyspan_Span rfl (by exact Bc.cell _ rfl)) rfl ?_
  refine rs_v (v_len u_sl_keyspan_Span rfl) rfl ?_
  refine rs_v (v_assign rfl) rfl ?_
  refine rs_nil ?_
  refine q_thn ?_
  refine tr_seq ?_
  refine tr_block ?_
  refine tr_loop (fun m E h' => ∃ lo hi hiI, hiI = ((hi : Nat) : Int) ∧ lo ≤ hi ∧ hi ≤ W.length ∧ m = hi - lo ∧ E = [(0, .pointer (some ⟨c, 0, none⟩)), (1, kv), (5, .int .i64 hiI)] ∧ Keep [c] h h' ∧ Blk h' c (itL (.slice a W.length cc) (lo : Int)) T ∧ (∀ (j : Nat) s, j < lo → W[j]? = some s → sle s.e key = true) ∧ (hi = W.length ∨ ∃ s, W[hi]? = some s ∧ sle s.e key = false)) W.length [(0, _), (1, _), (5, _)] ⟨rfl, rfl, rfl, trivial⟩ ⟨0, W.length, _, rfl, Nat.zero_le _, Nat.le_refl _, by omega, rfl, K, Bc, fun j s hj => by omega, .inl rfl⟩ ?_
  rintro m E hL2 ⟨lo, hi, hiI, hiE, hlh, hhi, rfl, rfl, K, Bc, hbe0, hab⟩
  subst hiE
  refine tr_seq ?_
  refine tr_seq ?_
  refine tr_reg ?_
  refine rs_v (v_move rfl) rfl ?_
  refine rs_v (v_nilCheck_ptr rfl) rfl ?_
  refine rs_v (v_fieldAddr fa_keyspan_Iter_2 rfl) rfl ?_
  refine rs_v (v_load one_int rfl (by exact Bc.cell _ rfl)) rfl ?_
  refine rs_v (v_move rfl) rfl ?_
  refine rs_v (v_lt rfl rfl) rfl ?_
  refine rs_nil ?_
  refine q_thn ?_
  refine tr_ifn rfl (fun hif => ?_) (fun hif => ?_)
  · -- no
    simp only [decide_eq_true_eq, decide_eq_false_iff_not] at hif
    have hll : lo = hi := by omega
    subst hll
    have hg := geI_spec W key lo hbe0 hab
    refine tr_exit ?_
    refine q_thn_exit ?_
    refine q_lp_exit ?_
    refine q_blk_hit ?_
    refine q_thn ?_
    refine tr_seq ?_
    refine tr_seq ?_
    refine tr_quiet (by kernel_rfl) (by kernel_rfl) ?_
    refine rq_v (v_move rfl) ?_
    refine rq_v (v_nilCheck_ptr rfl) ?_
    refine rq_v (v_fieldAddr fa_keyspan_Iter_2 rfl) ?_
    refine rq_v (v_load one_int rfl (by exact Bc.cell _ rfl)) ?_
    refine rq_v (v_move rfl) ?_
    refine rq_v (v_nilCheck_ptr rfl) ?_
    refine rq_v (v_fieldAddr fa_keyspan_Iter_1 rfl) ?_
    refine rq_v (v_load one_sl_keyspan_Span rfl (by exact Bc.cell _ rfl)) ?_
    refine rq_v (v_len u_sl_keyspan_Span rfl) ?_
    refine rq_v (v_ge rfl rfl) ?_
    refine rm_end ?_; simp only [endM, hypF, ofE, argE]
    refine q_thn ?_
    refine tr_if rfl (fun hif => ?_) (fun hif => ?_)
    · -- yes
      simp only [decide_eq_true_eq, decide_eq_false_iff_not] at hif
      refine tr_seq ?_
      refine tr_reg ?_
      refine rs_v (v_assign rfl) rfl ?_
      refine rs_nil ?_
      refine q_thn ?_
      refine tr_ret ?_
      refine q_thn_ret ?_
      refine q_ret (res_tmp rfl rfl) ?_
      have e : lo = W.length := by omega
      subst e
      rw [show pGE W key = .behind from by simp [pGE, hg]]
      exact ⟨_, Bc, rfl, K, rfl⟩
    -- no
    simp only [decide_eq_true_eq, decide_eq_false_iff_not] at hif
    rcases hxW with rfl | ⟨b, o, rfl, hGb, hR⟩
    · exfalso; simp only [List.length_nil] at *; omega
    refine tr_skip ?_
    refine q_thn ?_
    refine tr_seq ?_
    refine tr_quiet (by kernel_rfl) (by kernel_rfl) ?_
    refine rq_v (v_move rfl) ?_
    refine rq_v (v_nilCheck_ptr rfl) ?_
    refine rq_v (v_fieldAddr fa_keyspan_Iter_1 rfl) ?_
    refine rq_v (v_load one_sl_keyspan_Span rfl (by exact Bc.cell _ rfl)) ?_
    refine rq_v (v_move rfl) ?_
    refine rq_v (v_nilCheck_ptr rfl) ?_
    refine rq_v (v_fieldAddr fa_keyspan_Iter_2 rfl) ?_
    refine rq_v (v_load one_int rfl (by exact Bc.cell _ rfl)) ?_
    refine rq_v (v_indexAddrE u_sl_keyspan_Span siz_keyspan_Span rfl rfl (i := lo) rfl (by omega)) ?_
    refine rq_v (v_assign rfl) ?_
    refine rm_end ?_; simp only [endM, hypF, ofE, argE]
    refine q_thn ?_
    refine tr_ret ?_
    refine q_ret (res_tmp rfl rfl) ?_
    have hl : lo < W.length := by omega
    rw [show pGE W key = .pt lo from by simp [pGE, hg, hl]]
    exact ⟨_, Bc, ⟨rfl, by omega⟩, K, ⟨b, o, rfl, rfl⟩⟩
  -- yes
  simp only [decide_eq_true_eq, decide_eq_false_iff_not] at hif
  obtain ⟨y, hy⟩ := ex_get (L := W) (k := (lo + hi) / 2) (by omega)
  have hml : (lo + hi) / 2 < W.length := (List.getElem?_eq_some_iff.1 hy).1
  rcases hxW with rfl | ⟨b, o, rfl, hGb, hR⟩
  · simp at hml
  obtain ⟨sv, ev, kv2, kk, hcell, r1, r2, r3⟩ := hR _ y hy
  have hSt : Stab G h hL2 := K.stab fun b hb => ⟨(hG b hb).1, by simpa using (hG b hb).2⟩
  have hend := hSt.cells hGb hcell
  have hbe := RBytes.by (r2.stab hSt)
  have hke : RBy hL2 kv key := RBytes.by ((RBytes.lowen hkey).stab (K.stab fun b hb => ⟨hb.2, by simpa using hb.1⟩))
  refine tr_skip ?_
  refine q_thn ?_
  refine tr_block ?_
  refine tr_seq ?_
  refine tr_reg ?_
  refine rs_v (v_move rfl) rfl ?_
  refine rs_v (v_nilCheck_ptr rfl) rfl ?_
  refine rs_v (v_fieldAddr fa_keyspan_Iter_2 rfl) rfl ?_
  refine rs_v (v_load one_int rfl (by exact Bc.cell _ rfl)) rfl ?_
  refine rs_v (v_move rfl) rfl ?_
  refine rs_v (v_add rfl rfl (by omega) (by omega)) rfl ?_
  refine rs_v (v_conv_u64 u_int u_uint rfl (by omega) (by omega)) rfl ?_
  refine rs_v (v_shr1 (k := .u64) rfl rfl) rfl ?_
  refine rs_v (v_conv_i64 u_uint u_int rfl (by omega) (by omega)) rfl ?_
  refine rs_v (v_assign rfl) rfl ?_
  refine rs_nil ?_
  refine q_thn ?_
  refine tr_seq ?_
  refine tr_quiet (by kernel_rfl) (by kernel_rfl) ?_
  refine rq_v (v_move rfl) ?_
  refine rq_v (v_nilCheck_ptr rfl) ?_
  refine rq_v (v_fieldAddr fa_keyspan_Iter_0 rfl) ?_
  refine rq_v (v_load one_base_Compare rfl (by exact Bc.cell _ rfl)) ?_
  refine rq_v (v_move rfl) ?_
  refine rq_v (v_move rfl) ?_
  refine rq_v (v_nilCheck_ptr rfl) ?_
  refine rq_v (v_fieldAddr fa_keyspan_Iter_1 rfl) ?_
  refine rq_v (v_load one_sl_keyspan_Span rfl (by exact Bc.cell _ rfl)) ?_
  refine rq_v (v_move rfl) ?_
  refine rq_v (v_indexAddrE u_sl_keyspan_Span siz_keyspan_Span rfl rfl (i := (lo + hi) / 2) (by omega) (by omega)) ?_
  refine rq_v (v_fieldAddr fa_keyspan_Span_1 rfl) ?_
  refine rq_v (v_load one_sl_uint8 rfl (by exact hend.at 1 rfl)) ?_
  refine rq_w (w_callv (first := []) (cap := []) (vs := [_, _]) ok_bytes_Compare rfl ⟨rfl, rfl, trivial⟩ (c_Compare χ _ _ _ key y.e hke hbe)) ?_
  refine rq_v (v_ge rfl rfl) ?_
  refine rm_end ?_; simp only [endM, hypF, ofE, argE]
  refine q_thn ?_
  refine tr_if rfl (fun hif => ?_) (fun hif => ?_)
  · -- yes
    simp only [decide_eq_true_eq, decide_eq_false_iff_not] at hif
    refine tr_reg ?_
    refine rs_v (v_move rfl) rfl ?_
    refine rs_v (v_move rfl) rfl ?_
    refine rs_v (v_add rfl rfl (by omega) (by omega)) rfl ?_
    refine rs_v (v_nilCheck_ptr rfl) rfl ?_
    refine rs_v (v_fieldAddr fa_keyspan_Iter_2 rfl) rfl ?_
    refine rs_w0 (w_put siz_int rfl rfl rfl rfl Bc rfl) ?_
    rintro _ h3 ⟨B3, K3⟩
    have Bc := B3; have K := K.new1 K3 (by first | (right; omega) | (left; simp; done)); have Z3 := K3.1
    refine rs_nil ?_
    refine q_blk_n ?_
    refine q_lp (hi - ((lo + hi) / 2 + 1)) [(0, _), (1, _), (5, _)] (by omega) ⟨rfl, rfl, rfl, trivial⟩ ⟨(lo + hi) / 2 + 1, hi, _, rfl, by omega, hhi, rfl, rfl, K, ?_, ?_, hab⟩
    · have e : ((lo : Int) + hi) / 2 + 1 = (((lo + hi) / 2 + 1 : Nat) : Int) := by omega
      rw [← e]; exact Bc
    · intro j s hj hs
      have h1 : sle y.e key = true := by rw [sle_iff, cmpB_anti key y.e]; omega
      exact sle_trans (hO.ends (by omega) hs hy) h1
  -- no
  simp only [decide_eq_true_eq, decide_eq_false_iff_not] at hif
  refine tr_reg ?_
  refine rs_v (v_move rfl) rfl ?_
  refine rs_v (v_assign rfl) rfl ?_
  refine rs_nil ?_
  refine q_blk_n ?_
  refine q_lp ((lo + hi) / 2 - lo) [(0, _), (1, _), (5, _)] (by omega) ⟨rfl, rfl, rfl, trivial⟩ ⟨lo, (lo + hi) / 2, _, by omega, by omega, by omega, rfl, rfl, K, Bc, hbe0, .inr ⟨y, hy, ?_⟩⟩
  rw [sle_no, cmpB_anti key y.e]; omega
theorem c_ItSeekLT (χ : Chi) (h : Heap) (c : Nat) (a : Option Addr) (cc : Nat) (W : List SpanD) (T : TypeId) (hn : W.length ≤ 100000) (x : Int) (Bc : Blk h c (itL (.slice a W.length cc) x) T) (G : Nat → Prop) (hW : PSpans G h (.slice a W.length cc) W) (hG : ∀ b, G b → b < h.size ∧ b ≠ c) (hO : Ord W) (kv : Value) (key : ByteArray) (hkey : RBytes (fun b => b ≠ c) h kv key) :
    Cl Try.prog χ 126 #[.pointer (some ⟨c, 0, none⟩), kv] h (fun r h' => ∃ x', Blk h' c (itL (.slice a W.length cc) x') T ∧ posX W.length (pLT W key) x' ∧ Keep [c] h h' ∧ RetI a (pLT W key) r) := by
  obtain ⟨_, a', c', e', hxW⟩ := hW.form
  cases e'
  refine cl_intro Try.func126 rfl rfl rfl ?_
  have K : Keep [c] h h := Keep.refl _ _
  refine tr_seq ?_
  refine tr_reg ?_
  refine rs_v (v_assign rfl) rfl ?_
  refine rs_nil ?_
  refine q_thn ?_
  refine tr_seq ?_
  refine tr_reg ?_
  refine rs_v (v_move rfl) rfl ?_
  refine rs_v (v_nilCheck_ptr rfl) rfl ?_
  refine rs_v (v_fieldAddr fa_keyspan_Iter_2 rfl) rfl ?_
  refine rs_w0 (w_put siz_int rfl rfl rfl rfl Bc rfl) ?_
  rintro _ h1 ⟨B1, K1⟩
  have Bc := B1; have K := K.new1 K1 (by first | (right; omega) | (left; simp; done)); have Z1 := K1.1
  refine rs_nil ?_
  refine q_thn ?_
  refine tr_seq ?_
  refine tr_reg ?_
  refine rs_v (v_move rfl) rfl ?_
  refine rs_v (v_nilCheck_ptr rfl) rfl ?_
  refine rs_v (v_fieldAddr fa_keyspan_Iter_1 rfl) rfl ?_
  refine rs_v (v_load one_sl_keyspan_Span rfl (by exact Bc.cell _ rfl)) rfl ?_
  refine rs_v (v_len u_sl_keyspan_Span rfl) rfl ?_
  refine rs_v (v_assign rfl) rfl ?_
  refine rs_nil ?_
  refine q_thn ?_
  refine tr_seq ?_
  refine tr_block ?_
  refine tr_loop (fun m E h' => ∃ lo hi hiI, hiI = ((hi : Nat) : Int) ∧ lo ≤ hi ∧ hi ≤ W.length ∧ m = hi - lo ∧ E = [(0, .pointer (some ⟨c, 0, none⟩)), (1, kv), (5, .int .i64 hiI)] ∧ Keep [c] h h' ∧ Blk h' c (itL (.slice a W.length cc) (lo : Int)) T ∧ (∀ (j : Nat) s, j < lo → W[j]? = some s → slt s.s key = true) ∧ (hi = W.length ∨ ∃ s, W[hi]? = some s ∧ slt s.s key = false)) W.length [(0, _), (1, _), (5, _)] ⟨rfl, rfl, rfl, trivial⟩ ⟨0, W.length, _, rfl, Nat.zero_le _, Nat.le_refl _, by omega, rfl, K, Bc, fun j s hj => by omega, .inl rfl⟩ ?_
  rintro m E hL2 ⟨lo, hi, hiI, hiE, hlh, hhi, rfl, rfl, K, Bc, hbe0, hab⟩
  subst hiE
  refine tr_seq ?_
  refine tr_seq ?_
  refine tr_reg ?_
  refine rs_v (v_move rfl) rfl ?_
  refine rs_v (v_nilCheck_ptr rfl) rfl ?_
  refine rs_v (v_fieldAddr fa_keyspan_Iter_2 rfl) rfl ?_
  refine rs_v (v_load one_int rfl (by exact Bc.cell _ rfl)) rfl ?_
  refine rs_v (v_move rfl) rfl ?_
  refine rs_v (v_lt rfl rfl) rfl ?_
  refine rs_nil ?_
  refine q_thn ?_
  refine tr_ifn rfl (fun hif => ?_) (fun hif => ?_)
  · -- no
    simp only [decide_eq_true_eq, decide_eq_false_iff_not] at hif
    have hll : lo = hi := by omega
    subst hll
    have hg : ltI W key = lo := by
      refine ltI_spec W key lo (fun j s hj hs => ?_) ?_
      · rcases hab with he | ⟨t, ht, hts⟩
        · have := (List.getElem?_eq_some_iff.1 hs).1; omega
        · rw [not_slt] at hts ⊢
          exact sle_trans hts (hO.starts hj ht hs)
      · by_cases e : lo = 0
        · exact .inl e
        · obtain ⟨s, hs⟩ := ex_get (L := W) (k := lo - 1) (by omega)
          exact .inr ⟨s, hs, hbe0 _ s (by omega) hs⟩
    refine tr_exit ?_
    refine q_thn_exit ?_
    refine q_lp_exit ?_
    refine q_blk_hit ?_
    refine q_thn ?_
    refine tr_seq ?_
    refine tr_reg ?_
    refine rs_v (v_move rfl) rfl ?_
    refine rs_v (v_nilCheck_ptr rfl) rfl ?_
    refine rs_v (v_fieldAddr fa_keyspan_Iter_2 rfl) rfl ?_
    refine rs_v (v_load one_int rfl (by exact Bc.cell _ rfl)) rfl ?_
    refine rs_v (v_sub rfl rfl (by omega) (by omega)) rfl ?_
    refine rs_v (v_nilCheck_ptr rfl) rfl ?_
    refine rs_v (v_fieldAddr fa_keyspan_Iter_2 rfl) rfl ?_
    refine rs_w0 (w_put siz_int rfl rfl rfl rfl Bc rfl) ?_
    rintro _ h3 ⟨B3, K3⟩
    have Bc := B3; have K := K.new1 K3 (by first | (right; omega) | (left; simp; done)); have Z3 := K3.1
    refine rs_nil ?_
    refine q_thn ?_
    refine tr_seq ?_
    refine tr_seq ?_
    refine tr_reg ?_
    refine rs_v (v_move rfl) rfl ?_
    refine rs_v (v_nilCheck_ptr rfl) rfl ?_
    refine rs_v (v_fieldAddr fa_keyspan_Iter_2 rfl) rfl ?_
    refine rs_v (v_load one_int rfl (by exact Bc.cell _ rfl)) rfl ?_
    refine rs_v (v_lt rfl rfl) rfl ?_
    refine rs_nil ?_
    refine q_thn ?_
    refine tr_if rfl (fun hif => ?_) (fun hif => ?_)
    · -- yes
      simp only [decide_eq_true_eq, decide_eq_false_iff_not] at hif
      refine tr_seq ?_
      refine tr_reg ?_
      refine rs_v (v_assign rfl) rfl ?_
      refine rs_nil ?_
      refine q_thn ?_
      refine tr_ret ?_
      refine q_thn_ret ?_
      refine q_ret (res_tmp rfl rfl) ?_
      have e : lo = 0 := by omega
      subst e
      rw [show pLT W key = .ahead from by simp [pLT, hg]]
      exact ⟨_, Bc, rfl, K, rfl⟩
    -- no
    simp only [decide_eq_true_eq, decide_eq_false_iff_not] at hif
    rcases hxW with rfl | ⟨b, o, rfl, hGb, hR⟩
    · exfalso; simp only [List.length_nil] at *; omega
    refine tr_skip ?_
    refine q_thn ?_
    refine tr_seq ?_
    refine tr_quiet (by kernel_rfl) (by kernel_rfl) ?_
    refine rq_v (v_move rfl) ?_
    refine rq_v (v_nilCheck_ptr rfl) ?_
    refine rq_v (v_fieldAddr fa_keyspan_Iter_1 rfl) ?_
    refine rq_v (v_load one_sl_keyspan_Span rfl (by exact Bc.cell _ rfl)) ?_
    refine rq_v (v_move rfl) ?_
    refine rq_v (v_nilCheck_ptr rfl) ?_
    refine rq_v (v_fieldAddr fa_keyspan_Iter_2 rfl) ?_
    refine rq_v (v_load one_int rfl (by exact Bc.cell _ rfl)) ?_
    refine rq_v (v_indexAddrE u_sl_keyspan_Span siz_keyspan_Span rfl rfl (i := lo - 1) (by omega) (by omega)) ?_
    refine rq_v (v_assign rfl) ?_
    refine rm_end ?_; simp only [endM, hypF, ofE, argE]
    refine q_thn ?_
    refine tr_ret ?_
    refine q_ret (res_tmp rfl rfl) ?_
    have hl : ¬ lo = 0 := by omega
    rw [show pLT W key = .pt (lo - 1) from by simp [pLT, hg, hl]]
    exact ⟨_, Bc, ⟨by omega, by omega⟩, K, ⟨b, o, rfl, rfl⟩⟩
  -- yes
  simp only [decide_eq_true_eq, decide_eq_false_iff_not] at hif
  obtain ⟨y, hy⟩ := ex_get (L := W) (k := (lo + hi) / 2) (by omega)
  have hml : (lo + hi) / 2 < W.length := (List.getElem?_eq_some_iff.1 hy).1
  rcases hxW with rfl | ⟨b, o, rfl, hGb, hR⟩
  · simp at hml
  obtain ⟨sv, ev, kv2, kk, hcell, r1, r2, r3⟩ := hR _ y hy
  have hSt : Stab G h hL2 := K.stab fun b hb => ⟨(hG b hb).1, by simpa using (hG b hb).2⟩
  have hend := hSt.cells hGb hcell
  have hbe := RBytes.by (r1.stab hSt)
  have hke : RBy hL2 kv key := RBytes.by ((RBytes.lowen hkey).stab (K.stab fun b hb => ⟨hb.2, by simpa using hb.1⟩))
  refine tr_skip ?_
  refine q_thn ?_
  refine tr_block ?_
  refine tr_seq ?_
  refine tr_reg ?_
  refine rs_v (v_move rfl) rfl ?_
  refine rs_v (v_nilCheck_ptr rfl) rfl ?_
  refine rs_v (v_fieldAddr fa_keyspan_Iter_2 rfl) rfl ?_
  refine rs_v (v_load one_int rfl (by exact Bc.cell _ rfl)) rfl ?_
  refine rs_v (v_move rfl) rfl ?_
  refine rs_v (v_add rfl rfl (by omega) (by omega)) rfl ?_
  refine rs_v (v_conv_u64 u_int u_uint rfl (by omega) (by omega)) rfl ?_
  refine rs_v (v_shr1 (k := .u64) rfl rfl) rfl ?_
  refine rs_v (v_conv_i64 u_uint u_int rfl (by omega) (by omega)) rfl ?_
  refine rs_v (v_assign rfl) rfl ?_
  refine rs_nil ?_
  refine q_thn ?_
  refine tr_seq ?_
  refine tr_quiet (by kernel_rfl) (by kernel_rfl) ?_
  refine rq_v (v_move rfl) ?_
  refine rq_v (v_nilCheck_ptr rfl) ?_
  refine rq_v (v_fieldAddr fa_keyspan_Iter_0 rfl) ?_
  refine rq_v (v_load one_base_Compare rfl (by exact Bc.cell _ rfl)) ?_
  refine rq_v (v_move rfl) ?_
  refine rq_v (v_move rfl) ?_
  refine rq_v (v_nilCheck_ptr rfl) ?_
  refine rq_v (v_fieldAddr fa_keyspan_Iter_1 rfl) ?_
  refine rq_v (v_load one_sl_keyspan_Span rfl (by exact Bc.cell _ rfl)) ?_
  refine rq_v (v_move rfl) ?_
  refine rq_v (v_indexAddrE u_sl_keyspan_Span siz_keyspan_Span rfl rfl (i := (lo + hi) / 2) (by omega) (by omega)) ?_
  refine rq_v (v_fieldAddr fa_keyspan_Span_0 rfl) ?_
  refine rq_v (v_load one_sl_uint8 rfl (by exact hend.at 0 rfl)) ?_
  refine rq_w (w_callv (first := []) (cap := []) (vs := [_, _]) ok_bytes_Compare rfl ⟨rfl, rfl, trivial⟩ (c_Compare χ _ _ _ key y.s hke hbe)) ?_
  refine rq_v (v_gt rfl rfl) ?_
  refine rm_end ?_; simp only [endM, hypF, ofE, argE]
  refine q_thn ?_
  refine tr_if rfl (fun hif => ?_) (fun hif => ?_)
  · -- yes
    simp only [decide_eq_true_eq, decide_eq_false_iff_not] at hif
    refine tr_reg ?_
    refine rs_v (v_move rfl) rfl ?_
    refine rs_v (v_move rfl) rfl ?_
    refine rs_v (v_add rfl rfl (by omega) (by omega)) rfl ?_
    refine rs_v (v_nilCheck_ptr rfl) rfl ?_
    refine rs_v (v_fieldAddr fa_keyspan_Iter_2 rfl) rfl ?_
    refine rs_w0 (w_put siz_int rfl rfl rfl rfl Bc rfl) ?_
    rintro _ h4 ⟨B4, K4⟩
    have Bc := B4; have K := K.new1 K4 (by first | (right; omega) | (left; simp; done)); have Z4 := K4.1
    refine rs_nil ?_
    refine q_blk_n ?_
    refine q_lp (hi - ((lo + hi) / 2 + 1)) [(0, _), (1, _), (5, _)] (by omega) ⟨rfl, rfl, rfl, trivial⟩ ⟨(lo + hi) / 2 + 1, hi, _, rfl, by omega, hhi, rfl, rfl, K, ?_, ?_, hab⟩
    · have e : ((lo : Int) + hi) / 2 + 1 = (((lo + hi) / 2 + 1 : Nat) : Int) := by omega
      rw [← e]; exact Bc
    · intro j s hj hs
      have h1 : slt y.s key = true := by rw [slt_iff, cmpB_anti key y.s]; omega
      exact slt_of_sle_slt (hO.starts (by omega) hs hy) h1
  -- no
  simp only [decide_eq_true_eq, decide_eq_false_iff_not] at hif
  refine tr_reg ?_
  refine rs_v (v_move rfl) rfl ?_
  refine rs_v (v_assign rfl) rfl ?_
  refine rs_nil ?_
  refine q_blk_n ?_
  refine q_lp ((lo + hi) / 2 - lo) [(0, _), (1, _), (5, _)] (by omega) ⟨rfl, rfl, rfl, trivial⟩ ⟨lo, (lo + hi) / 2, _, by omega, by omega, by omega, rfl, rfl, K, Bc, hbe0, .inr ⟨y, hy, ?_⟩⟩
  rw [slt_no, cmpB_anti key y.s]; omega
end Go.Proofs.Ytgebfbnndgjkiaa
