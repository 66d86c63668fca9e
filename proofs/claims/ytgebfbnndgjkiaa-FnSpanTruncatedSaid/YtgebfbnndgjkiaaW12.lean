/- Walks, twelfth part: how the plain iterator moves. Conditions: those that each theorem names. -/
import Derived.Test.YtgebfbnndgjkiaaW11
import Derived.Test.YtgebfbnndgjkiaaIter
set_option linter.unusedVariables false
set_option linter.unusedSimpArgs false
namespace Go.Proofs.Ytgebfbnndgjkiaa
open Go.Tess Go.RowKit
set_option maxRecDepth 100000
/-- What the plain iterator gives back: where its span lies. -/
def RetI (a : Option Addr) (p : Pos) (r : Value) : Prop := match p with
  | .pt j => ∃ b o, a = some ⟨b, o, none⟩ ∧ r = .pointer (some ⟨b, o + j * 4, none⟩)
  | _ => r = .pointer none
theorem RBytes.lowen {A : Nat → Prop} {h : Heap} {v : Value} {s : ByteArray} (hr : RBytes A h v s) : RBytes (fun b => A b ∧ b < h.size) h v s := by
  obtain ⟨hl, a, c, e, hx⟩ := hr
  exact ⟨hl, a, c, e, fun i x hi => by obtain ⟨b, o, e1, e2, e3⟩ := hx i x hi; exact ⟨b, o, e1, ⟨e2, cellH_lt e3⟩, e3⟩⟩

theorem c_ItFirst (χ : Chi) (h : Heap) (c : Nat) (a : Option Addr) (cc : Nat) (W : List SpanD) (T : TypeId) (hn : W.length ≤ 100000) (x : Int) (ha : W = [] ∨ ∃ b o, a = some ⟨b, o, none⟩) (Bc : Blk h c (itL (.slice a W.length cc) x) T) :
    Cl Try.prog χ 121 #[.pointer (some ⟨c, 0, none⟩)] h (fun r h' => ∃ x', Blk h' c (itL (.slice a W.length cc) x') T ∧ posX W.length (pFirst W) x' ∧ Keep [c] h h' ∧ RetI a (pFirst W) r) := by
  refine cl_intro Try.func121 rfl rfl rfl ?_
  have K : Keep [c] h h := Keep.refl _ _
  refine tr_seq ?_
  refine tr_reg ?_
  refine rs_v (v_assign rfl) rfl ?_
  refine rs_nil ?_
  refine q_thn ?_
  refine tr_seq ?_
  refine tr_seq ?_
  refine tr_reg ?_
  refine rs_v (v_move rfl) rfl ?_
  refine rs_v (v_nilCheck_ptr rfl) rfl ?_
  refine rs_v (v_fieldAddr fa_keyspan_Iter_1 rfl) rfl ?_
  refine rs_v (v_load one_sl_keyspan_Span rfl (by exact Bc.cell _ rfl)) rfl ?_
  refine rs_v (v_len u_sl_keyspan_Span rfl) rfl ?_
  refine rs_v (v_eq rfl rfl) rfl ?_
  refine rs_nil ?_
  refine q_thn ?_
  refine tr_if rfl (fun hif => ?_) (fun hif => ?_)
  · -- yes
    simp only [decide_eq_true_eq, decide_eq_false_iff_not] at hif
    refine tr_seq ?_
    refine tr_reg ?_
    refine rs_v (v_assign rfl) rfl ?_
    refine rs_nil ?_
    refine q_thn ?_
    refine tr_ret ?_
    refine q_thn_ret ?_
    refine q_ret (res_tmp rfl rfl) ?_
    have hl : W.length = 0 := by omega
    refine ⟨x, Bc, ?_, K, ?_⟩ <;> simp [pFirst, hl, posX, RetI]
  -- no
  simp only [decide_eq_true_eq, decide_eq_false_iff_not] at hif
  have hlen : W.length ≠ 0 := by omega
  rcases ha with rfl | ⟨b, o, rfl⟩
  · simp at hlen
  refine tr_skip ?_
  refine q_thn ?_
  refine tr_seq ?_
  refine tr_reg ?_
  refine rs_v (v_move rfl) rfl ?_
  refine rs_v (v_nilCheck_ptr rfl) rfl ?_
  refine rs_v (v_fieldAddr fa_keyspan_Iter_2 rfl) rfl ?_
  refine rs_w0 (w_put siz_int rfl rfl rfl rfl Bc rfl) ?_
  rintro _ h1 ⟨B1, K1⟩
  have Bc := B1; have K := K.new1 K1 (by first | (right; omega) | (left; simp; done)); have Z1 := K1.1
  refine rs_nil ?_
  refine q_thn ?_
  refine tr_seq ?_
  refine tr_quiet (by kernel_rfl) (by kernel_rfl) ?_
  refine rq_v (v_move rfl) ?_
  refine rq_v (v_nilCheck_ptr rfl) ?_
  refine rq_v (v_fieldAddr fa_keyspan_Iter_1 rfl) ?_
  refine rq_v (v_load one_sl_keyspan_Span rfl (by exact Bc.cell _ rfl)) ?_
  refine rq_v (v_move rfl) ?_
  refine rq_v (v_nilCheck_ptr rfl) ?_
  refine rq_v (v_fieldAddr fa_keyspan_Iter_2 rfl) ?_
  refine rq_v (v_load one_int rfl (by exact Bc.cell _ rfl)) ?_
  refine rq_v (v_indexAddrE u_sl_keyspan_Span siz_keyspan_Span rfl rfl (i := 0) (by omega) (by omega)) ?_
  refine rq_v (v_assign rfl) ?_
  refine rm_end ?_; simp only [endM, hypF, ofE, argE]
  refine q_thn ?_
  refine tr_ret ?_
  refine q_ret (res_tmp rfl rfl) ?_
  refine ⟨0, Bc, ?_, K, ?_⟩
  · simp [pFirst, hlen, posX]; omega
  · simp only [pFirst, if_neg hlen, RetI]; exact ⟨b, o, rfl, rfl⟩
theorem c_ItLast (χ : Chi) (h : Heap) (c : Nat) (a : Option Addr) (cc : Nat) (W : List SpanD) (T : TypeId) (hn : W.length ≤ 100000) (x : Int) (ha : W = [] ∨ ∃ b o, a = some ⟨b, o, none⟩) (Bc : Blk h c (itL (.slice a W.length cc) x) T) :
    Cl Try.prog χ 122 #[.pointer (some ⟨c, 0, none⟩)] h (fun r h' => ∃ x', Blk h' c (itL (.slice a W.length cc) x') T ∧ posX W.length (pLast W) x' ∧ Keep [c] h h' ∧ RetI a (pLast W) r) := by
  refine cl_intro Try.func122 rfl rfl rfl ?_
  have K : Keep [c] h h := Keep.refl _ _
  refine tr_seq ?_
  refine tr_reg ?_
  refine rs_v (v_assign rfl) rfl ?_
  refine rs_nil ?_
  refine q_thn ?_
  refine tr_seq ?_
  refine tr_seq ?_
  refine tr_reg ?_
  refine rs_v (v_move rfl) rfl ?_
  refine rs_v (v_nilCheck_ptr rfl) rfl ?_
  refine rs_v (v_fieldAddr fa_keyspan_Iter_1 rfl) rfl ?_
  refine rs_v (v_load one_sl_keyspan_Span rfl (by exact Bc.cell _ rfl)) rfl ?_
  refine rs_v (v_len u_sl_keyspan_Span rfl) rfl ?_
  refine rs_v (v_eq rfl rfl) rfl ?_
  refine rs_nil ?_
  refine q_thn ?_
  refine tr_if rfl (fun hif => ?_) (fun hif => ?_)
  · -- yes
    simp only [decide_eq_true_eq, decide_eq_false_iff_not] at hif
    refine tr_seq ?_
    refine tr_reg ?_
    refine rs_v (v_assign rfl) rfl ?_
    refine rs_nil ?_
    refine q_thn ?_
    refine tr_ret ?_
    refine q_thn_ret ?_
    refine q_ret (res_tmp rfl rfl) ?_
    have hl : W.length = 0 := by omega
    refine ⟨x, Bc, ?_, K, ?_⟩ <;> simp [pLast, hl, posX, RetI]
  -- no
  simp only [decide_eq_true_eq, decide_eq_false_iff_not] at hif
  have hlen : W.length ≠ 0 := by omega
  rcases ha with rfl | ⟨b, o, rfl⟩
  · simp at hlen
  refine tr_skip ?_
  refine q_thn ?_
  refine tr_seq ?_
  refine tr_reg ?_
  refine rs_v (v_move rfl) rfl ?_
  refine rs_v (v_move rfl) rfl ?_
  refine rs_v (v_nilCheck_ptr rfl) rfl ?_
  refine rs_v (v_fieldAddr fa_keyspan_Iter_1 rfl) rfl ?_
  refine rs_v (v_load one_sl_keyspan_Span rfl (by exact Bc.cell _ rfl)) rfl ?_
  refine rs_v (v_len u_sl_keyspan_Span rfl) rfl ?_
  refine rs_v (v_sub rfl rfl (by omega) (by omega)) rfl ?_
  refine rs_v (v_nilCheck_ptr rfl) rfl ?_
  refine rs_v (v_fieldAddr fa_keyspan_Iter_2 rfl) rfl ?_
  refine rs_w0 (w_put siz_int rfl rfl rfl rfl Bc rfl) ?_
  rintro _ h1 ⟨B1, K1⟩
  have Bc := B1; have K := K.new1 K1 (by first | (right; omega) | (left; simp; done)); have Z1 := K1.1
  refine rs_nil ?_
  refine q_thn ?_
  refine tr_seq ?_
  refine tr_quiet (by kernel_rfl) (by kernel_rfl) ?_
  refine rq_v (v_move rfl) ?_
  refine rq_v (v_nilCheck_ptr rfl) ?_
  refine rq_v (v_fieldAddr fa_keyspan_Iter_1 rfl) ?_
  refine rq_v (v_load one_sl_keyspan_Span rfl (by exact Bc.cell _ rfl)) ?_
  refine rq_v (v_move rfl) ?_
  refine rq_v (v_nilCheck_ptr rfl) ?_
  refine rq_v (v_fieldAddr fa_keyspan_Iter_2 rfl) ?_
  refine rq_v (v_load one_int rfl (by exact Bc.cell _ rfl)) ?_
  refine rq_v (v_indexAddrE u_sl_keyspan_Span siz_keyspan_Span rfl rfl (i := W.length - 1) (by omega) (by omega)) ?_
  refine rq_v (v_assign rfl) ?_
  refine rm_end ?_; simp only [endM, hypF, ofE, argE]
  refine q_thn ?_
  refine tr_ret ?_
  refine q_ret (res_tmp rfl rfl) ?_
  refine ⟨_, Bc, ?_, K, ?_⟩
  · simp [pLast, hlen, posX]; omega
  · simp only [pLast, if_neg hlen, RetI]; exact ⟨b, o, rfl, rfl⟩
theorem c_ItNext (χ : Chi) (h : Heap) (c : Nat) (a : Option Addr) (cc : Nat) (W : List SpanD) (T : TypeId) (hn : W.length ≤ 100000) (x : Int) (i : Nat) (hi : x + 1 = i) (hin : i ≤ W.length) (ha : W = [] ∨ ∃ b o, a = some ⟨b, o, none⟩) (Bc : Blk h c (itL (.slice a W.length cc) x) T) :
    Cl Try.prog χ 123 #[.pointer (some ⟨c, 0, none⟩)] h (fun r h' => ∃ x', Blk h' c (itL (.slice a W.length cc) x') T ∧ posX W.length (if i < W.length then Pos.pt i else .behind) x' ∧ Keep [c] h h' ∧ RetI a (if i < W.length then Pos.pt i else .behind) r) := by
  refine cl_intro Try.func123 rfl rfl rfl ?_
  have K : Keep [c] h h := Keep.refl _ _
  refine tr_seq ?_
  refine tr_reg ?_
  refine rs_v (v_assign rfl) rfl ?_
  refine rs_nil ?_
  refine q_thn ?_
  refine tr_seq ?_
  refine tr_seq ?_
  refine tr_quiet (by kernel_rfl) (by kernel_rfl) ?_
  refine rq_v (v_move rfl) ?_
  refine rq_v (v_nilCheck_ptr rfl) ?_
  refine rq_v (v_fieldAddr fa_keyspan_Iter_2 rfl) ?_
  refine rq_v (v_load one_int rfl (by exact Bc.cell _ rfl)) ?_
  refine rq_v (v_move rfl) ?_
  refine rq_v (v_nilCheck_ptr rfl) ?_
  refine rq_v (v_fieldAddr fa_keyspan_Iter_1 rfl) ?_
  refine rq_v (v_load one_sl_keyspan_Span rfl (by exact Bc.cell _ rfl)) ?_
  refine rq_v (v_len u_sl_keyspan_Span rfl) ?_
  refine rq_v (v_ge rfl rfl) ?_
  refine rm_end ?_; simp only [endM, hypF, ofE, argE]
  refine q_thn ?_
  refine tr_if_f (lkb (decide_eq_false (by omega))) ?_
  refine tr_skip ?_
  refine q_thn ?_
  refine tr_seq ?_
  refine tr_reg ?_
  refine rs_v (v_move rfl) rfl ?_
  refine rs_v (v_nilCheck_ptr rfl) rfl ?_
  refine rs_v (v_fieldAddr fa_keyspan_Iter_2 rfl) rfl ?_
  refine rs_v (v_load one_int rfl (by exact Bc.cell _ rfl)) rfl ?_
  refine rs_v (v_add rfl rfl (by omega) (by omega)) rfl ?_
  refine rs_v (v_nilCheck_ptr rfl) rfl ?_
  refine rs_v (v_fieldAddr fa_keyspan_Iter_2 rfl) rfl ?_
  refine rs_w0 (w_put siz_int rfl rfl rfl rfl Bc rfl) ?_
  rintro _ h1 ⟨B1, K1⟩
  have Bc := B1; have K := K.new1 K1 (by first | (right; omega) | (left; simp; done)); have Z1 := K1.1
  refine rs_nil ?_
  refine q_thn ?_
  refine tr_seq ?_
  refine tr_seq ?_
  refine tr_quiet (by kernel_rfl) (by kernel_rfl) ?_
  refine rq_v (v_move rfl) ?_
  refine rq_v (v_nilCheck_ptr rfl) ?_
  refine rq_v (v_fieldAddr fa_keyspan_Iter_2 rfl) ?_
  refine rq_v (v_load one_int rfl (by exact Bc.cell _ rfl)) ?_
  refine rq_v (v_move rfl) ?_
  refine rq_v (v_nilCheck_ptr rfl) ?_
  refine rq_v (v_fieldAddr fa_keyspan_Iter_1 rfl) ?_
  refine rq_v (v_load one_sl_keyspan_Span rfl (by exact Bc.cell _ rfl)) ?_
  refine rq_v (v_len u_sl_keyspan_Span rfl) ?_
  refine rq_v (v_ge rfl rfl) ?_
  refine rm_end ?_; simp only [endM, hypF, ofE, argE]
  refine q_thn ?_
  refine tr_if rfl (fun hif => ?_) (fun hif => ?_)
  · -- yes
    simp only [decide_eq_true_eq, decide_eq_false_iff_not] at hif
    refine tr_seq ?_
    refine tr_reg ?_
    refine rs_v (v_assign rfl) rfl ?_
    refine rs_nil ?_
    refine q_thn ?_
    refine tr_ret ?_
    refine q_thn_ret ?_
    refine q_ret (res_tmp rfl rfl) ?_
    have hl : ¬ i < W.length := by omega
    refine ⟨_, Bc, ?_, K, ?_⟩
    · rw [if_neg hl]; show x + 1 = _; omega
    · rw [if_neg hl]; rfl
  -- no
  simp only [decide_eq_true_eq, decide_eq_false_iff_not] at hif
  have hlen : W.length ≠ 0 := by omega
  rcases ha with rfl | ⟨b, o, rfl⟩
  · simp at hlen
  refine tr_skip ?_
  refine q_thn ?_
  refine tr_seq ?_
  refine tr_quiet (by kernel_rfl) (by kernel_rfl) ?_
  refine rq_v (v_move rfl) ?_
  refine rq_v (v_nilCheck_ptr rfl) ?_
  refine rq_v (v_fieldAddr fa_keyspan_Iter_1 rfl) ?_
  refine rq_v (v_load one_sl_keyspan_Span rfl (by exact Bc.cell _ rfl)) ?_
  refine rq_v (v_move rfl) ?_
  refine rq_v (v_nilCheck_ptr rfl) ?_
  refine rq_v (v_fieldAddr fa_keyspan_Iter_2 rfl) ?_
  refine rq_v (v_load one_int rfl (by exact Bc.cell _ rfl)) ?_
  refine rq_v (v_indexAddrE u_sl_keyspan_Span siz_keyspan_Span rfl rfl (i := i) (by omega) (by omega)) ?_
  refine rq_v (v_assign rfl) ?_
  refine rm_end ?_; simp only [endM, hypF, ofE, argE]
  refine q_thn ?_
  refine tr_ret ?_
  refine q_ret (res_tmp rfl rfl) ?_
  have hl : i < W.length := by omega
  refine ⟨_, Bc, ?_, K, ?_⟩
  · rw [if_pos hl]; exact ⟨hi, by omega⟩
  · rw [if_pos hl]; exact ⟨b, o, rfl, rfl⟩
theorem c_ItPrev (χ : Chi) (h : Heap) (c : Nat) (a : Option Addr) (cc : Nat) (W : List SpanD) (T : TypeId) (hn : W.length ≤ 100000) (i : Nat) (hin : i ≤ W.length) (ha : W = [] ∨ ∃ b o, a = some ⟨b, o, none⟩) (Bc : Blk h c (itL (.slice a W.length cc) (i : Int)) T) :
    Cl Try.prog χ 124 #[.pointer (some ⟨c, 0, none⟩)] h (fun r h' => ∃ x', Blk h' c (itL (.slice a W.length cc) x') T ∧ posX W.length (if i = 0 then Pos.ahead else .pt (i - 1)) x' ∧ Keep [c] h h' ∧ RetI a (if i = 0 then Pos.ahead else .pt (i - 1)) r) := by
  refine cl_intro Try.func124 rfl rfl rfl ?_
  have K : Keep [c] h h := Keep.refl _ _
  refine tr_seq ?_
  refine tr_reg ?_
  refine rs_v (v_assign rfl) rfl ?_
  refine rs_nil ?_
  refine q_thn ?_
  refine tr_seq ?_
  refine tr_seq ?_
  refine tr_reg ?_
  refine rs_v (v_move rfl) rfl ?_
  refine rs_v (v_nilCheck_ptr rfl) rfl ?_
  refine rs_v (v_fieldAddr fa_keyspan_Iter_2 rfl) rfl ?_
  refine rs_v (v_load one_int rfl (by exact Bc.cell _ rfl)) rfl ?_
  refine rs_v (v_lt rfl rfl) rfl ?_
  refine rs_nil ?_
  refine q_thn ?_
  refine tr_if_f (lkb (decide_eq_false (by omega))) ?_
  refine tr_skip ?_
  refine q_thn ?_
  refine tr_seq ?_
  refine tr_reg ?_
  refine rs_v (v_move rfl) rfl ?_
  refine rs_v (v_nilCheck_ptr rfl) rfl ?_
  refine rs_v (v_fieldAddr fa_keyspan_Iter_2 rfl) rfl ?_
  refine rs_v (v_load one_int rfl (by exact Bc.cell _ rfl)) rfl ?_
  refine rs_v (v_sub rfl rfl (by omega) (by omega)) rfl ?_
  refine rs_v (v_nilCheck_ptr rfl) rfl ?_
  refine rs_v (v_fieldAddr fa_keyspan_Iter_2 rfl) rfl ?_
  refine rs_w0 (w_put siz_int rfl rfl rfl rfl Bc rfl) ?_
  rintro _ h1 ⟨B1, K1⟩
  have Bc := B1; have K := K.new1 K1 (by first | (right; omega) | (left; simp; done)); have Z1 := K1.1
  refine rs_nil ?_
  refine q_thn ?_
  refine tr_seq ?_
  refine tr_seq ?_
  refine tr_reg ?_
  refine rs_v (v_move rfl) rfl ?_
  refine rs_v (v_nilCheck_ptr rfl) rfl ?_
  refine rs_v (v_fieldAddr fa_keyspan_Iter_2 rfl) rfl ?_
  refine rs_v (v_load one_int rfl (by exact Bc.cell _ rfl)) rfl ?_
  refine rs_v (v_lt rfl rfl) rfl ?_
  refine rs_nil ?_
  refine q_thn ?_
  refine tr_if rfl (fun hif => ?_) (fun hif => ?_)
  · -- yes
    simp only [decide_eq_true_eq, decide_eq_false_iff_not] at hif
    refine tr_seq ?_
    refine tr_reg ?_
    refine rs_v (v_assign rfl) rfl ?_
    refine rs_nil ?_
    refine q_thn ?_
    refine tr_ret ?_
    refine q_thn_ret ?_
    refine q_ret (res_tmp rfl rfl) ?_
    have hl : i = 0 := by omega
    refine ⟨_, Bc, ?_, K, ?_⟩
    · rw [if_pos hl]; show (i : Int) - 1 = _; omega
    · rw [if_pos hl]; rfl
  -- no
  simp only [decide_eq_true_eq, decide_eq_false_iff_not] at hif
  have hlen : W.length ≠ 0 := by omega
  rcases ha with rfl | ⟨b, o, rfl⟩
  · simp at hlen
  refine tr_skip ?_
  refine q_thn ?_
  refine tr_seq ?_
  refine tr_quiet (by kernel_rfl) (by kernel_rfl) ?_
  refine rq_v (v_move rfl) ?_
  refine rq_v (v_nilCheck_ptr rfl) ?_
  refine rq_v (v_fieldAddr fa_keyspan_Iter_1 rfl) ?_
  refine rq_v (v_load one_sl_keyspan_Span rfl (by exact Bc.cell _ rfl)) ?_
  refine rq_v (v_move rfl) ?_
  refine rq_v (v_nilCheck_ptr rfl) ?_
  refine rq_v (v_fieldAddr fa_keyspan_Iter_2 rfl) ?_
  refine rq_v (v_load one_int rfl (by exact Bc.cell _ rfl)) ?_
  refine rq_v (v_indexAddrE u_sl_keyspan_Span siz_keyspan_Span rfl rfl (i := i - 1) (by omega) (by omega)) ?_
  refine rq_v (v_assign rfl) ?_
  refine rm_end ?_; simp only [endM, hypF, ofE, argE]
  refine q_thn ?_
  refine tr_ret ?_
  refine q_ret (res_tmp rfl rfl) ?_
  have hl : ¬ i = 0 := by omega
  refine ⟨_, Bc, ?_, K, ?_⟩
  · rw [if_neg hl]; exact ⟨by omega, by omega⟩
  · rw [if_neg hl]; exact ⟨b, o, rfl, rfl⟩
end Go.Proofs.Ytgebfbnndgjkiaa
