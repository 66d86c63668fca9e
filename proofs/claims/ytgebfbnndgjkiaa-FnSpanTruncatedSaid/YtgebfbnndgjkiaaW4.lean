/- Walks, fourth part: a step of the place in a list. Conditions: those that each theorem names. -/
import Derived.Test.YtgebfbnndgjkiaaW3
set_option linter.unusedVariables false
set_option linter.unusedSimpArgs false
namespace Go.Proofs.Ytgebfbnndgjkiaa
open Go.Tess Go.RowKit
set_option maxRecDepth 100000

theorem c_Step_0 (χ : Chi) (h : Heap) (c : Nat) (n x ge lt : Int) (f b a : Bool) (T : TypeId) (hn : 0 ≤ n) (hn2 : n ≤ 9223372036854775807) (Bc : Blk h c (curL n x f b a) T)  :
    Cl Try.prog χ 51 #[.pointer (some ⟨c, 0, none⟩), .int .u8 0, .int .i64 ge, .int .i64 lt] h
      (fun r h' => r = .tuple #[.bool true, .bool (inR 0 n)] ∧ Blk h' c (curL n 0 (inR 0 n) false false) T ∧ Keep [c] h h') := by
  refine cl_intro Try.func51 rfl rfl rfl ?_
  have K : Keep [c] h h := Keep.refl _ _
  refine tr_seq ?_
  refine tr_reg ?_
  refine rs_v (v_assign rfl) rfl ?_
  refine rs_v (v_assign rfl) rfl ?_
  refine rs_nil ?_
  refine q_thn ?_
  refine tr_seq ?_
  refine tr_seq ?_
  refine tr_reg ?_
  refine rs_v (v_move rfl) rfl ?_
  refine rs_nil ?_
  refine q_thn ?_
  refine tr_block ?_
  refine tr_seq ?_
  refine tr_seq ?_
  refine tr_reg ?_
  refine rs_v (v_eq rfl rfl) rfl ?_
  refine rs_v (v_assign rfl) rfl ?_
  refine rs_nil ?_
  refine q_thn ?_
  refine tr_if_t rfl ?_
  refine tr_skip ?_
  refine q_thn ?_
  refine tr_if_t rfl ?_
  refine tr_seq ?_
  refine tr_reg ?_
  refine rs_v (v_move rfl) rfl ?_
  refine rs_w (w_call (vs := [_, _, _]) ok_spec_SpanCursor_place rfl ⟨rfl, rfl, rfl, trivial⟩ (c_place χ _ c n 0 x f b a false true T Bc)) rfl ?_
  rintro _ h1 ⟨rfl, Bc, K1⟩
  have K := K.new1 K1 (by left; simp); have Z1 := K1.1
  refine rs_nil ?_
  refine q_thn ?_
  refine tr_seq ?_
  refine tr_seq ?_
  refine tr_reg ?_
  refine rs_v (v_move rfl) rfl ?_
  refine rs_v (v_eq rfl rfl) rfl ?_
  refine rs_nil ?_
  refine q_thn ?_
  refine tr_if_f rfl ?_
  refine tr_skip ?_
  refine q_thn ?_
  refine tr_reg ?_
  refine rs_v (v_move rfl) rfl ?_
  refine rs_v (v_move rfl) rfl ?_
  refine rs_v (v_nilCheck_ptr rfl) rfl ?_
  refine rs_v (v_fieldAddr fa_spec_SpanCursor_3 rfl) rfl ?_
  refine rs_w0 (w_put siz_bool rfl rfl rfl rfl Bc rfl) ?_
  rintro _ h2 ⟨B2, K2⟩
  have Bc := B2; have K := K.new1 K2 (by first | (right; omega) | (left; simp; done)); have Z2 := K2.1
  refine rs_v (v_nilCheck_ptr rfl) rfl ?_
  refine rs_v (v_fieldAddr fa_spec_SpanCursor_4 rfl) rfl ?_
  refine rs_w0 (w_put siz_bool rfl rfl rfl rfl Bc rfl) ?_
  rintro _ h3 ⟨B3, K3⟩
  have Bc := B3; have K := K.new1 K3 (by first | (right; omega) | (left; simp; done)); have Z3 := K3.1
  refine rs_nil ?_
  refine q_blk_n ?_
  refine q_thn ?_
  refine tr_seq ?_
  refine tr_quiet (by kernel_rfl) (by kernel_rfl) ?_
  refine rq_v (v_move rfl) ?_
  refine rq_v (v_nilCheck_ptr rfl) ?_
  refine rq_v (v_fieldAddr fa_spec_SpanCursor_2 rfl) ?_
  refine rq_v (v_load one_bool rfl (by exact Bc.cell _ rfl)) ?_
  refine rq_v (v_assign rfl) ?_
  refine rq_v (v_assign rfl) ?_
  refine rm_end ?_; simp only [endM, hypF, ofE, argE]
  refine q_thn ?_
  refine tr_ret ?_
  refine q_ret (res_tmp2 rfl rfl rfl) ?_
  refine ⟨rfl, ?_, K⟩
  first | exact Bc | (simp [putRow, Value.cells, curL] at Bc ⊢; exact Bc)
theorem c_Step_1 (χ : Chi) (h : Heap) (c : Nat) (n x ge lt : Int) (f b a : Bool) (T : TypeId) (hn : 0 ≤ n) (hn2 : n ≤ 9223372036854775807) (Bc : Blk h c (curL n x f b a) T)  :
    Cl Try.prog χ 51 #[.pointer (some ⟨c, 0, none⟩), .int .u8 1, .int .i64 ge, .int .i64 lt] h
      (fun r h' => r = .tuple #[.bool true, .bool (inR (n - 1) n)] ∧ Blk h' c (curL n (n - 1) (inR (n - 1) n) false false) T ∧ Keep [c] h h') := by
  refine cl_intro Try.func51 rfl rfl rfl ?_
  have K : Keep [c] h h := Keep.refl _ _
  refine tr_seq ?_
  refine tr_reg ?_
  refine rs_v (v_assign rfl) rfl ?_
  refine rs_v (v_assign rfl) rfl ?_
  refine rs_nil ?_
  refine q_thn ?_
  refine tr_seq ?_
  refine tr_seq ?_
  refine tr_reg ?_
  refine rs_v (v_move rfl) rfl ?_
  refine rs_nil ?_
  refine q_thn ?_
  refine tr_block ?_
  refine tr_seq ?_
  refine tr_seq ?_
  refine tr_reg ?_
  refine rs_v (v_eq rfl rfl) rfl ?_
  refine rs_v (v_assign rfl) rfl ?_
  refine rs_nil ?_
  refine q_thn ?_
  refine tr_if_f rfl ?_
  refine tr_reg ?_
  refine rs_v (v_eq rfl rfl) rfl ?_
  refine rs_v (v_assign rfl) rfl ?_
  refine rs_nil ?_
  refine q_thn ?_
  refine tr_if_t rfl ?_
  refine tr_seq ?_
  refine tr_reg ?_
  refine rs_v (v_move rfl) rfl ?_
  refine rs_w (w_call (vs := [_, _, _]) ok_spec_SpanCursor_place rfl ⟨rfl, rfl, rfl, trivial⟩ (c_place χ _ c n 0 x f b a false true T Bc)) rfl ?_
  rintro _ h1 ⟨rfl, Bc, K1⟩
  have K := K.new1 K1 (by left; simp); have Z1 := K1.1
  refine rs_nil ?_
  refine q_thn ?_
  refine tr_seq ?_
  refine tr_seq ?_
  refine tr_reg ?_
  refine rs_v (v_move rfl) rfl ?_
  refine rs_v (v_eq rfl rfl) rfl ?_
  refine rs_nil ?_
  refine q_thn ?_
  refine tr_if_t rfl ?_
  refine tr_reg ?_
  refine rs_v (v_move rfl) rfl ?_
  refine rs_v (v_move rfl) rfl ?_
  refine rs_v (v_nilCheck_ptr rfl) rfl ?_
  refine rs_v (v_fieldAddr fa_spec_SpanCursor_0 rfl) rfl ?_
  refine rs_v (v_load one_int rfl (by exact Bc.cell _ rfl)) rfl ?_
  refine rs_v (v_sub rfl rfl (by omega) (by omega)) rfl ?_
  refine rs_w (w_call (vs := [_, _, _]) ok_spec_SpanCursor_place rfl ⟨rfl, rfl, rfl, trivial⟩ (c_place χ _ c n (n - 1) 0 _ _ _ false false T Bc)) rfl ?_
  rintro _ h2 ⟨rfl, Bc, K2⟩
  have K := K.new1 K2 (by left; simp); have Z2 := K2.1
  refine rs_nil ?_
  refine q_thn ?_
  refine tr_reg ?_
  refine rs_v (v_move rfl) rfl ?_
  refine rs_v (v_move rfl) rfl ?_
  refine rs_v (v_nilCheck_ptr rfl) rfl ?_
  refine rs_v (v_fieldAddr fa_spec_SpanCursor_3 rfl) rfl ?_
  refine rs_w0 (w_put siz_bool rfl rfl rfl rfl Bc rfl) ?_
  rintro _ h3 ⟨B3, K3⟩
  have Bc := B3; have K := K.new1 K3 (by first | (right; omega) | (left; simp; done)); have Z3 := K3.1
  refine rs_v (v_nilCheck_ptr rfl) rfl ?_
  refine rs_v (v_fieldAddr fa_spec_SpanCursor_4 rfl) rfl ?_
  refine rs_w0 (w_put siz_bool rfl rfl rfl rfl Bc rfl) ?_
  rintro _ h4 ⟨B4, K4⟩
  have Bc := B4; have K := K.new1 K4 (by first | (right; omega) | (left; simp; done)); have Z4 := K4.1
  refine rs_nil ?_
  refine q_blk_n ?_
  refine q_thn ?_
  refine tr_seq ?_
  refine tr_quiet (by kernel_rfl) (by kernel_rfl) ?_
  refine rq_v (v_move rfl) ?_
  refine rq_v (v_nilCheck_ptr rfl) ?_
  refine rq_v (v_fieldAddr fa_spec_SpanCursor_2 rfl) ?_
  refine rq_v (v_load one_bool rfl (by exact Bc.cell _ rfl)) ?_
  refine rq_v (v_assign rfl) ?_
  refine rq_v (v_assign rfl) ?_
  refine rm_end ?_; simp only [endM, hypF, ofE, argE]
  refine q_thn ?_
  refine tr_ret ?_
  refine q_ret (res_tmp2 rfl rfl rfl) ?_
  refine ⟨rfl, ?_, K⟩
  first | exact Bc | (simp [putRow, Value.cells, curL] at Bc ⊢; exact Bc)
theorem c_Step_4 (χ : Chi) (h : Heap) (c : Nat) (n x ge lt : Int) (f b a : Bool) (T : TypeId) (hn : 0 ≤ n) (hn2 : n ≤ 9223372036854775807) (Bc : Blk h c (curL n x f b a) T)  :
    Cl Try.prog χ 51 #[.pointer (some ⟨c, 0, none⟩), .int .u8 4, .int .i64 ge, .int .i64 lt] h
      (fun r h' => r = .tuple #[.bool true, .bool (inR ge n)] ∧ Blk h' c (curL n ge (inR ge n) (!inR ge n && true) (!inR ge n && !true)) T ∧ Keep [c] h h') := by
  refine cl_intro Try.func51 rfl rfl rfl ?_
  have K : Keep [c] h h := Keep.refl _ _
  refine tr_seq ?_
  refine tr_reg ?_
  refine rs_v (v_assign rfl) rfl ?_
  refine rs_v (v_assign rfl) rfl ?_
  refine rs_nil ?_
  refine q_thn ?_
  refine tr_seq ?_
  refine tr_seq ?_
  refine tr_reg ?_
  refine rs_v (v_move rfl) rfl ?_
  refine rs_nil ?_
  refine q_thn ?_
  refine tr_block ?_
  refine tr_seq ?_
  refine tr_seq ?_
  refine tr_reg ?_
  refine rs_v (v_eq rfl rfl) rfl ?_
  refine rs_v (v_assign rfl) rfl ?_
  refine rs_nil ?_
  refine q_thn ?_
  refine tr_if_f rfl ?_
  refine tr_reg ?_
  refine rs_v (v_eq rfl rfl) rfl ?_
  refine rs_v (v_assign rfl) rfl ?_
  refine rs_nil ?_
  refine q_thn ?_
  refine tr_if_f rfl ?_
  refine tr_seq ?_
  refine tr_reg ?_
  refine rs_v (v_eq rfl rfl) rfl ?_
  refine rs_v (v_assign rfl) rfl ?_
  refine rs_nil ?_
  refine q_thn ?_
  refine tr_if_t rfl ?_
  refine tr_reg ?_
  refine rs_v (v_move rfl) rfl ?_
  refine rs_v (v_move rfl) rfl ?_
  refine rs_w (w_call (vs := [_, _, _]) ok_spec_SpanCursor_place rfl ⟨rfl, rfl, rfl, trivial⟩ (c_place χ _ c n ge x f b a false true T Bc)) rfl ?_
  rintro _ h1 ⟨rfl, Bc, K1⟩
  have K := K.new1 K1 (by left; simp); have Z1 := K1.1
  refine rs_nil ?_
  refine q_blk_n ?_
  refine q_thn ?_
  refine tr_seq ?_
  refine tr_quiet (by kernel_rfl) (by kernel_rfl) ?_
  refine rq_v (v_move rfl) ?_
  refine rq_v (v_nilCheck_ptr rfl) ?_
  refine rq_v (v_fieldAddr fa_spec_SpanCursor_2 rfl) ?_
  refine rq_v (v_load one_bool rfl (by exact Bc.cell _ rfl)) ?_
  refine rq_v (v_assign rfl) ?_
  refine rq_v (v_assign rfl) ?_
  refine rm_end ?_; simp only [endM, hypF, ofE, argE]
  refine q_thn ?_
  refine tr_ret ?_
  refine q_ret (res_tmp2 rfl rfl rfl) ?_
  refine ⟨rfl, ?_, K⟩
  first | exact Bc | (simp [putRow, Value.cells, curL] at Bc ⊢; exact Bc)
theorem c_Step_5 (χ : Chi) (h : Heap) (c : Nat) (n x ge lt : Int) (f b a : Bool) (T : TypeId) (hn : 0 ≤ n) (hn2 : n ≤ 9223372036854775807) (Bc : Blk h c (curL n x f b a) T)  :
    Cl Try.prog χ 51 #[.pointer (some ⟨c, 0, none⟩), .int .u8 5, .int .i64 ge, .int .i64 lt] h
      (fun r h' => r = .tuple #[.bool true, .bool (inR lt n)] ∧ Blk h' c (curL n lt (inR lt n) (!inR lt n && false) (!inR lt n && !false)) T ∧ Keep [c] h h') := by
  refine cl_intro Try.func51 rfl rfl rfl ?_
  have K : Keep [c] h h := Keep.refl _ _
  refine tr_seq ?_
  refine tr_reg ?_
  refine rs_v (v_assign rfl) rfl ?_
  refine rs_v (v_assign rfl) rfl ?_
  refine rs_nil ?_
  refine q_thn ?_
  refine tr_seq ?_
  refine tr_seq ?_
  refine tr_reg ?_
  refine rs_v (v_move rfl) rfl ?_
  refine rs_nil ?_
  refine q_thn ?_
  refine tr_block ?_
  refine tr_seq ?_
  refine tr_seq ?_
  refine tr_reg ?_
  refine rs_v (v_eq rfl rfl) rfl ?_
  refine rs_v (v_assign rfl) rfl ?_
  refine rs_nil ?_
  refine q_thn ?_
  refine tr_if_f rfl ?_
  refine tr_reg ?_
  refine rs_v (v_eq rfl rfl) rfl ?_
  refine rs_v (v_assign rfl) rfl ?_
  refine rs_nil ?_
  refine q_thn ?_
  refine tr_if_f rfl ?_
  refine tr_seq ?_
  refine tr_reg ?_
  refine rs_v (v_eq rfl rfl) rfl ?_
  refine rs_v (v_assign rfl) rfl ?_
  refine rs_nil ?_
  refine q_thn ?_
  refine tr_if_f rfl ?_
  refine tr_seq ?_
  refine tr_reg ?_
  refine rs_v (v_eq rfl rfl) rfl ?_
  refine rs_v (v_assign rfl) rfl ?_
  refine rs_nil ?_
  refine q_thn ?_
  refine tr_if_t rfl ?_
  refine tr_reg ?_
  refine rs_v (v_move rfl) rfl ?_
  refine rs_v (v_move rfl) rfl ?_
  refine rs_w (w_call (vs := [_, _, _]) ok_spec_SpanCursor_place rfl ⟨rfl, rfl, rfl, trivial⟩ (c_place χ _ c n lt x f b a false false T Bc)) rfl ?_
  rintro _ h1 ⟨rfl, Bc, K1⟩
  have K := K.new1 K1 (by left; simp); have Z1 := K1.1
  refine rs_nil ?_
  refine q_blk_n ?_
  refine q_thn ?_
  refine tr_seq ?_
  refine tr_quiet (by kernel_rfl) (by kernel_rfl) ?_
  refine rq_v (v_move rfl) ?_
  refine rq_v (v_nilCheck_ptr rfl) ?_
  refine rq_v (v_fieldAddr fa_spec_SpanCursor_2 rfl) ?_
  refine rq_v (v_load one_bool rfl (by exact Bc.cell _ rfl)) ?_
  refine rq_v (v_assign rfl) ?_
  refine rq_v (v_assign rfl) ?_
  refine rm_end ?_; simp only [endM, hypF, ofE, argE]
  refine q_thn ?_
  refine tr_ret ?_
  refine q_ret (res_tmp2 rfl rfl rfl) ?_
  refine ⟨rfl, ?_, K⟩
  first | exact Bc | (simp [putRow, Value.cells, curL] at Bc ⊢; exact Bc)
theorem c_Step_2f (χ : Chi) (h : Heap) (c : Nat) (n x ge lt : Int) (b a : Bool) (T : TypeId) (hn : 0 ≤ n) (hn2 : n ≤ 9223372036854775807) (Bc : Blk h c (curL n x true b a) T) (hx : -1 ≤ x) (hx2 : x < n) :
    Cl Try.prog χ 51 #[.pointer (some ⟨c, 0, none⟩), .int .u8 2, .int .i64 ge, .int .i64 lt] h
      (fun r h' => r = .tuple #[.bool true, .bool (inR (x + 1) n)] ∧ Blk h' c (curL n (x + 1) (inR (x + 1) n) (!inR (x + 1) n && true) (!inR (x + 1) n && !true)) T ∧ Keep [c] h h') := by
  refine cl_intro Try.func51 rfl rfl rfl ?_
  have K : Keep [c] h h := Keep.refl _ _
  refine tr_seq ?_
  refine tr_reg ?_
  refine rs_v (v_assign rfl) rfl ?_
  refine rs_v (v_assign rfl) rfl ?_
  refine rs_nil ?_
  refine q_thn ?_
  refine tr_seq ?_
  refine tr_seq ?_
  refine tr_reg ?_
  refine rs_v (v_move rfl) rfl ?_
  refine rs_nil ?_
  refine q_thn ?_
  refine tr_block ?_
  refine tr_seq ?_
  refine tr_seq ?_
  refine tr_reg ?_
  refine rs_v (v_eq rfl rfl) rfl ?_
  refine rs_v (v_assign rfl) rfl ?_
  refine rs_nil ?_
  refine q_thn ?_
  refine tr_if_f rfl ?_
  refine tr_reg ?_
  refine rs_v (v_eq rfl rfl) rfl ?_
  refine rs_v (v_assign rfl) rfl ?_
  refine rs_nil ?_
  refine q_thn ?_
  refine tr_if_f rfl ?_
  refine tr_seq ?_
  refine tr_reg ?_
  refine rs_v (v_eq rfl rfl) rfl ?_
  refine rs_v (v_assign rfl) rfl ?_
  refine rs_nil ?_
  refine q_thn ?_
  refine tr_if_f rfl ?_
  refine tr_seq ?_
  refine tr_reg ?_
  refine rs_v (v_eq rfl rfl) rfl ?_
  refine rs_v (v_assign rfl) rfl ?_
  refine rs_nil ?_
  refine q_thn ?_
  refine tr_if_f rfl ?_
  refine tr_seq ?_
  refine tr_reg ?_
  refine rs_v (v_eq rfl rfl) rfl ?_
  refine rs_v (v_assign rfl) rfl ?_
  refine rs_nil ?_
  refine q_thn ?_
  refine tr_if_t rfl ?_
  refine tr_seq ?_
  refine tr_seq ?_
  refine tr_reg ?_
  refine rs_v (v_move rfl) rfl ?_
  refine rs_v (v_nilCheck_ptr rfl) rfl ?_
  refine rs_v (v_fieldAddr fa_spec_SpanCursor_2 rfl) rfl ?_
  refine rs_v (v_load one_bool rfl (by exact Bc.cell _ rfl)) rfl ?_
  refine rs_v (v_not rfl) rfl ?_
  refine rs_v (v_move rfl) rfl ?_
  refine rs_gs rfl rfl rfl rfl ?_
  refine rs_gs rfl rfl rfl rfl ?_
  refine rs_gs rfl rfl rfl rfl ?_
  refine rs_gs rfl rfl rfl rfl ?_
  refine rs_gs rfl rfl rfl rfl ?_
  refine rs_v (v_pick_f rfl rfl) rfl ?_
  refine rs_nil ?_
  refine q_thn ?_
  refine tr_if_f rfl ?_
  refine tr_skip ?_
  refine q_thn ?_
  refine tr_seq ?_
  refine tr_seq ?_
  refine tr_reg ?_
  refine rs_v (v_move rfl) rfl ?_
  refine rs_v (v_nilCheck_ptr rfl) rfl ?_
  refine rs_v (v_fieldAddr fa_spec_SpanCursor_5 rfl) rfl ?_
  refine rs_v (v_load one_bool rfl (by exact Bc.cell _ rfl)) rfl ?_
  refine rs_v (v_not rfl) rfl ?_
  refine rs_nil ?_
  refine q_thn ?_
  refine tr_if_t rfl ?_
  refine tr_reg ?_
  refine rs_v (v_move rfl) rfl ?_
  refine rs_v (v_nilCheck_ptr rfl) rfl ?_
  refine rs_v (v_fieldAddr fa_spec_SpanCursor_1 rfl) rfl ?_
  refine rs_v (v_load one_int rfl (by exact Bc.cell _ rfl)) rfl ?_
  refine rs_v (v_add rfl rfl (by omega) (by omega)) rfl ?_
  refine rs_v (v_nilCheck_ptr rfl) rfl ?_
  refine rs_v (v_fieldAddr fa_spec_SpanCursor_1 rfl) rfl ?_
  refine rs_w0 (w_put siz_int rfl rfl rfl rfl Bc rfl) ?_
  rintro _ h1 ⟨B1, K1⟩
  have Bc := B1; have K := K.new1 K1 (by first | (right; omega) | (left; simp; done)); have Z1 := K1.1
  refine rs_nil ?_
  refine q_thn ?_
  refine tr_reg ?_
  refine rs_v (v_move rfl) rfl ?_
  refine rs_v (v_move rfl) rfl ?_
  refine rs_v (v_nilCheck_ptr rfl) rfl ?_
  refine rs_v (v_fieldAddr fa_spec_SpanCursor_1 rfl) rfl ?_
  refine rs_v (v_load one_int rfl (by exact Bc.cell _ rfl)) rfl ?_
  refine rs_w (w_call (vs := [_, _, _]) ok_spec_SpanCursor_place rfl ⟨rfl, rfl, rfl, trivial⟩ (c_place χ _ c n (x + 1) (x + 1) true b a false true T Bc)) rfl ?_
  rintro _ h2 ⟨rfl, Bc, K2⟩
  have K := K.new1 K2 (by left; simp); have Z2 := K2.1
  refine rs_nil ?_
  refine q_blk_n ?_
  refine q_thn ?_
  refine tr_seq ?_
  refine tr_quiet (by kernel_rfl) (by kernel_rfl) ?_
  refine rq_v (v_move rfl) ?_
  refine rq_v (v_nilCheck_ptr rfl) ?_
  refine rq_v (v_fieldAddr fa_spec_SpanCursor_2 rfl) ?_
  refine rq_v (v_load one_bool rfl (by exact Bc.cell _ rfl)) ?_
  refine rq_v (v_assign rfl) ?_
  refine rq_v (v_assign rfl) ?_
  refine rm_end ?_; simp only [endM, hypF, ofE, argE]
  refine q_thn ?_
  refine tr_ret ?_
  refine q_ret (res_tmp2 rfl rfl rfl) ?_
  refine ⟨rfl, ?_, K⟩
  first | exact Bc | (simp [putRow, Value.cells, curL] at Bc ⊢; exact Bc)
theorem c_Step_2a (χ : Chi) (h : Heap) (c : Nat) (n x ge lt : Int) (b : Bool) (T : TypeId) (hn : 0 ≤ n) (hn2 : n ≤ 9223372036854775807) (Bc : Blk h c (curL n x false b true) T) (hx : -1 ≤ x) (hx2 : x < n) :
    Cl Try.prog χ 51 #[.pointer (some ⟨c, 0, none⟩), .int .u8 2, .int .i64 ge, .int .i64 lt] h
      (fun r h' => r = .tuple #[.bool true, .bool (inR (x + 1) n)] ∧ Blk h' c (curL n (x + 1) (inR (x + 1) n) (!inR (x + 1) n && true) (!inR (x + 1) n && !true)) T ∧ Keep [c] h h') := by
  refine cl_intro Try.func51 rfl rfl rfl ?_
  have K : Keep [c] h h := Keep.refl _ _
  refine tr_seq ?_
  refine tr_reg ?_
  refine rs_v (v_assign rfl) rfl ?_
  refine rs_v (v_assign rfl) rfl ?_
  refine rs_nil ?_
  refine q_thn ?_
  refine tr_seq ?_
  refine tr_seq ?_
  refine tr_reg ?_
  refine rs_v (v_move rfl) rfl ?_
  refine rs_nil ?_
  refine q_thn ?_
  refine tr_block ?_
  refine tr_seq ?_
  refine tr_seq ?_
  refine tr_reg ?_
  refine rs_v (v_eq rfl rfl) rfl ?_
  refine rs_v (v_assign rfl) rfl ?_
  refine rs_nil ?_
  refine q_thn ?_
  refine tr_if_f rfl ?_
  refine tr_reg ?_
  refine rs_v (v_eq rfl rfl) rfl ?_
  refine rs_v (v_assign rfl) rfl ?_
  refine rs_nil ?_
  refine q_thn ?_
  refine tr_if_f rfl ?_
  refine tr_seq ?_
  refine tr_reg ?_
  refine rs_v (v_eq rfl rfl) rfl ?_
  refine rs_v (v_assign rfl) rfl ?_
  refine rs_nil ?_
  refine q_thn ?_
  refine tr_if_f rfl ?_
  refine tr_seq ?_
  refine tr_reg ?_
  refine rs_v (v_eq rfl rfl) rfl ?_
  refine rs_v (v_assign rfl) rfl ?_
  refine rs_nil ?_
  refine q_thn ?_
  refine tr_if_f rfl ?_
  refine tr_seq ?_
  refine tr_reg ?_
  refine rs_v (v_eq rfl rfl) rfl ?_
  refine rs_v (v_assign rfl) rfl ?_
  refine rs_nil ?_
  refine q_thn ?_
  refine tr_if_t rfl ?_
  refine tr_seq ?_
  refine tr_seq ?_
  refine tr_reg ?_
  refine rs_v (v_move rfl) rfl ?_
  refine rs_v (v_nilCheck_ptr rfl) rfl ?_
  refine rs_v (v_fieldAddr fa_spec_SpanCursor_2 rfl) rfl ?_
  refine rs_v (v_load one_bool rfl (by exact Bc.cell _ rfl)) rfl ?_
  refine rs_v (v_not rfl) rfl ?_
  refine rs_v (v_move rfl) rfl ?_
  refine rs_gv rfl rfl (v_move rfl) rfl ?_
  refine rs_gv rfl rfl (v_nilCheck_ptr rfl) rfl ?_
  refine rs_gv rfl rfl (v_fieldAddr fa_spec_SpanCursor_4 rfl) rfl ?_
  refine rs_gv rfl rfl (v_load one_bool rfl (by exact Bc.cell _ rfl)) rfl ?_
  refine rs_gv rfl rfl (v_not rfl) rfl ?_
  refine rs_v (v_pick_t rfl rfl) rfl ?_
  refine rs_nil ?_
  refine q_thn ?_
  refine tr_if_f rfl ?_
  refine tr_skip ?_
  refine q_thn ?_
  refine tr_seq ?_
  refine tr_seq ?_
  refine tr_reg ?_
  refine rs_v (v_move rfl) rfl ?_
  refine rs_v (v_nilCheck_ptr rfl) rfl ?_
  refine rs_v (v_fieldAddr fa_spec_SpanCursor_5 rfl) rfl ?_
  refine rs_v (v_load one_bool rfl (by exact Bc.cell _ rfl)) rfl ?_
  refine rs_v (v_not rfl) rfl ?_
  refine rs_nil ?_
  refine q_thn ?_
  refine tr_if_t rfl ?_
  refine tr_reg ?_
  refine rs_v (v_move rfl) rfl ?_
  refine rs_v (v_nilCheck_ptr rfl) rfl ?_
  refine rs_v (v_fieldAddr fa_spec_SpanCursor_1 rfl) rfl ?_
  refine rs_v (v_load one_int rfl (by exact Bc.cell _ rfl)) rfl ?_
  refine rs_v (v_add rfl rfl (by omega) (by omega)) rfl ?_
  refine rs_v (v_nilCheck_ptr rfl) rfl ?_
  refine rs_v (v_fieldAddr fa_spec_SpanCursor_1 rfl) rfl ?_
  refine rs_w0 (w_put siz_int rfl rfl rfl rfl Bc rfl) ?_
  rintro _ h1 ⟨B1, K1⟩
  have Bc := B1; have K := K.new1 K1 (by first | (right; omega) | (left; simp; done)); have Z1 := K1.1
  refine rs_nil ?_
  refine q_thn ?_
  refine tr_reg ?_
  refine rs_v (v_move rfl) rfl ?_
  refine rs_v (v_move rfl) rfl ?_
  refine rs_v (v_nilCheck_ptr rfl) rfl ?_
  refine rs_v (v_fieldAddr fa_spec_SpanCursor_1 rfl) rfl ?_
  refine rs_v (v_load one_int rfl (by exact Bc.cell _ rfl)) rfl ?_
  refine rs_w (w_call (vs := [_, _, _]) ok_spec_SpanCursor_place rfl ⟨rfl, rfl, rfl, trivial⟩ (c_place χ _ c n (x + 1) (x + 1) false b true false true T Bc)) rfl ?_
  rintro _ h2 ⟨rfl, Bc, K2⟩
  have K := K.new1 K2 (by left; simp); have Z2 := K2.1
  refine rs_nil ?_
  refine q_blk_n ?_
  refine q_thn ?_
  refine tr_seq ?_
  refine tr_quiet (by kernel_rfl) (by kernel_rfl) ?_
  refine rq_v (v_move rfl) ?_
  refine rq_v (v_nilCheck_ptr rfl) ?_
  refine rq_v (v_fieldAddr fa_spec_SpanCursor_2 rfl) ?_
  refine rq_v (v_load one_bool rfl (by exact Bc.cell _ rfl)) ?_
  refine rq_v (v_assign rfl) ?_
  refine rq_v (v_assign rfl) ?_
  refine rm_end ?_; simp only [endM, hypF, ofE, argE]
  refine q_thn ?_
  refine tr_ret ?_
  refine q_ret (res_tmp2 rfl rfl rfl) ?_
  refine ⟨rfl, ?_, K⟩
  first | exact Bc | (simp [putRow, Value.cells, curL] at Bc ⊢; exact Bc)
theorem c_Step_2n (χ : Chi) (h : Heap) (c : Nat) (n x ge lt : Int) (b : Bool) (T : TypeId) (hn : 0 ≤ n) (hn2 : n ≤ 9223372036854775807) (Bc : Blk h c (curL n x false b false) T)  :
    Cl Try.prog χ 51 #[.pointer (some ⟨c, 0, none⟩), .int .u8 2, .int .i64 ge, .int .i64 lt] h
      (fun r h' => r = .tuple #[.bool false, .bool (false)] ∧ Blk h' c (curL n x false b false) T ∧ Keep [c] h h') := by
  refine cl_intro Try.func51 rfl rfl rfl ?_
  have K : Keep [c] h h := Keep.refl _ _
  refine tr_seq ?_
  refine tr_reg ?_
  refine rs_v (v_assign rfl) rfl ?_
  refine rs_v (v_assign rfl) rfl ?_
  refine rs_nil ?_
  refine q_thn ?_
  refine tr_seq ?_
  refine tr_seq ?_
  refine tr_reg ?_
  refine rs_v (v_move rfl) rfl ?_
  refine rs_nil ?_
  refine q_thn ?_
  refine tr_block ?_
  refine tr_seq ?_
  refine tr_seq ?_
  refine tr_reg ?_
  refine rs_v (v_eq rfl rfl) rfl ?_
  refine rs_v (v_assign rfl) rfl ?_
  refine rs_nil ?_
  refine q_thn ?_
  refine tr_if_f rfl ?_
  refine tr_reg ?_
  refine rs_v (v_eq rfl rfl) rfl ?_
  refine rs_v (v_assign rfl) rfl ?_
  refine rs_nil ?_
  refine q_thn ?_
  refine tr_if_f rfl ?_
  refine tr_seq ?_
  refine tr_reg ?_
  refine rs_v (v_eq rfl rfl) rfl ?_
  refine rs_v (v_assign rfl) rfl ?_
  refine rs_nil ?_
  refine q_thn ?_
  refine tr_if_f rfl ?_
  refine tr_seq ?_
  refine tr_reg ?_
  refine rs_v (v_eq rfl rfl) rfl ?_
  refine rs_v (v_assign rfl) rfl ?_
  refine rs_nil ?_
  refine q_thn ?_
  refine tr_if_f rfl ?_
  refine tr_seq ?_
  refine tr_reg ?_
  refine rs_v (v_eq rfl rfl) rfl ?_
  refine rs_v (v_assign rfl) rfl ?_
  refine rs_nil ?_
  refine q_thn ?_
  refine tr_if_t rfl ?_
  refine tr_seq ?_
  refine tr_seq ?_
  refine tr_reg ?_
  refine rs_v (v_move rfl) rfl ?_
  refine rs_v (v_nilCheck_ptr rfl) rfl ?_
  refine rs_v (v_fieldAddr fa_spec_SpanCursor_2 rfl) rfl ?_
  refine rs_v (v_load one_bool rfl (by exact Bc.cell _ rfl)) rfl ?_
  refine rs_v (v_not rfl) rfl ?_
  refine rs_v (v_move rfl) rfl ?_
  refine rs_gv rfl rfl (v_move rfl) rfl ?_
  refine rs_gv rfl rfl (v_nilCheck_ptr rfl) rfl ?_
  refine rs_gv rfl rfl (v_fieldAddr fa_spec_SpanCursor_4 rfl) rfl ?_
  refine rs_gv rfl rfl (v_load one_bool rfl (by exact Bc.cell _ rfl)) rfl ?_
  refine rs_gv rfl rfl (v_not rfl) rfl ?_
  refine rs_v (v_pick_t rfl rfl) rfl ?_
  refine rs_nil ?_
  refine q_thn ?_
  refine tr_if_t rfl ?_
  refine tr_seq ?_
  refine tr_reg ?_
  refine rs_v (v_assign rfl) rfl ?_
  refine rs_v (v_assign rfl) rfl ?_
  refine rs_nil ?_
  refine q_thn ?_
  refine tr_ret ?_
  refine q_thn_ret ?_
  refine q_blk_ret ?_
  refine q_thn_ret ?_
  refine q_ret (res_tmp2 rfl rfl rfl) ?_
  refine ⟨rfl, ?_, K⟩
  first | exact Bc | (simp [putRow, Value.cells, curL] at Bc ⊢; exact Bc)
theorem c_Step_3f (χ : Chi) (h : Heap) (c : Nat) (n x ge lt : Int) (b a : Bool) (T : TypeId) (hn : 0 ≤ n) (hn2 : n ≤ 9223372036854775807) (Bc : Blk h c (curL n x true b a) T) (hx : 0 ≤ x) (hx2 : x ≤ n) :
    Cl Try.prog χ 51 #[.pointer (some ⟨c, 0, none⟩), .int .u8 3, .int .i64 ge, .int .i64 lt] h
      (fun r h' => r = .tuple #[.bool true, .bool (inR (x - 1) n)] ∧ Blk h' c (curL n (x - 1) (inR (x - 1) n) (!inR (x - 1) n && false) (!inR (x - 1) n && !false)) T ∧ Keep [c] h h') := by
  refine cl_intro Try.func51 rfl rfl rfl ?_
  have K : Keep [c] h h := Keep.refl _ _
  refine tr_seq ?_
  refine tr_reg ?_
  refine rs_v (v_assign rfl) rfl ?_
  refine rs_v (v_assign rfl) rfl ?_
  refine rs_nil ?_
  refine q_thn ?_
  refine tr_seq ?_
  refine tr_seq ?_
  refine tr_reg ?_
  refine rs_v (v_move rfl) rfl ?_
  refine rs_nil ?_
  refine q_thn ?_
  refine tr_block ?_
  refine tr_seq ?_
  refine tr_seq ?_
  refine tr_reg ?_
  refine rs_v (v_eq rfl rfl) rfl ?_
  refine rs_v (v_assign rfl) rfl ?_
  refine rs_nil ?_
  refine q_thn ?_
  refine tr_if_f rfl ?_
  refine tr_reg ?_
  refine rs_v (v_eq rfl rfl) rfl ?_
  refine rs_v (v_assign rfl) rfl ?_
  refine rs_nil ?_
  refine q_thn ?_
  refine tr_if_f rfl ?_
  refine tr_seq ?_
  refine tr_reg ?_
  refine rs_v (v_eq rfl rfl) rfl ?_
  refine rs_v (v_assign rfl) rfl ?_
  refine rs_nil ?_
  refine q_thn ?_
  refine tr_if_f rfl ?_
  refine tr_seq ?_
  refine tr_reg ?_
  refine rs_v (v_eq rfl rfl) rfl ?_
  refine rs_v (v_assign rfl) rfl ?_
  refine rs_nil ?_
  refine q_thn ?_
  refine tr_if_f rfl ?_
  refine tr_seq ?_
  refine tr_reg ?_
  refine rs_v (v_eq rfl rfl) rfl ?_
  refine rs_v (v_assign rfl) rfl ?_
  refine rs_nil ?_
  refine q_thn ?_
  refine tr_if_f rfl ?_
  refine tr_seq ?_
  refine tr_reg ?_
  refine rs_v (v_eq rfl rfl) rfl ?_
  refine rs_v (v_assign rfl) rfl ?_
  refine rs_nil ?_
  refine q_thn ?_
  refine tr_if_t rfl ?_
  refine tr_seq ?_
  refine tr_seq ?_
  refine tr_reg ?_
  refine rs_v (v_move rfl) rfl ?_
  refine rs_v (v_nilCheck_ptr rfl) rfl ?_
  refine rs_v (v_fieldAddr fa_spec_SpanCursor_2 rfl) rfl ?_
  refine rs_v (v_load one_bool rfl (by exact Bc.cell _ rfl)) rfl ?_
  refine rs_v (v_not rfl) rfl ?_
  refine rs_v (v_move rfl) rfl ?_
  refine rs_gs rfl rfl rfl rfl ?_
  refine rs_gs rfl rfl rfl rfl ?_
  refine rs_gs rfl rfl rfl rfl ?_
  refine rs_gs rfl rfl rfl rfl ?_
  refine rs_gs rfl rfl rfl rfl ?_
  refine rs_v (v_pick_f rfl rfl) rfl ?_
  refine rs_nil ?_
  refine q_thn ?_
  refine tr_if_f rfl ?_
  refine tr_skip ?_
  refine q_thn ?_
  refine tr_reg ?_
  refine rs_v (v_move rfl) rfl ?_
  refine rs_v (v_move rfl) rfl ?_
  refine rs_v (v_nilCheck_ptr rfl) rfl ?_
  refine rs_v (v_fieldAddr fa_spec_SpanCursor_1 rfl) rfl ?_
  refine rs_v (v_load one_int rfl (by exact Bc.cell _ rfl)) rfl ?_
  refine rs_v (v_sub rfl rfl (by omega) (by omega)) rfl ?_
  refine rs_w (w_call (vs := [_, _, _]) ok_spec_SpanCursor_place rfl ⟨rfl, rfl, rfl, trivial⟩ (c_place χ _ c n (x - 1) x true b a false false T Bc)) rfl ?_
  rintro _ h1 ⟨rfl, Bc, K1⟩
  have K := K.new1 K1 (by left; simp); have Z1 := K1.1
  refine rs_nil ?_
  refine q_blk_n ?_
  refine q_thn ?_
  refine tr_seq ?_
  refine tr_quiet (by kernel_rfl) (by kernel_rfl) ?_
  refine rq_v (v_move rfl) ?_
  refine rq_v (v_nilCheck_ptr rfl) ?_
  refine rq_v (v_fieldAddr fa_spec_SpanCursor_2 rfl) ?_
  refine rq_v (v_load one_bool rfl (by exact Bc.cell _ rfl)) ?_
  refine rq_v (v_assign rfl) ?_
  refine rq_v (v_assign rfl) ?_
  refine rm_end ?_; simp only [endM, hypF, ofE, argE]
  refine q_thn ?_
  refine tr_ret ?_
  refine q_ret (res_tmp2 rfl rfl rfl) ?_
  refine ⟨rfl, ?_, K⟩
  first | exact Bc | (simp [putRow, Value.cells, curL] at Bc ⊢; exact Bc)
theorem c_Step_3b (χ : Chi) (h : Heap) (c : Nat) (n x ge lt : Int) (a : Bool) (T : TypeId) (hn : 0 ≤ n) (hn2 : n ≤ 9223372036854775807) (Bc : Blk h c (curL n x false true a) T) (hx : 0 ≤ x) (hx2 : x ≤ n) :
    Cl Try.prog χ 51 #[.pointer (some ⟨c, 0, none⟩), .int .u8 3, .int .i64 ge, .int .i64 lt] h
      (fun r h' => r = .tuple #[.bool true, .bool (inR (x - 1) n)] ∧ Blk h' c (curL n (x - 1) (inR (x - 1) n) (!inR (x - 1) n && false) (!inR (x - 1) n && !false)) T ∧ Keep [c] h h') := by
  refine cl_intro Try.func51 rfl rfl rfl ?_
  have K : Keep [c] h h := Keep.refl _ _
  refine tr_seq ?_
  refine tr_reg ?_
  refine rs_v (v_assign rfl) rfl ?_
  refine rs_v (v_assign rfl) rfl ?_
  refine rs_nil ?_
  refine q_thn ?_
  refine tr_seq ?_
  refine tr_seq ?_
  refine tr_reg ?_
  refine rs_v (v_move rfl) rfl ?_
  refine rs_nil ?_
  refine q_thn ?_
  refine tr_block ?_
  refine tr_seq ?_
  refine tr_seq ?_
  refine tr_reg ?_
  refine rs_v (v_eq rfl rfl) rfl ?_
  refine rs_v (v_assign rfl) rfl ?_
  refine rs_nil ?_
  refine q_thn ?_
  refine tr_if_f rfl ?_
  refine tr_reg ?_
  refine rs_v (v_eq rfl rfl) rfl ?_
  refine rs_v (v_assign rfl) rfl ?_
  refine rs_nil ?_
  refine q_thn ?_
  refine tr_if_f rfl ?_
  refine tr_seq ?_
  refine tr_reg ?_
  refine rs_v (v_eq rfl rfl) rfl ?_
  refine rs_v (v_assign rfl) rfl ?_
  refine rs_nil ?_
  refine q_thn ?_
  refine tr_if_f rfl ?_
  refine tr_seq ?_
  refine tr_reg ?_
  refine rs_v (v_eq rfl rfl) rfl ?_
  refine rs_v (v_assign rfl) rfl ?_
  refine rs_nil ?_
  refine q_thn ?_
  refine tr_if_f rfl ?_
  refine tr_seq ?_
  refine tr_reg ?_
  refine rs_v (v_eq rfl rfl) rfl ?_
  refine rs_v (v_assign rfl) rfl ?_
  refine rs_nil ?_
  refine q_thn ?_
  refine tr_if_f rfl ?_
  refine tr_seq ?_
  refine tr_reg ?_
  refine rs_v (v_eq rfl rfl) rfl ?_
  refine rs_v (v_assign rfl) rfl ?_
  refine rs_nil ?_
  refine q_thn ?_
  refine tr_if_t rfl ?_
  refine tr_seq ?_
  refine tr_seq ?_
  refine tr_reg ?_
  refine rs_v (v_move rfl) rfl ?_
  refine rs_v (v_nilCheck_ptr rfl) rfl ?_
  refine rs_v (v_fieldAddr fa_spec_SpanCursor_2 rfl) rfl ?_
  refine rs_v (v_load one_bool rfl (by exact Bc.cell _ rfl)) rfl ?_
  refine rs_v (v_not rfl) rfl ?_
  refine rs_v (v_move rfl) rfl ?_
  refine rs_gv rfl rfl (v_move rfl) rfl ?_
  refine rs_gv rfl rfl (v_nilCheck_ptr rfl) rfl ?_
  refine rs_gv rfl rfl (v_fieldAddr fa_spec_SpanCursor_3 rfl) rfl ?_
  refine rs_gv rfl rfl (v_load one_bool rfl (by exact Bc.cell _ rfl)) rfl ?_
  refine rs_gv rfl rfl (v_not rfl) rfl ?_
  refine rs_v (v_pick_t rfl rfl) rfl ?_
  refine rs_nil ?_
  refine q_thn ?_
  refine tr_if_f rfl ?_
  refine tr_skip ?_
  refine q_thn ?_
  refine tr_reg ?_
  refine rs_v (v_move rfl) rfl ?_
  refine rs_v (v_move rfl) rfl ?_
  refine rs_v (v_nilCheck_ptr rfl) rfl ?_
  refine rs_v (v_fieldAddr fa_spec_SpanCursor_1 rfl) rfl ?_
  refine rs_v (v_load one_int rfl (by exact Bc.cell _ rfl)) rfl ?_
  refine rs_v (v_sub rfl rfl (by omega) (by omega)) rfl ?_
  refine rs_w (w_call (vs := [_, _, _]) ok_spec_SpanCursor_place rfl ⟨rfl, rfl, rfl, trivial⟩ (c_place χ _ c n (x - 1) x false true a false false T Bc)) rfl ?_
  rintro _ h1 ⟨rfl, Bc, K1⟩
  have K := K.new1 K1 (by left; simp); have Z1 := K1.1
  refine rs_nil ?_
  refine q_blk_n ?_
  refine q_thn ?_
  refine tr_seq ?_
  refine tr_quiet (by kernel_rfl) (by kernel_rfl) ?_
  refine rq_v (v_move rfl) ?_
  refine rq_v (v_nilCheck_ptr rfl) ?_
  refine rq_v (v_fieldAddr fa_spec_SpanCursor_2 rfl) ?_
  refine rq_v (v_load one_bool rfl (by exact Bc.cell _ rfl)) ?_
  refine rq_v (v_assign rfl) ?_
  refine rq_v (v_assign rfl) ?_
  refine rm_end ?_; simp only [endM, hypF, ofE, argE]
  refine q_thn ?_
  refine tr_ret ?_
  refine q_ret (res_tmp2 rfl rfl rfl) ?_
  refine ⟨rfl, ?_, K⟩
  first | exact Bc | (simp [putRow, Value.cells, curL] at Bc ⊢; exact Bc)
theorem c_Step_3n (χ : Chi) (h : Heap) (c : Nat) (n x ge lt : Int) (a : Bool) (T : TypeId) (hn : 0 ≤ n) (hn2 : n ≤ 9223372036854775807) (Bc : Blk h c (curL n x false false a) T)  :
    Cl Try.prog χ 51 #[.pointer (some ⟨c, 0, none⟩), .int .u8 3, .int .i64 ge, .int .i64 lt] h
      (fun r h' => r = .tuple #[.bool false, .bool (false)] ∧ Blk h' c (curL n x false false a) T ∧ Keep [c] h h') := by
  refine cl_intro Try.func51 rfl rfl rfl ?_
  have K : Keep [c] h h := Keep.refl _ _
  refine tr_seq ?_
  refine tr_reg ?_
  refine rs_v (v_assign rfl) rfl ?_
  refine rs_v (v_assign rfl) rfl ?_
  refine rs_nil ?_
  refine q_thn ?_
  refine tr_seq ?_
  refine tr_seq ?_
  refine tr_reg ?_
  refine rs_v (v_move rfl) rfl ?_
  refine rs_nil ?_
  refine q_thn ?_
  refine tr_block ?_
  refine tr_seq ?_
  refine tr_seq ?_
  refine tr_reg ?_
  refine rs_v (v_eq rfl rfl) rfl ?_
  refine rs_v (v_assign rfl) rfl ?_
  refine rs_nil ?_
  refine q_thn ?_
  refine tr_if_f rfl ?_
  refine tr_reg ?_
  refine rs_v (v_eq rfl rfl) rfl ?_
  refine rs_v (v_assign rfl) rfl ?_
  refine rs_nil ?_
  refine q_thn ?_
  refine tr_if_f rfl ?_
  refine tr_seq ?_
  refine tr_reg ?_
  refine rs_v (v_eq rfl rfl) rfl ?_
  refine rs_v (v_assign rfl) rfl ?_
  refine rs_nil ?_
  refine q_thn ?_
  refine tr_if_f rfl ?_
  refine tr_seq ?_
  refine tr_reg ?_
  refine rs_v (v_eq rfl rfl) rfl ?_
  refine rs_v (v_assign rfl) rfl ?_
  refine rs_nil ?_
  refine q_thn ?_
  refine tr_if_f rfl ?_
  refine tr_seq ?_
  refine tr_reg ?_
  refine rs_v (v_eq rfl rfl) rfl ?_
  refine rs_v (v_assign rfl) rfl ?_
  refine rs_nil ?_
  refine q_thn ?_
  refine tr_if_f rfl ?_
  refine tr_seq ?_
  refine tr_reg ?_
  refine rs_v (v_eq rfl rfl) rfl ?_
  refine rs_v (v_assign rfl) rfl ?_
  refine rs_nil ?_
  refine q_thn ?_
  refine tr_if_t rfl ?_
  refine tr_seq ?_
  refine tr_seq ?_
  refine tr_reg ?_
  refine rs_v (v_move rfl) rfl ?_
  refine rs_v (v_nilCheck_ptr rfl) rfl ?_
  refine rs_v (v_fieldAddr fa_spec_SpanCursor_2 rfl) rfl ?_
  refine rs_v (v_load one_bool rfl (by exact Bc.cell _ rfl)) rfl ?_
  refine rs_v (v_not rfl) rfl ?_
  refine rs_v (v_move rfl) rfl ?_
  refine rs_gv rfl rfl (v_move rfl) rfl ?_
  refine rs_gv rfl rfl (v_nilCheck_ptr rfl) rfl ?_
  refine rs_gv rfl rfl (v_fieldAddr fa_spec_SpanCursor_3 rfl) rfl ?_
  refine rs_gv rfl rfl (v_load one_bool rfl (by exact Bc.cell _ rfl)) rfl ?_
  refine rs_gv rfl rfl (v_not rfl) rfl ?_
  refine rs_v (v_pick_t rfl rfl) rfl ?_
  refine rs_nil ?_
  refine q_thn ?_
  refine tr_if_t rfl ?_
  refine tr_seq ?_
  refine tr_reg ?_
  refine rs_v (v_assign rfl) rfl ?_
  refine rs_v (v_assign rfl) rfl ?_
  refine rs_nil ?_
  refine q_thn ?_
  refine tr_ret ?_
  refine q_thn_ret ?_
  refine q_blk_ret ?_
  refine q_thn_ret ?_
  refine q_ret (res_tmp2 rfl rfl rfl) ?_
  refine ⟨rfl, ?_, K⟩
  first | exact Bc | (simp [putRow, Value.cells, curL] at Bc ⊢; exact Bc)
theorem c_Step_x (χ : Chi) (h : Heap) (c : Nat) (n x ge lt : Int) (f b a : Bool) (T : TypeId) (hn : 0 ≤ n) (hn2 : n ≤ 9223372036854775807) (Bc : Blk h c (curL n x f b a) T) (op : Int) (o0 : decide (op = 0) = false) (o1 : decide (op = 1) = false) (o2 : decide (op = 2) = false) (o3 : decide (op = 3) = false) (o4 : decide (op = 4) = false) (o5 : decide (op = 5) = false) :
    Cl Try.prog χ 51 #[.pointer (some ⟨c, 0, none⟩), .int .u8 op, .int .i64 ge, .int .i64 lt] h
      (fun r h' => r = .tuple #[.bool false, .bool (false)] ∧ Blk h' c (curL n x f b a) T ∧ Keep [c] h h') := by
  refine cl_intro Try.func51 rfl rfl rfl ?_
  have K : Keep [c] h h := Keep.refl _ _
  refine tr_seq ?_
  refine tr_reg ?_
  refine rs_v (v_assign rfl) rfl ?_
  refine rs_v (v_assign rfl) rfl ?_
  refine rs_nil ?_
  refine q_thn ?_
  refine tr_seq ?_
  refine tr_seq ?_
  refine tr_reg ?_
  refine rs_v (v_move rfl) rfl ?_
  refine rs_nil ?_
  refine q_thn ?_
  refine tr_block ?_
  refine tr_seq ?_
  refine tr_seq ?_
  refine tr_reg ?_
  refine rs_v (v_eq rfl rfl) rfl ?_
  refine rs_v (v_assign rfl) rfl ?_
  refine rs_nil ?_
  refine q_thn ?_
  refine tr_if_f (lkb o0) ?_
  refine tr_reg ?_
  refine rs_v (v_eq rfl rfl) rfl ?_
  refine rs_v (v_assign rfl) rfl ?_
  refine rs_nil ?_
  refine q_thn ?_
  refine tr_if_f (lkb o1) ?_
  refine tr_seq ?_
  refine tr_reg ?_
  refine rs_v (v_eq rfl rfl) rfl ?_
  refine rs_v (v_assign rfl) rfl ?_
  refine rs_nil ?_
  refine q_thn ?_
  refine tr_if_f (lkb o4) ?_
  refine tr_seq ?_
  refine tr_reg ?_
  refine rs_v (v_eq rfl rfl) rfl ?_
  refine rs_v (v_assign rfl) rfl ?_
  refine rs_nil ?_
  refine q_thn ?_
  refine tr_if_f (lkb o5) ?_
  refine tr_seq ?_
  refine tr_reg ?_
  refine rs_v (v_eq rfl rfl) rfl ?_
  refine rs_v (v_assign rfl) rfl ?_
  refine rs_nil ?_
  refine q_thn ?_
  refine tr_if_f (lkb o2) ?_
  refine tr_seq ?_
  refine tr_reg ?_
  refine rs_v (v_eq rfl rfl) rfl ?_
  refine rs_v (v_assign rfl) rfl ?_
  refine rs_nil ?_
  refine q_thn ?_
  refine tr_if_f (lkb o3) ?_
  refine tr_seq ?_
  refine tr_reg ?_
  refine rs_v (v_assign rfl) rfl ?_
  refine rs_v (v_assign rfl) rfl ?_
  refine rs_nil ?_
  refine q_thn ?_
  refine tr_ret ?_
  refine q_blk_ret ?_
  refine q_thn_ret ?_
  refine q_ret (res_tmp2 rfl rfl rfl) ?_
  refine ⟨rfl, ?_, K⟩
  first | exact Bc | (simp [putRow, Value.cells, curL] at Bc ⊢; exact Bc)
def isAt : Pos → Bool
  | .pt _ => true
  | _ => false
def isBehind : Pos → Bool
  | .behind => true
  | _ => false
def isAhead : Pos → Bool
  | .ahead => true
  | _ => false
def posX (n : Int) : Pos → Int → Prop
  | .pt j, x => x = j ∧ x < n
  | .behind, x => x = n
  | .ahead, x => x = -1
  | .nowhere, _ => True
/-- The reference's cursor stands at p in a list of n. -/
def RCur (h : Heap) (c : Nat) (n : Int) (p : Pos) (T : TypeId) : Prop := ∃ x : Int, Blk h c (curL n x (isAt p) (isBehind p) (isAhead p)) T ∧ posX n p x
theorem inR_yes {x n : Int} (h : 0 ≤ x) (h2 : x < n) : inR x n = true := by simp only [inR, decide_eq_true h, decide_eq_true h2]; rfl
theorem inR_no {x n : Int} (h : ¬ (0 ≤ x ∧ x < n)) : inR x n = false := by
  simp only [inR]
  by_cases h1 : 0 ≤ x
  · have h2 : ¬ x < n := fun h3 => h ⟨h1, h3⟩
    simp only [decide_eq_true h1, decide_eq_false h2]; rfl
  · simp only [decide_eq_false h1]; rfl
theorem step_done {W : List SpanD} {p p' : Pos} {s : StepD} {h h' : Heap} {c : Nat} {n : Int} {T : TypeId} (b : Bool) (hs : stepP W p s = some p') (hb : (cur W p').isSome = b) (hr : RCur h' c n p' T) (K : Keep [c] h h') :
    Value.tuple #[.bool true, .bool b] = .tuple #[.bool (ansOf W (stepP W p s)).done, .bool (ansOf W (stepP W p s)).ok] ∧ RCur h' c n ((stepP W p s).getD p) T ∧ Keep [c] h h' := by
  rw [hs]; subst hb; exact ⟨rfl, hr, K⟩
theorem step_not {W : List SpanD} {p : Pos} {s : StepD} {h h' : Heap} {c : Nat} {n : Int} {T : TypeId} (hs : stepP W p s = none) (hr : RCur h' c n p T) (K : Keep [c] h h') :
    Value.tuple #[.bool false, .bool false] = .tuple #[.bool (ansOf W (stepP W p s)).done, .bool (ansOf W (stepP W p s)).ok] ∧ RCur h' c n ((stepP W p s).getD p) T ∧ Keep [c] h h' := by
  rw [hs]; exact ⟨rfl, hr, K⟩
theorem rcur_pt {h : Heap} {c : Nat} {n x : Int} {j : Nat} {T : TypeId} {b a : Bool} (hx : x = j) (hn : x < n) (B : Blk h c (curL n x (inR x n) (!inR x n && b) (!inR x n && a)) T) : RCur h c n (.pt j) T := by
  have e : inR x n = true := inR_yes (by omega) hn
  rw [e] at B
  exact ⟨x, B, hx, hn⟩
theorem rcur_behind {h : Heap} {c : Nat} {n x : Int} {T : TypeId} (hx : x = n) (B : Blk h c (curL n x (inR x n) (!inR x n && true) (!inR x n && !true)) T) : RCur h c n .behind T := by
  have e : inR x n = false := inR_no (by omega)
  rw [e] at B
  exact ⟨x, B, hx⟩
theorem rcur_ahead {h : Heap} {c : Nat} {n x : Int} {T : TypeId} (hx : x = -1) (B : Blk h c (curL n x (inR x n) (!inR x n && false) (!inR x n && !false)) T) : RCur h c n .ahead T := by
  have e : inR x n = false := inR_no (by omega)
  rw [e] at B
  exact ⟨x, B, hx⟩
theorem cur_pt {W : List SpanD} {x n : Int} {j : Nat} (hx : x = j) (hn : n = W.length) : (cur W (.pt j)).isSome = inR x n := by
  by_cases hj : j < W.length
  · rw [inR_yes (by omega) (by omega)]; simp [cur, hj]
  · rw [inR_no (by omega)]; simp [cur]; omega
theorem c_Step (χ : Chi) (h : Heap) (c : Nat) (W : List SpanD) (p : Pos) (s : StepD) (T : TypeId) (hn2 : W.length ≤ 9223372036854775807) (hc : RCur h c W.length p T) :
    Cl Try.prog χ 51 #[.pointer (some ⟨c, 0, none⟩), .int .u8 s.op, .int .i64 (geI W s.key : Int), .int .i64 ((ltI W s.key : Int) - 1)] h
      (fun r h' => r = .tuple #[.bool (ansOf W (stepP W p s)).done, .bool (ansOf W (stepP W p s)).ok] ∧ RCur h' c W.length ((stepP W p s).getD p) T ∧ Keep [c] h h') := by
  obtain ⟨x, Bc, hp⟩ := hc
  obtain ⟨op, key⟩ := s
  have hge := geI_le W key
  have hlt := ltI_le W key
  by_cases o0 : op = 0
  · subst o0
    refine (c_Step_0 χ h c W.length x _ _ _ _ _ T (by omega) (by omega) Bc).mono ?_
    rintro r h' ⟨rfl, B, K⟩
    by_cases hl : W.length = 0
    · exact step_done _ (p' := .nowhere) (by simp [stepP, pFirst, hl]) (by rw [inR_no (by omega)]; rfl) ⟨0, by rw [inR_no (by omega)] at B; exact B, trivial⟩ K
    · exact step_done _ (p' := .pt 0) (by simp [stepP, pFirst, hl]) (cur_pt rfl rfl) ⟨0, by rw [inR_yes (by omega) (by omega)] at B; exact B, rfl, by omega⟩ K
  by_cases o1 : op = 1
  · subst o1
    refine (c_Step_1 χ h c W.length x _ _ _ _ _ T (by omega) (by omega) Bc).mono ?_
    rintro r h' ⟨rfl, B, K⟩
    by_cases hl : W.length = 0
    · exact step_done _ (p' := .nowhere) (by simp [stepP, pLast, hl]) (by rw [inR_no (by omega)]; rfl) ⟨_, by rw [inR_no (by omega)] at B; exact B, trivial⟩ K
    · exact step_done _ (p' := .pt (W.length - 1)) (by simp [stepP, pLast, hl]) (cur_pt (by omega) rfl) ⟨_, by rw [inR_yes (by omega) (by omega)] at B; exact B, by omega, by omega⟩ K
  by_cases o4 : op = 4
  · subst o4
    refine (c_Step_4 χ h c W.length x _ _ _ _ _ T (by omega) (by omega) Bc).mono ?_
    rintro r h' ⟨rfl, B, K⟩
    simp only at B K
    by_cases hl : geI W key < W.length
    · exact step_done _ (p' := .pt (geI W key)) (by simp [stepP, pGE, hl]) (cur_pt rfl rfl) (rcur_pt rfl (by omega) B) K
    · exact step_done _ (p' := .behind) (by simp [stepP, pGE, hl]) (by simp only; rw [inR_no (by omega)]; rfl) (rcur_behind (by omega) B) K
  by_cases o5 : op = 5
  · subst o5
    refine (c_Step_5 χ h c W.length x _ _ _ _ _ T (by omega) (by omega) Bc).mono ?_
    rintro r h' ⟨rfl, B, K⟩
    simp only at B K
    by_cases hl : ltI W key = 0
    · exact step_done _ (p' := .ahead) (by simp [stepP, pLT, hl]) (by simp only; rw [inR_no (by omega)]; rfl) (rcur_ahead (by omega) B) K
    · exact step_done _ (p' := .pt (ltI W key - 1)) (by simp [stepP, pLT, hl]) (cur_pt (by simp only; omega) rfl) (rcur_pt (by omega) (by omega) B) K
  by_cases o2 : op = 2
  · subst o2
    cases p with
    | pt j =>
      have hx1 : x = j := hp.1
      have hx2 : x < (W.length : Int) := hp.2
      refine (c_Step_2f χ h c W.length x _ _ _ _ T (by omega) (by omega) Bc (by omega) (by omega)).mono ?_
      rintro r h' ⟨rfl, B, K⟩
      by_cases hl : j + 1 < W.length
      · exact step_done _ (p' := .pt (j + 1)) (by simp [stepP, canNext, pNext, hl]) (cur_pt (by omega) rfl) (rcur_pt (by omega) (by omega) B) K
      · exact step_done _ (p' := .behind) (by simp [stepP, canNext, pNext, hl]) (by rw [inR_no (by omega)]; rfl) (rcur_behind (by omega) B) K
    | ahead =>
      have hx1 : x = -1 := hp
      refine (c_Step_2a χ h c W.length x _ _ _ T (by omega) (by omega) Bc (by omega) (by omega)).mono ?_
      rintro r h' ⟨rfl, B, K⟩
      by_cases hl : 0 < W.length
      · exact step_done _ (p' := .pt 0) (by simp [stepP, canNext, pNext, hl]) (cur_pt (by omega) rfl) (rcur_pt (by omega) (by omega) B) K
      · exact step_done _ (p' := .behind) (by simp [stepP, canNext, pNext, hl]) (by rw [inR_no (by omega)]; rfl) (rcur_behind (by omega) B) K
    | behind =>
      refine (c_Step_2n χ h c W.length x _ _ _ T (by omega) (by omega) Bc).mono ?_
      rintro r h' ⟨rfl, B, K⟩
      exact step_not (by simp [stepP, canNext]) ⟨x, B, hp⟩ K
    | nowhere =>
      refine (c_Step_2n χ h c W.length x _ _ _ T (by omega) (by omega) Bc).mono ?_
      rintro r h' ⟨rfl, B, K⟩
      exact step_not (by simp [stepP, canNext]) ⟨x, B, hp⟩ K
  by_cases o3 : op = 3
  · subst o3
    cases p with
    | pt j =>
      have hx1 : x = j := hp.1
      have hx2 : x < (W.length : Int) := hp.2
      refine (c_Step_3f χ h c W.length x _ _ _ _ T (by omega) (by omega) Bc (by omega) (by omega)).mono ?_
      rintro r h' ⟨rfl, B, K⟩
      by_cases hl : j = 0
      · exact step_done _ (p' := .ahead) (by simp [stepP, canPrev, pPrev, hl]) (by rw [inR_no (by omega)]; rfl) (rcur_ahead (by omega) B) K
      · exact step_done _ (p' := .pt (j - 1)) (by simp [stepP, canPrev, pPrev, hl]) (cur_pt (by omega) rfl) (rcur_pt (by omega) (by omega) B) K
    | behind =>
      have hx1 : x = W.length := hp
      refine (c_Step_3b χ h c W.length x _ _ _ T (by omega) (by omega) Bc (by omega) (by omega)).mono ?_
      rintro r h' ⟨rfl, B, K⟩
      by_cases hl : W.length = 0
      · exact step_done _ (p' := .ahead) (by simp [stepP, canPrev, pPrev, hl]) (by rw [inR_no (by omega)]; rfl) (rcur_ahead (by omega) B) K
      · exact step_done _ (p' := .pt (W.length - 1)) (by simp [stepP, canPrev, pPrev, hl]) (cur_pt (by omega) rfl) (rcur_pt (by omega) (by omega) B) K
    | ahead =>
      refine (c_Step_3n χ h c W.length x _ _ _ T (by omega) (by omega) Bc).mono ?_
      rintro r h' ⟨rfl, B, K⟩
      exact step_not (by simp [stepP, canPrev]) ⟨x, B, hp⟩ K
    | nowhere =>
      refine (c_Step_3n χ h c W.length x _ _ _ T (by omega) (by omega) Bc).mono ?_
      rintro r h' ⟨rfl, B, K⟩
      exact step_not (by simp [stepP, canPrev]) ⟨x, B, hp⟩ K
  · refine (c_Step_x χ h c W.length x _ _ _ _ _ T (by omega) (by omega) Bc _ (decide_eq_false o0) (decide_eq_false o1) (decide_eq_false o2) (decide_eq_false o3) (decide_eq_false o4) (decide_eq_false o5)).mono ?_
    rintro r h' ⟨rfl, B, K⟩
    exact step_not (by simp [stepP, o0, o1, o2, o3, o4, o5]) ⟨x, B, hp⟩ K
end Go.Proofs.Ytgebfbnndgjkiaa
