/- Fifteenth part: which steps the package takes. Conditions: those that each theorem names. -/
import Derived.Test.YtgebfbnndgjkiaaW14
set_option linter.unusedVariables false
set_option linter.unusedSimpArgs false
namespace Go.Proofs.Ytgebfbnndgjkiaa
open Go.Tess Go.RowKit
set_option maxRecDepth 100000

theorem c_taken_0 (χ : Chi) (h : Heap) (ok : Bool) (last : Int)  :
    Cl Try.prog χ 85 #[.int .u8 0, .bool ok, .int .u8 last] h (fun r h' => r = .bool true ∧ h' = h) := by
  refine cl_intro Try.func85 rfl rfl rfl ?_
  have K : Keep [] h h := Keep.refl _ _
  refine tr_seq ?_
  refine tr_reg ?_
  refine rs_v (v_assign rfl) rfl ?_
  refine rs_nil ?_
  refine q_thn ?_
  refine tr_seq ?_
  refine tr_seq ?_
  refine tr_reg ?_
  refine rs_v (v_move rfl) rfl ?_
  refine rs_nil ?_
  refine q_thn ?_
  refine tr_block ?_
  refine tr_seq ?_
  refine tr_seq ?_
  refine tr_reg ?_
  refine rs_v (v_eq rfl rfl) rfl ?_
  refine rs_v (v_assign rfl) rfl ?_
  refine rs_nil ?_
  refine q_thn ?_
  refine tr_if_t rfl ?_
  refine tr_skip ?_
  refine q_thn ?_
  refine tr_if_t rfl ?_
  refine tr_seq ?_
  refine tr_reg ?_
  refine rs_v (v_assign rfl) rfl ?_
  refine rs_nil ?_
  refine q_thn ?_
  refine tr_ret ?_
  refine q_blk_ret ?_
  refine q_thn_ret ?_
  refine q_ret (res_tmp rfl rfl) ?_
  exact ⟨rfl, rfl⟩
theorem c_taken_1 (χ : Chi) (h : Heap) (ok : Bool) (last : Int)  :
    Cl Try.prog χ 85 #[.int .u8 1, .bool ok, .int .u8 last] h (fun r h' => r = .bool true ∧ h' = h) := by
  refine cl_intro Try.func85 rfl rfl rfl ?_
  have K : Keep [] h h := Keep.refl _ _
  refine tr_seq ?_
  refine tr_reg ?_
  refine rs_v (v_assign rfl) rfl ?_
  refine rs_nil ?_
  refine q_thn ?_
  refine tr_seq ?_
  refine tr_seq ?_
  refine tr_reg ?_
  refine rs_v (v_move rfl) rfl ?_
  refine rs_nil ?_
  refine q_thn ?_
  refine tr_block ?_
  refine tr_seq ?_
  refine tr_seq ?_
  refine tr_reg ?_
  refine rs_v (v_eq rfl rfl) rfl ?_
  refine rs_v (v_assign rfl) rfl ?_
  refine rs_nil ?_
  refine q_thn ?_
  refine tr_if_f rfl ?_
  refine tr_seq ?_
  refine tr_reg ?_
  refine rs_v (v_eq rfl rfl) rfl ?_
  refine rs_v (v_assign rfl) rfl ?_
  refine rs_nil ?_
  refine q_thn ?_
  refine tr_if_t rfl ?_
  refine tr_skip ?_
  refine q_thn ?_
  refine tr_if_t rfl ?_
  refine tr_seq ?_
  refine tr_reg ?_
  refine rs_v (v_assign rfl) rfl ?_
  refine rs_nil ?_
  refine q_thn ?_
  refine tr_ret ?_
  refine q_blk_ret ?_
  refine q_thn_ret ?_
  refine q_ret (res_tmp rfl rfl) ?_
  exact ⟨rfl, rfl⟩
theorem c_taken_4 (χ : Chi) (h : Heap) (ok : Bool) (last : Int)  :
    Cl Try.prog χ 85 #[.int .u8 4, .bool ok, .int .u8 last] h (fun r h' => r = .bool true ∧ h' = h) := by
  refine cl_intro Try.func85 rfl rfl rfl ?_
  have K : Keep [] h h := Keep.refl _ _
  refine tr_seq ?_
  refine tr_reg ?_
  refine rs_v (v_assign rfl) rfl ?_
  refine rs_nil ?_
  refine q_thn ?_
  refine tr_seq ?_
  refine tr_seq ?_
  refine tr_reg ?_
  refine rs_v (v_move rfl) rfl ?_
  refine rs_nil ?_
  refine q_thn ?_
  refine tr_block ?_
  refine tr_seq ?_
  refine tr_seq ?_
  refine tr_reg ?_
  refine rs_v (v_eq rfl rfl) rfl ?_
  refine rs_v (v_assign rfl) rfl ?_
  refine rs_nil ?_
  refine q_thn ?_
  refine tr_if_f rfl ?_
  refine tr_seq ?_
  refine tr_reg ?_
  refine rs_v (v_eq rfl rfl) rfl ?_
  refine rs_v (v_assign rfl) rfl ?_
  refine rs_nil ?_
  refine q_thn ?_
  refine tr_if_f rfl ?_
  refine tr_seq ?_
  refine tr_reg ?_
  refine rs_v (v_eq rfl rfl) rfl ?_
  refine rs_v (v_assign rfl) rfl ?_
  refine rs_nil ?_
  refine q_thn ?_
  refine tr_if_t rfl ?_
  refine tr_skip ?_
  refine q_thn ?_
  refine tr_if_t rfl ?_
  refine tr_seq ?_
  refine tr_reg ?_
  refine rs_v (v_assign rfl) rfl ?_
  refine rs_nil ?_
  refine q_thn ?_
  refine tr_ret ?_
  refine q_blk_ret ?_
  refine q_thn_ret ?_
  refine q_ret (res_tmp rfl rfl) ?_
  exact ⟨rfl, rfl⟩
theorem c_taken_5 (χ : Chi) (h : Heap) (ok : Bool) (last : Int)  :
    Cl Try.prog χ 85 #[.int .u8 5, .bool ok, .int .u8 last] h (fun r h' => r = .bool true ∧ h' = h) := by
  refine cl_intro Try.func85 rfl rfl rfl ?_
  have K : Keep [] h h := Keep.refl _ _
  refine tr_seq ?_
  refine tr_reg ?_
  refine rs_v (v_assign rfl) rfl ?_
  refine rs_nil ?_
  refine q_thn ?_
  refine tr_seq ?_
  refine tr_seq ?_
  refine tr_reg ?_
  refine rs_v (v_move rfl) rfl ?_
  refine rs_nil ?_
  refine q_thn ?_
  refine tr_block ?_
  refine tr_seq ?_
  refine tr_seq ?_
  refine tr_reg ?_
  refine rs_v (v_eq rfl rfl) rfl ?_
  refine rs_v (v_assign rfl) rfl ?_
  refine rs_nil ?_
  refine q_thn ?_
  refine tr_if_f rfl ?_
  refine tr_seq ?_
  refine tr_reg ?_
  refine rs_v (v_eq rfl rfl) rfl ?_
  refine rs_v (v_assign rfl) rfl ?_
  refine rs_nil ?_
  refine q_thn ?_
  refine tr_if_f rfl ?_
  refine tr_seq ?_
  refine tr_reg ?_
  refine rs_v (v_eq rfl rfl) rfl ?_
  refine rs_v (v_assign rfl) rfl ?_
  refine rs_nil ?_
  refine q_thn ?_
  refine tr_if_f rfl ?_
  refine tr_reg ?_
  refine rs_v (v_eq rfl rfl) rfl ?_
  refine rs_v (v_assign rfl) rfl ?_
  refine rs_nil ?_
  refine q_thn ?_
  refine tr_if_t rfl ?_
  refine tr_seq ?_
  refine tr_reg ?_
  refine rs_v (v_assign rfl) rfl ?_
  refine rs_nil ?_
  refine q_thn ?_
  refine tr_ret ?_
  refine q_blk_ret ?_
  refine q_thn_ret ?_
  refine q_ret (res_tmp rfl rfl) ?_
  exact ⟨rfl, rfl⟩
theorem c_taken_2t (χ : Chi) (h : Heap) (last : Int)  :
    Cl Try.prog χ 85 #[.int .u8 2, .bool true, .int .u8 last] h (fun r h' => r = .bool true ∧ h' = h) := by
  refine cl_intro Try.func85 rfl rfl rfl ?_
  have K : Keep [] h h := Keep.refl _ _
  refine tr_seq ?_
  refine tr_reg ?_
  refine rs_v (v_assign rfl) rfl ?_
  refine rs_nil ?_
  refine q_thn ?_
  refine tr_seq ?_
  refine tr_seq ?_
  refine tr_reg ?_
  refine rs_v (v_move rfl) rfl ?_
  refine rs_nil ?_
  refine q_thn ?_
  refine tr_block ?_
  refine tr_seq ?_
  refine tr_seq ?_
  refine tr_reg ?_
  refine rs_v (v_eq rfl rfl) rfl ?_
  refine rs_v (v_assign rfl) rfl ?_
  refine rs_nil ?_
  refine q_thn ?_
  refine tr_if_f rfl ?_
  refine tr_seq ?_
  refine tr_reg ?_
  refine rs_v (v_eq rfl rfl) rfl ?_
  refine rs_v (v_assign rfl) rfl ?_
  refine rs_nil ?_
  refine q_thn ?_
  refine tr_if_f rfl ?_
  refine tr_seq ?_
  refine tr_reg ?_
  refine rs_v (v_eq rfl rfl) rfl ?_
  refine rs_v (v_assign rfl) rfl ?_
  refine rs_nil ?_
  refine q_thn ?_
  refine tr_if_f rfl ?_
  refine tr_reg ?_
  refine rs_v (v_eq rfl rfl) rfl ?_
  refine rs_v (v_assign rfl) rfl ?_
  refine rs_nil ?_
  refine q_thn ?_
  refine tr_if_f rfl ?_
  refine tr_seq ?_
  refine tr_reg ?_
  refine rs_v (v_eq rfl rfl) rfl ?_
  refine rs_v (v_assign rfl) rfl ?_
  refine rs_nil ?_
  refine q_thn ?_
  refine tr_if_t rfl ?_
  refine tr_seq ?_
  refine tr_reg ?_
  refine rs_v (v_move rfl) rfl ?_
  refine rs_v (v_move rfl) rfl ?_
  refine rs_gs rfl rfl rfl rfl ?_
  refine rs_gs rfl rfl rfl rfl ?_
  refine rs_v (v_pick_t rfl rfl) rfl ?_
  refine rs_v (v_move rfl) rfl ?_
  refine rs_gs rfl rfl rfl rfl ?_
  refine rs_gs rfl rfl rfl rfl ?_
  refine rs_v (v_pick_t rfl rfl) rfl ?_
  refine rs_v (v_assign rfl) rfl ?_
  refine rs_nil ?_
  refine q_thn ?_
  refine tr_ret ?_
  refine q_blk_ret ?_
  refine q_thn_ret ?_
  refine q_ret (res_tmp rfl rfl) ?_
  exact ⟨rfl, rfl⟩
theorem c_taken_2f0 (χ : Chi) (h : Heap)  :
    Cl Try.prog χ 85 #[.int .u8 2, .bool false, .int .u8 0] h (fun r h' => r = .bool false ∧ h' = h) := by
  refine cl_intro Try.func85 rfl rfl rfl ?_
  have K : Keep [] h h := Keep.refl _ _
  refine tr_seq ?_
  refine tr_reg ?_
  refine rs_v (v_assign rfl) rfl ?_
  refine rs_nil ?_
  refine q_thn ?_
  refine tr_seq ?_
  refine tr_seq ?_
  refine tr_reg ?_
  refine rs_v (v_move rfl) rfl ?_
  refine rs_nil ?_
  refine q_thn ?_
  refine tr_block ?_
  refine tr_seq ?_
  refine tr_seq ?_
  refine tr_reg ?_
  refine rs_v (v_eq rfl rfl) rfl ?_
  refine rs_v (v_assign rfl) rfl ?_
  refine rs_nil ?_
  refine q_thn ?_
  refine tr_if_f rfl ?_
  refine tr_seq ?_
  refine tr_reg ?_
  refine rs_v (v_eq rfl rfl) rfl ?_
  refine rs_v (v_assign rfl) rfl ?_
  refine rs_nil ?_
  refine q_thn ?_
  refine tr_if_f rfl ?_
  refine tr_seq ?_
  refine tr_reg ?_
  refine rs_v (v_eq rfl rfl) rfl ?_
  refine rs_v (v_assign rfl) rfl ?_
  refine rs_nil ?_
  refine q_thn ?_
  refine tr_if_f rfl ?_
  refine tr_reg ?_
  refine rs_v (v_eq rfl rfl) rfl ?_
  refine rs_v (v_assign rfl) rfl ?_
  refine rs_nil ?_
  refine q_thn ?_
  refine tr_if_f rfl ?_
  refine tr_seq ?_
  refine tr_reg ?_
  refine rs_v (v_eq rfl rfl) rfl ?_
  refine rs_v (v_assign rfl) rfl ?_
  refine rs_nil ?_
  refine q_thn ?_
  refine tr_if_t rfl ?_
  refine tr_seq ?_
  refine tr_reg ?_
  refine rs_v (v_move rfl) rfl ?_
  refine rs_v (v_move rfl) rfl ?_
  refine rs_gv rfl rfl (v_move rfl) rfl ?_
  refine rs_gv rfl rfl (v_eq rfl rfl) rfl ?_
  refine rs_v (v_pick_f rfl rfl) rfl ?_
  refine rs_v (v_move rfl) rfl ?_
  refine rs_gv rfl rfl (v_move rfl) rfl ?_
  refine rs_gv rfl rfl (v_eq rfl rfl) rfl ?_
  refine rs_v (v_pick_f rfl rfl) rfl ?_
  refine rs_v (v_assign rfl) rfl ?_
  refine rs_nil ?_
  refine q_thn ?_
  refine tr_ret ?_
  refine q_blk_ret ?_
  refine q_thn_ret ?_
  refine q_ret (res_tmp rfl rfl) ?_
  exact ⟨rfl, rfl⟩
theorem c_taken_2f1 (χ : Chi) (h : Heap)  :
    Cl Try.prog χ 85 #[.int .u8 2, .bool false, .int .u8 1] h (fun r h' => r = .bool false ∧ h' = h) := by
  refine cl_intro Try.func85 rfl rfl rfl ?_
  have K : Keep [] h h := Keep.refl _ _
  refine tr_seq ?_
  refine tr_reg ?_
  refine rs_v (v_assign rfl) rfl ?_
  refine rs_nil ?_
  refine q_thn ?_
  refine tr_seq ?_
  refine tr_seq ?_
  refine tr_reg ?_
  refine rs_v (v_move rfl) rfl ?_
  refine rs_nil ?_
  refine q_thn ?_
  refine tr_block ?_
  refine tr_seq ?_
  refine tr_seq ?_
  refine tr_reg ?_
  refine rs_v (v_eq rfl rfl) rfl ?_
  refine rs_v (v_assign rfl) rfl ?_
  refine rs_nil ?_
  refine q_thn ?_
  refine tr_if_f rfl ?_
  refine tr_seq ?_
  refine tr_reg ?_
  refine rs_v (v_eq rfl rfl) rfl ?_
  refine rs_v (v_assign rfl) rfl ?_
  refine rs_nil ?_
  refine q_thn ?_
  refine tr_if_f rfl ?_
  refine tr_seq ?_
  refine tr_reg ?_
  refine rs_v (v_eq rfl rfl) rfl ?_
  refine rs_v (v_assign rfl) rfl ?_
  refine rs_nil ?_
  refine q_thn ?_
  refine tr_if_f rfl ?_
  refine tr_reg ?_
  refine rs_v (v_eq rfl rfl) rfl ?_
  refine rs_v (v_assign rfl) rfl ?_
  refine rs_nil ?_
  refine q_thn ?_
  refine tr_if_f rfl ?_
  refine tr_seq ?_
  refine tr_reg ?_
  refine rs_v (v_eq rfl rfl) rfl ?_
  refine rs_v (v_assign rfl) rfl ?_
  refine rs_nil ?_
  refine q_thn ?_
  refine tr_if_t rfl ?_
  refine tr_seq ?_
  refine tr_reg ?_
  refine rs_v (v_move rfl) rfl ?_
  refine rs_v (v_move rfl) rfl ?_
  refine rs_gv rfl rfl (v_move rfl) rfl ?_
  refine rs_gv rfl rfl (v_eq rfl rfl) rfl ?_
  refine rs_v (v_pick_f rfl rfl) rfl ?_
  refine rs_v (v_move rfl) rfl ?_
  refine rs_gv rfl rfl (v_move rfl) rfl ?_
  refine rs_gv rfl rfl (v_eq rfl rfl) rfl ?_
  refine rs_v (v_pick_f rfl rfl) rfl ?_
  refine rs_v (v_assign rfl) rfl ?_
  refine rs_nil ?_
  refine q_thn ?_
  refine tr_ret ?_
  refine q_blk_ret ?_
  refine q_thn_ret ?_
  refine q_ret (res_tmp rfl rfl) ?_
  exact ⟨rfl, rfl⟩
theorem c_taken_2f2 (χ : Chi) (h : Heap)  :
    Cl Try.prog χ 85 #[.int .u8 2, .bool false, .int .u8 2] h (fun r h' => r = .bool false ∧ h' = h) := by
  refine cl_intro Try.func85 rfl rfl rfl ?_
  have K : Keep [] h h := Keep.refl _ _
  refine tr_seq ?_
  refine tr_reg ?_
  refine rs_v (v_assign rfl) rfl ?_
  refine rs_nil ?_
  refine q_thn ?_
  refine tr_seq ?_
  refine tr_seq ?_
  refine tr_reg ?_
  refine rs_v (v_move rfl) rfl ?_
  refine rs_nil ?_
  refine q_thn ?_
  refine tr_block ?_
  refine tr_seq ?_
  refine tr_seq ?_
  refine tr_reg ?_
  refine rs_v (v_eq rfl rfl) rfl ?_
  refine rs_v (v_assign rfl) rfl ?_
  refine rs_nil ?_
  refine q_thn ?_
  refine tr_if_f rfl ?_
  refine tr_seq ?_
  refine tr_reg ?_
  refine rs_v (v_eq rfl rfl) rfl ?_
  refine rs_v (v_assign rfl) rfl ?_
  refine rs_nil ?_
  refine q_thn ?_
  refine tr_if_f rfl ?_
  refine tr_seq ?_
  refine tr_reg ?_
  refine rs_v (v_eq rfl rfl) rfl ?_
  refine rs_v (v_assign rfl) rfl ?_
  refine rs_nil ?_
  refine q_thn ?_
  refine tr_if_f rfl ?_
  refine tr_reg ?_
  refine rs_v (v_eq rfl rfl) rfl ?_
  refine rs_v (v_assign rfl) rfl ?_
  refine rs_nil ?_
  refine q_thn ?_
  refine tr_if_f rfl ?_
  refine tr_seq ?_
  refine tr_reg ?_
  refine rs_v (v_eq rfl rfl) rfl ?_
  refine rs_v (v_assign rfl) rfl ?_
  refine rs_nil ?_
  refine q_thn ?_
  refine tr_if_t rfl ?_
  refine tr_seq ?_
  refine tr_reg ?_
  refine rs_v (v_move rfl) rfl ?_
  refine rs_v (v_move rfl) rfl ?_
  refine rs_gv rfl rfl (v_move rfl) rfl ?_
  refine rs_gv rfl rfl (v_eq rfl rfl) rfl ?_
  refine rs_v (v_pick_f rfl rfl) rfl ?_
  refine rs_v (v_move rfl) rfl ?_
  refine rs_gv rfl rfl (v_move rfl) rfl ?_
  refine rs_gv rfl rfl (v_eq rfl rfl) rfl ?_
  refine rs_v (v_pick_f rfl rfl) rfl ?_
  refine rs_v (v_assign rfl) rfl ?_
  refine rs_nil ?_
  refine q_thn ?_
  refine tr_ret ?_
  refine q_blk_ret ?_
  refine q_thn_ret ?_
  refine q_ret (res_tmp rfl rfl) ?_
  exact ⟨rfl, rfl⟩
theorem c_taken_2f3 (χ : Chi) (h : Heap)  :
    Cl Try.prog χ 85 #[.int .u8 2, .bool false, .int .u8 3] h (fun r h' => r = .bool true ∧ h' = h) := by
  refine cl_intro Try.func85 rfl rfl rfl ?_
  have K : Keep [] h h := Keep.refl _ _
  refine tr_seq ?_
  refine tr_reg ?_
  refine rs_v (v_assign rfl) rfl ?_
  refine rs_nil ?_
  refine q_thn ?_
  refine tr_seq ?_
  refine tr_seq ?_
  refine tr_reg ?_
  refine rs_v (v_move rfl) rfl ?_
  refine rs_nil ?_
  refine q_thn ?_
  refine tr_block ?_
  refine tr_seq ?_
  refine tr_seq ?_
  refine tr_reg ?_
  refine rs_v (v_eq rfl rfl) rfl ?_
  refine rs_v (v_assign rfl) rfl ?_
  refine rs_nil ?_
  refine q_thn ?_
  refine tr_if_f rfl ?_
  refine tr_seq ?_
  refine tr_reg ?_
  refine rs_v (v_eq rfl rfl) rfl ?_
  refine rs_v (v_assign rfl) rfl ?_
  refine rs_nil ?_
  refine q_thn ?_
  refine tr_if_f rfl ?_
  refine tr_seq ?_
  refine tr_reg ?_
  refine rs_v (v_eq rfl rfl) rfl ?_
  refine rs_v (v_assign rfl) rfl ?_
  refine rs_nil ?_
  refine q_thn ?_
  refine tr_if_f rfl ?_
  refine tr_reg ?_
  refine rs_v (v_eq rfl rfl) rfl ?_
  refine rs_v (v_assign rfl) rfl ?_
  refine rs_nil ?_
  refine q_thn ?_
  refine tr_if_f rfl ?_
  refine tr_seq ?_
  refine tr_reg ?_
  refine rs_v (v_eq rfl rfl) rfl ?_
  refine rs_v (v_assign rfl) rfl ?_
  refine rs_nil ?_
  refine q_thn ?_
  refine tr_if_t rfl ?_
  refine tr_seq ?_
  refine tr_reg ?_
  refine rs_v (v_move rfl) rfl ?_
  refine rs_v (v_move rfl) rfl ?_
  refine rs_gv rfl rfl (v_move rfl) rfl ?_
  refine rs_gv rfl rfl (v_eq rfl rfl) rfl ?_
  refine rs_v (v_pick_f rfl rfl) rfl ?_
  refine rs_v (v_move rfl) rfl ?_
  refine rs_gv rfl rfl (v_move rfl) rfl ?_
  refine rs_gv rfl rfl (v_eq rfl rfl) rfl ?_
  refine rs_v (v_pick_f rfl rfl) rfl ?_
  refine rs_v (v_assign rfl) rfl ?_
  refine rs_nil ?_
  refine q_thn ?_
  refine tr_ret ?_
  refine q_blk_ret ?_
  refine q_thn_ret ?_
  refine q_ret (res_tmp rfl rfl) ?_
  exact ⟨rfl, rfl⟩
theorem c_taken_2f4 (χ : Chi) (h : Heap)  :
    Cl Try.prog χ 85 #[.int .u8 2, .bool false, .int .u8 4] h (fun r h' => r = .bool false ∧ h' = h) := by
  refine cl_intro Try.func85 rfl rfl rfl ?_
  have K : Keep [] h h := Keep.refl _ _
  refine tr_seq ?_
  refine tr_reg ?_
  refine rs_v (v_assign rfl) rfl ?_
  refine rs_nil ?_
  refine q_thn ?_
  refine tr_seq ?_
  refine tr_seq ?_
  refine tr_reg ?_
  refine rs_v (v_move rfl) rfl ?_
  refine rs_nil ?_
  refine q_thn ?_
  refine tr_block ?_
  refine tr_seq ?_
  refine tr_seq ?_
  refine tr_reg ?_
  refine rs_v (v_eq rfl rfl) rfl ?_
  refine rs_v (v_assign rfl) rfl ?_
  refine rs_nil ?_
  refine q_thn ?_
  refine tr_if_f rfl ?_
  refine tr_seq ?_
  refine tr_reg ?_
  refine rs_v (v_eq rfl rfl) rfl ?_
  refine rs_v (v_assign rfl) rfl ?_
  refine rs_nil ?_
  refine q_thn ?_
  refine tr_if_f rfl ?_
  refine tr_seq ?_
  refine tr_reg ?_
  refine rs_v (v_eq rfl rfl) rfl ?_
  refine rs_v (v_assign rfl) rfl ?_
  refine rs_nil ?_
  refine q_thn ?_
  refine tr_if_f rfl ?_
  refine tr_reg ?_
  refine rs_v (v_eq rfl rfl) rfl ?_
  refine rs_v (v_assign rfl) rfl ?_
  refine rs_nil ?_
  refine q_thn ?_
  refine tr_if_f rfl ?_
  refine tr_seq ?_
  refine tr_reg ?_
  refine rs_v (v_eq rfl rfl) rfl ?_
  refine rs_v (v_assign rfl) rfl ?_
  refine rs_nil ?_
  refine q_thn ?_
  refine tr_if_t rfl ?_
  refine tr_seq ?_
  refine tr_reg ?_
  refine rs_v (v_move rfl) rfl ?_
  refine rs_v (v_move rfl) rfl ?_
  refine rs_gv rfl rfl (v_move rfl) rfl ?_
  refine rs_gv rfl rfl (v_eq rfl rfl) rfl ?_
  refine rs_v (v_pick_f rfl rfl) rfl ?_
  refine rs_v (v_move rfl) rfl ?_
  refine rs_gv rfl rfl (v_move rfl) rfl ?_
  refine rs_gv rfl rfl (v_eq rfl rfl) rfl ?_
  refine rs_v (v_pick_f rfl rfl) rfl ?_
  refine rs_v (v_assign rfl) rfl ?_
  refine rs_nil ?_
  refine q_thn ?_
  refine tr_ret ?_
  refine q_blk_ret ?_
  refine q_thn_ret ?_
  refine q_ret (res_tmp rfl rfl) ?_
  exact ⟨rfl, rfl⟩
theorem c_taken_2f5 (χ : Chi) (h : Heap)  :
    Cl Try.prog χ 85 #[.int .u8 2, .bool false, .int .u8 5] h (fun r h' => r = .bool true ∧ h' = h) := by
  refine cl_intro Try.func85 rfl rfl rfl ?_
  have K : Keep [] h h := Keep.refl _ _
  refine tr_seq ?_
  refine tr_reg ?_
  refine rs_v (v_assign rfl) rfl ?_
  refine rs_nil ?_
  refine q_thn ?_
  refine tr_seq ?_
  refine tr_seq ?_
  refine tr_reg ?_
  refine rs_v (v_move rfl) rfl ?_
  refine rs_nil ?_
  refine q_thn ?_
  refine tr_block ?_
  refine tr_seq ?_
  refine tr_seq ?_
  refine tr_reg ?_
  refine rs_v (v_eq rfl rfl) rfl ?_
  refine rs_v (v_assign rfl) rfl ?_
  refine rs_nil ?_
  refine q_thn ?_
  refine tr_if_f rfl ?_
  refine tr_seq ?_
  refine tr_reg ?_
  refine rs_v (v_eq rfl rfl) rfl ?_
  refine rs_v (v_assign rfl) rfl ?_
  refine rs_nil ?_
  refine q_thn ?_
  refine tr_if_f rfl ?_
  refine tr_seq ?_
  refine tr_reg ?_
  refine rs_v (v_eq rfl rfl) rfl ?_
  refine rs_v (v_assign rfl) rfl ?_
  refine rs_nil ?_
  refine q_thn ?_
  refine tr_if_f rfl ?_
  refine tr_reg ?_
  refine rs_v (v_eq rfl rfl) rfl ?_
  refine rs_v (v_assign rfl) rfl ?_
  refine rs_nil ?_
  refine q_thn ?_
  refine tr_if_f rfl ?_
  refine tr_seq ?_
  refine tr_reg ?_
  refine rs_v (v_eq rfl rfl) rfl ?_
  refine rs_v (v_assign rfl) rfl ?_
  refine rs_nil ?_
  refine q_thn ?_
  refine tr_if_t rfl ?_
  refine tr_seq ?_
  refine tr_reg ?_
  refine rs_v (v_move rfl) rfl ?_
  refine rs_v (v_move rfl) rfl ?_
  refine rs_gv rfl rfl (v_move rfl) rfl ?_
  refine rs_gv rfl rfl (v_eq rfl rfl) rfl ?_
  refine rs_v (v_pick_f rfl rfl) rfl ?_
  refine rs_v (v_move rfl) rfl ?_
  refine rs_gs rfl rfl rfl rfl ?_
  refine rs_gs rfl rfl rfl rfl ?_
  refine rs_v (v_pick_t rfl rfl) rfl ?_
  refine rs_v (v_assign rfl) rfl ?_
  refine rs_nil ?_
  refine q_thn ?_
  refine tr_ret ?_
  refine q_blk_ret ?_
  refine q_thn_ret ?_
  refine q_ret (res_tmp rfl rfl) ?_
  exact ⟨rfl, rfl⟩
theorem c_taken_3t (χ : Chi) (h : Heap) (last : Int)  :
    Cl Try.prog χ 85 #[.int .u8 3, .bool true, .int .u8 last] h (fun r h' => r = .bool true ∧ h' = h) := by
  refine cl_intro Try.func85 rfl rfl rfl ?_
  have K : Keep [] h h := Keep.refl _ _
  refine tr_seq ?_
  refine tr_reg ?_
  refine rs_v (v_assign rfl) rfl ?_
  refine rs_nil ?_
  refine q_thn ?_
  refine tr_seq ?_
  refine tr_seq ?_
  refine tr_reg ?_
  refine rs_v (v_move rfl) rfl ?_
  refine rs_nil ?_
  refine q_thn ?_
  refine tr_block ?_
  refine tr_seq ?_
  refine tr_seq ?_
  refine tr_reg ?_
  refine rs_v (v_eq rfl rfl) rfl ?_
  refine rs_v (v_assign rfl) rfl ?_
  refine rs_nil ?_
  refine q_thn ?_
  refine tr_if_f rfl ?_
  refine tr_seq ?_
  refine tr_reg ?_
  refine rs_v (v_eq rfl rfl) rfl ?_
  refine rs_v (v_assign rfl) rfl ?_
  refine rs_nil ?_
  refine q_thn ?_
  refine tr_if_f rfl ?_
  refine tr_seq ?_
  refine tr_reg ?_
  refine rs_v (v_eq rfl rfl) rfl ?_
  refine rs_v (v_assign rfl) rfl ?_
  refine rs_nil ?_
  refine q_thn ?_
  refine tr_if_f rfl ?_
  refine tr_reg ?_
  refine rs_v (v_eq rfl rfl) rfl ?_
  refine rs_v (v_assign rfl) rfl ?_
  refine rs_nil ?_
  refine q_thn ?_
  refine tr_if_f rfl ?_
  refine tr_seq ?_
  refine tr_reg ?_
  refine rs_v (v_eq rfl rfl) rfl ?_
  refine rs_v (v_assign rfl) rfl ?_
  refine rs_nil ?_
  refine q_thn ?_
  refine tr_if_f rfl ?_
  refine tr_seq ?_
  refine tr_reg ?_
  refine rs_v (v_eq rfl rfl) rfl ?_
  refine rs_v (v_assign rfl) rfl ?_
  refine rs_nil ?_
  refine q_thn ?_
  refine tr_if_t rfl ?_
  refine tr_seq ?_
  refine tr_reg ?_
  refine rs_v (v_move rfl) rfl ?_
  refine rs_v (v_move rfl) rfl ?_
  refine rs_gs rfl rfl rfl rfl ?_
  refine rs_gs rfl rfl rfl rfl ?_
  refine rs_v (v_pick_t rfl rfl) rfl ?_
  refine rs_v (v_move rfl) rfl ?_
  refine rs_gs rfl rfl rfl rfl ?_
  refine rs_gs rfl rfl rfl rfl ?_
  refine rs_v (v_pick_t rfl rfl) rfl ?_
  refine rs_v (v_assign rfl) rfl ?_
  refine rs_nil ?_
  refine q_thn ?_
  refine tr_ret ?_
  refine q_blk_ret ?_
  refine q_thn_ret ?_
  refine q_ret (res_tmp rfl rfl) ?_
  exact ⟨rfl, rfl⟩
theorem c_taken_3f0 (χ : Chi) (h : Heap)  :
    Cl Try.prog χ 85 #[.int .u8 3, .bool false, .int .u8 0] h (fun r h' => r = .bool false ∧ h' = h) := by
  refine cl_intro Try.func85 rfl rfl rfl ?_
  have K : Keep [] h h := Keep.refl _ _
  refine tr_seq ?_
  refine tr_reg ?_
  refine rs_v (v_assign rfl) rfl ?_
  refine rs_nil ?_
  refine q_thn ?_
  refine tr_seq ?_
  refine tr_seq ?_
  refine tr_reg ?_
  refine rs_v (v_move rfl) rfl ?_
  refine rs_nil ?_
  refine q_thn ?_
  refine tr_block ?_
  refine tr_seq ?_
  refine tr_seq ?_
  refine tr_reg ?_
  refine rs_v (v_eq rfl rfl) rfl ?_
  refine rs_v (v_assign rfl) rfl ?_
  refine rs_nil ?_
  refine q_thn ?_
  refine tr_if_f rfl ?_
  refine tr_seq ?_
  refine tr_reg ?_
  refine rs_v (v_eq rfl rfl) rfl ?_
  refine rs_v (v_assign rfl) rfl ?_
  refine rs_nil ?_
  refine q_thn ?_
  refine tr_if_f rfl ?_
  refine tr_seq ?_
  refine tr_reg ?_
  refine rs_v (v_eq rfl rfl) rfl ?_
  refine rs_v (v_assign rfl) rfl ?_
  refine rs_nil ?_
  refine q_thn ?_
  refine tr_if_f rfl ?_
  refine tr_reg ?_
  refine rs_v (v_eq rfl rfl) rfl ?_
  refine rs_v (v_assign rfl) rfl ?_
  refine rs_nil ?_
  refine q_thn ?_
  refine tr_if_f rfl ?_
  refine tr_seq ?_
  refine tr_reg ?_
  refine rs_v (v_eq rfl rfl) rfl ?_
  refine rs_v (v_assign rfl) rfl ?_
  refine rs_nil ?_
  refine q_thn ?_
  refine tr_if_f rfl ?_
  refine tr_seq ?_
  refine tr_reg ?_
  refine rs_v (v_eq rfl rfl) rfl ?_
  refine rs_v (v_assign rfl) rfl ?_
  refine rs_nil ?_
  refine q_thn ?_
  refine tr_if_t rfl ?_
  refine tr_seq ?_
  refine tr_reg ?_
  refine rs_v (v_move rfl) rfl ?_
  refine rs_v (v_move rfl) rfl ?_
  refine rs_gv rfl rfl (v_move rfl) rfl ?_
  refine rs_gv rfl rfl (v_eq rfl rfl) rfl ?_
  refine rs_v (v_pick_f rfl rfl) rfl ?_
  refine rs_v (v_move rfl) rfl ?_
  refine rs_gv rfl rfl (v_move rfl) rfl ?_
  refine rs_gv rfl rfl (v_eq rfl rfl) rfl ?_
  refine rs_v (v_pick_f rfl rfl) rfl ?_
  refine rs_v (v_assign rfl) rfl ?_
  refine rs_nil ?_
  refine q_thn ?_
  refine tr_ret ?_
  refine q_blk_ret ?_
  refine q_thn_ret ?_
  refine q_ret (res_tmp rfl rfl) ?_
  exact ⟨rfl, rfl⟩
theorem c_taken_3f1 (χ : Chi) (h : Heap)  :
    Cl Try.prog χ 85 #[.int .u8 3, .bool false, .int .u8 1] h (fun r h' => r = .bool false ∧ h' = h) := by
  refine cl_intro Try.func85 rfl rfl rfl ?_
  have K : Keep [] h h := Keep.refl _ _
  refine tr_seq ?_
  refine tr_reg ?_
  refine rs_v (v_assign rfl) rfl ?_
  refine rs_nil ?_
  refine q_thn ?_
  refine tr_seq ?_
  refine tr_seq ?_
  refine tr_reg ?_
  refine rs_v (v_move rfl) rfl ?_
  refine rs_nil ?_
  refine q_thn ?_
  refine tr_block ?_
  refine tr_seq ?_
  refine tr_seq ?_
  refine tr_reg ?_
  refine rs_v (v_eq rfl rfl) rfl ?_
  refine rs_v (v_assign rfl) rfl ?_
  refine rs_nil ?_
  refine q_thn ?_
  refine tr_if_f rfl ?_
  refine tr_seq ?_
  refine tr_reg ?_
  refine rs_v (v_eq rfl rfl) rfl ?_
  refine rs_v (v_assign rfl) rfl ?_
  refine rs_nil ?_
  refine q_thn ?_
  refine tr_if_f rfl ?_
  refine tr_seq ?_
  refine tr_reg ?_
  refine rs_v (v_eq rfl rfl) rfl ?_
  refine rs_v (v_assign rfl) rfl ?_
  refine rs_nil ?_
  refine q_thn ?_
  refine tr_if_f rfl ?_
  refine tr_reg ?_
  refine rs_v (v_eq rfl rfl) rfl ?_
  refine rs_v (v_assign rfl) rfl ?_
  refine rs_nil ?_
  refine q_thn ?_
  refine tr_if_f rfl ?_
  refine tr_seq ?_
  refine tr_reg ?_
  refine rs_v (v_eq rfl rfl) rfl ?_
  refine rs_v (v_assign rfl) rfl ?_
  refine rs_nil ?_
  refine q_thn ?_
  refine tr_if_f rfl ?_
  refine tr_seq ?_
  refine tr_reg ?_
  refine rs_v (v_eq rfl rfl) rfl ?_
  refine rs_v (v_assign rfl) rfl ?_
  refine rs_nil ?_
  refine q_thn ?_
  refine tr_if_t rfl ?_
  refine tr_seq ?_
  refine tr_reg ?_
  refine rs_v (v_move rfl) rfl ?_
  refine rs_v (v_move rfl) rfl ?_
  refine rs_gv rfl rfl (v_move rfl) rfl ?_
  refine rs_gv rfl rfl (v_eq rfl rfl) rfl ?_
  refine rs_v (v_pick_f rfl rfl) rfl ?_
  refine rs_v (v_move rfl) rfl ?_
  refine rs_gv rfl rfl (v_move rfl) rfl ?_
  refine rs_gv rfl rfl (v_eq rfl rfl) rfl ?_
  refine rs_v (v_pick_f rfl rfl) rfl ?_
  refine rs_v (v_assign rfl) rfl ?_
  refine rs_nil ?_
  refine q_thn ?_
  refine tr_ret ?_
  refine q_blk_ret ?_
  refine q_thn_ret ?_
  refine q_ret (res_tmp rfl rfl) ?_
  exact ⟨rfl, rfl⟩
theorem c_taken_3f2 (χ : Chi) (h : Heap)  :
    Cl Try.prog χ 85 #[.int .u8 3, .bool false, .int .u8 2] h (fun r h' => r = .bool true ∧ h' = h) := by
  refine cl_intro Try.func85 rfl rfl rfl ?_
  have K : Keep [] h h := Keep.refl _ _
  refine tr_seq ?_
  refine tr_reg ?_
  refine rs_v (v_assign rfl) rfl ?_
  refine rs_nil ?_
  refine q_thn ?_
  refine tr_seq ?_
  refine tr_seq ?_
  refine tr_reg ?_
  refine rs_v (v_move rfl) rfl ?_
  refine rs_nil ?_
  refine q_thn ?_
  refine tr_block ?_
  refine tr_seq ?_
  refine tr_seq ?_
  refine tr_reg ?_
  refine rs_v (v_eq rfl rfl) rfl ?_
  refine rs_v (v_assign rfl) rfl ?_
  refine rs_nil ?_
  refine q_thn ?_
  refine tr_if_f rfl ?_
  refine tr_seq ?_
  refine tr_reg ?_
  refine rs_v (v_eq rfl rfl) rfl ?_
  refine rs_v (v_assign rfl) rfl ?_
  refine rs_nil ?_
  refine q_thn ?_
  refine tr_if_f rfl ?_
  refine tr_seq ?_
  refine tr_reg ?_
  refine rs_v (v_eq rfl rfl) rfl ?_
  refine rs_v (v_assign rfl) rfl ?_
  refine rs_nil ?_
  refine q_thn ?_
  refine tr_if_f rfl ?_
  refine tr_reg ?_
  refine rs_v (v_eq rfl rfl) rfl ?_
  refine rs_v (v_assign rfl) rfl ?_
  refine rs_nil ?_
  refine q_thn ?_
  refine tr_if_f rfl ?_
  refine tr_seq ?_
  refine tr_reg ?_
  refine rs_v (v_eq rfl rfl) rfl ?_
  refine rs_v (v_assign rfl) rfl ?_
  refine rs_nil ?_
  refine q_thn ?_
  refine tr_if_f rfl ?_
  refine tr_seq ?_
  refine tr_reg ?_
  refine rs_v (v_eq rfl rfl) rfl ?_
  refine rs_v (v_assign rfl) rfl ?_
  refine rs_nil ?_
  refine q_thn ?_
  refine tr_if_t rfl ?_
  refine tr_seq ?_
  refine tr_reg ?_
  refine rs_v (v_move rfl) rfl ?_
  refine rs_v (v_move rfl) rfl ?_
  refine rs_gv rfl rfl (v_move rfl) rfl ?_
  refine rs_gv rfl rfl (v_eq rfl rfl) rfl ?_
  refine rs_v (v_pick_f rfl rfl) rfl ?_
  refine rs_v (v_move rfl) rfl ?_
  refine rs_gv rfl rfl (v_move rfl) rfl ?_
  refine rs_gv rfl rfl (v_eq rfl rfl) rfl ?_
  refine rs_v (v_pick_f rfl rfl) rfl ?_
  refine rs_v (v_assign rfl) rfl ?_
  refine rs_nil ?_
  refine q_thn ?_
  refine tr_ret ?_
  refine q_blk_ret ?_
  refine q_thn_ret ?_
  refine q_ret (res_tmp rfl rfl) ?_
  exact ⟨rfl, rfl⟩
theorem c_taken_3f3 (χ : Chi) (h : Heap)  :
    Cl Try.prog χ 85 #[.int .u8 3, .bool false, .int .u8 3] h (fun r h' => r = .bool false ∧ h' = h) := by
  refine cl_intro Try.func85 rfl rfl rfl ?_
  have K : Keep [] h h := Keep.refl _ _
  refine tr_seq ?_
  refine tr_reg ?_
  refine rs_v (v_assign rfl) rfl ?_
  refine rs_nil ?_
  refine q_thn ?_
  refine tr_seq ?_
  refine tr_seq ?_
  refine tr_reg ?_
  refine rs_v (v_move rfl) rfl ?_
  refine rs_nil ?_
  refine q_thn ?_
  refine tr_block ?_
  refine tr_seq ?_
  refine tr_seq ?_
  refine tr_reg ?_
  refine rs_v (v_eq rfl rfl) rfl ?_
  refine rs_v (v_assign rfl) rfl ?_
  refine rs_nil ?_
  refine q_thn ?_
  refine tr_if_f rfl ?_
  refine tr_seq ?_
  refine tr_reg ?_
  refine rs_v (v_eq rfl rfl) rfl ?_
  refine rs_v (v_assign rfl) rfl ?_
  refine rs_nil ?_
  refine q_thn ?_
  refine tr_if_f rfl ?_
  refine tr_seq ?_
  refine tr_reg ?_
  refine rs_v (v_eq rfl rfl) rfl ?_
  refine rs_v (v_assign rfl) rfl ?_
  refine rs_nil ?_
  refine q_thn ?_
  refine tr_if_f rfl ?_
  refine tr_reg ?_
  refine rs_v (v_eq rfl rfl) rfl ?_
  refine rs_v (v_assign rfl) rfl ?_
  refine rs_nil ?_
  refine q_thn ?_
  refine tr_if_f rfl ?_
  refine tr_seq ?_
  refine tr_reg ?_
  refine rs_v (v_eq rfl rfl) rfl ?_
  refine rs_v (v_assign rfl) rfl ?_
  refine rs_nil ?_
  refine q_thn ?_
  refine tr_if_f rfl ?_
  refine tr_seq ?_
  refine tr_reg ?_
  refine rs_v (v_eq rfl rfl) rfl ?_
  refine rs_v (v_assign rfl) rfl ?_
  refine rs_nil ?_
  refine q_thn ?_
  refine tr_if_t rfl ?_
  refine tr_seq ?_
  refine tr_reg ?_
  refine rs_v (v_move rfl) rfl ?_
  refine rs_v (v_move rfl) rfl ?_
  refine rs_gv rfl rfl (v_move rfl) rfl ?_
  refine rs_gv rfl rfl (v_eq rfl rfl) rfl ?_
  refine rs_v (v_pick_f rfl rfl) rfl ?_
  refine rs_v (v_move rfl) rfl ?_
  refine rs_gv rfl rfl (v_move rfl) rfl ?_
  refine rs_gv rfl rfl (v_eq rfl rfl) rfl ?_
  refine rs_v (v_pick_f rfl rfl) rfl ?_
  refine rs_v (v_assign rfl) rfl ?_
  refine rs_nil ?_
  refine q_thn ?_
  refine tr_ret ?_
  refine q_blk_ret ?_
  refine q_thn_ret ?_
  refine q_ret (res_tmp rfl rfl) ?_
  exact ⟨rfl, rfl⟩
theorem c_taken_3f4 (χ : Chi) (h : Heap)  :
    Cl Try.prog χ 85 #[.int .u8 3, .bool false, .int .u8 4] h (fun r h' => r = .bool true ∧ h' = h) := by
  refine cl_intro Try.func85 rfl rfl rfl ?_
  have K : Keep [] h h := Keep.refl _ _
  refine tr_seq ?_
  refine tr_reg ?_
  refine rs_v (v_assign rfl) rfl ?_
  refine rs_nil ?_
  refine q_thn ?_
  refine tr_seq ?_
  refine tr_seq ?_
  refine tr_reg ?_
  refine rs_v (v_move rfl) rfl ?_
  refine rs_nil ?_
  refine q_thn ?_
  refine tr_block ?_
  refine tr_seq ?_
  refine tr_seq ?_
  refine tr_reg ?_
  refine rs_v (v_eq rfl rfl) rfl ?_
  refine rs_v (v_assign rfl) rfl ?_
  refine rs_nil ?_
  refine q_thn ?_
  refine tr_if_f rfl ?_
  refine tr_seq ?_
  refine tr_reg ?_
  refine rs_v (v_eq rfl rfl) rfl ?_
  refine rs_v (v_assign rfl) rfl ?_
  refine rs_nil ?_
  refine q_thn ?_
  refine tr_if_f rfl ?_
  refine tr_seq ?_
  refine tr_reg ?_
  refine rs_v (v_eq rfl rfl) rfl ?_
  refine rs_v (v_assign rfl) rfl ?_
  refine rs_nil ?_
  refine q_thn ?_
  refine tr_if_f rfl ?_
  refine tr_reg ?_
  refine rs_v (v_eq rfl rfl) rfl ?_
  refine rs_v (v_assign rfl) rfl ?_
  refine rs_nil ?_
  refine q_thn ?_
  refine tr_if_f rfl ?_
  refine tr_seq ?_
  refine tr_reg ?_
  refine rs_v (v_eq rfl rfl) rfl ?_
  refine rs_v (v_assign rfl) rfl ?_
  refine rs_nil ?_
  refine q_thn ?_
  refine tr_if_f rfl ?_
  refine tr_seq ?_
  refine tr_reg ?_
  refine rs_v (v_eq rfl rfl) rfl ?_
  refine rs_v (v_assign rfl) rfl ?_
  refine rs_nil ?_
  refine q_thn ?_
  refine tr_if_t rfl ?_
  refine tr_seq ?_
  refine tr_reg ?_
  refine rs_v (v_move rfl) rfl ?_
  refine rs_v (v_move rfl) rfl ?_
  refine rs_gv rfl rfl (v_move rfl) rfl ?_
  refine rs_gv rfl rfl (v_eq rfl rfl) rfl ?_
  refine rs_v (v_pick_f rfl rfl) rfl ?_
  refine rs_v (v_move rfl) rfl ?_
  refine rs_gs rfl rfl rfl rfl ?_
  refine rs_gs rfl rfl rfl rfl ?_
  refine rs_v (v_pick_t rfl rfl) rfl ?_
  refine rs_v (v_assign rfl) rfl ?_
  refine rs_nil ?_
  refine q_thn ?_
  refine tr_ret ?_
  refine q_blk_ret ?_
  refine q_thn_ret ?_
  refine q_ret (res_tmp rfl rfl) ?_
  exact ⟨rfl, rfl⟩
theorem c_taken_3f5 (χ : Chi) (h : Heap)  :
    Cl Try.prog χ 85 #[.int .u8 3, .bool false, .int .u8 5] h (fun r h' => r = .bool false ∧ h' = h) := by
  refine cl_intro Try.func85 rfl rfl rfl ?_
  have K : Keep [] h h := Keep.refl _ _
  refine tr_seq ?_
  refine tr_reg ?_
  refine rs_v (v_assign rfl) rfl ?_
  refine rs_nil ?_
  refine q_thn ?_
  refine tr_seq ?_
  refine tr_seq ?_
  refine tr_reg ?_
  refine rs_v (v_move rfl) rfl ?_
  refine rs_nil ?_
  refine q_thn ?_
  refine tr_block ?_
  refine tr_seq ?_
  refine tr_seq ?_
  refine tr_reg ?_
  refine rs_v (v_eq rfl rfl) rfl ?_
  refine rs_v (v_assign rfl) rfl ?_
  refine rs_nil ?_
  refine q_thn ?_
  refine tr_if_f rfl ?_
  refine tr_seq ?_
  refine tr_reg ?_
  refine rs_v (v_eq rfl rfl) rfl ?_
  refine rs_v (v_assign rfl) rfl ?_
  refine rs_nil ?_
  refine q_thn ?_
  refine tr_if_f rfl ?_
  refine tr_seq ?_
  refine tr_reg ?_
  refine rs_v (v_eq rfl rfl) rfl ?_
  refine rs_v (v_assign rfl) rfl ?_
  refine rs_nil ?_
  refine q_thn ?_
  refine tr_if_f rfl ?_
  refine tr_reg ?_
  refine rs_v (v_eq rfl rfl) rfl ?_
  refine rs_v (v_assign rfl) rfl ?_
  refine rs_nil ?_
  refine q_thn ?_
  refine tr_if_f rfl ?_
  refine tr_seq ?_
  refine tr_reg ?_
  refine rs_v (v_eq rfl rfl) rfl ?_
  refine rs_v (v_assign rfl) rfl ?_
  refine rs_nil ?_
  refine q_thn ?_
  refine tr_if_f rfl ?_
  refine tr_seq ?_
  refine tr_reg ?_
  refine rs_v (v_eq rfl rfl) rfl ?_
  refine rs_v (v_assign rfl) rfl ?_
  refine rs_nil ?_
  refine q_thn ?_
  refine tr_if_t rfl ?_
  refine tr_seq ?_
  refine tr_reg ?_
  refine rs_v (v_move rfl) rfl ?_
  refine rs_v (v_move rfl) rfl ?_
  refine rs_gv rfl rfl (v_move rfl) rfl ?_
  refine rs_gv rfl rfl (v_eq rfl rfl) rfl ?_
  refine rs_v (v_pick_f rfl rfl) rfl ?_
  refine rs_v (v_move rfl) rfl ?_
  refine rs_gv rfl rfl (v_move rfl) rfl ?_
  refine rs_gv rfl rfl (v_eq rfl rfl) rfl ?_
  refine rs_v (v_pick_f rfl rfl) rfl ?_
  refine rs_v (v_assign rfl) rfl ?_
  refine rs_nil ?_
  refine q_thn ?_
  refine tr_ret ?_
  refine q_blk_ret ?_
  refine q_thn_ret ?_
  refine q_ret (res_tmp rfl rfl) ?_
  exact ⟨rfl, rfl⟩
theorem c_taken_x (χ : Chi) (h : Heap) (op : Int) (ok : Bool) (last : Int) (o0 : decide (op = 0) = false) (o1 : decide (op = 1) = false) (o2 : decide (op = 2) = false) (o3 : decide (op = 3) = false) (o4 : decide (op = 4) = false) (o5 : decide (op = 5) = false) :
    Cl Try.prog χ 85 #[.int .u8 op, .bool ok, .int .u8 last] h (fun r h' => r = .bool false ∧ h' = h) := by
  refine cl_intro Try.func85 rfl rfl rfl ?_
  have K : Keep [] h h := Keep.refl _ _
  refine tr_seq ?_
  refine tr_reg ?_
  refine rs_v (v_assign rfl) rfl ?_
  refine rs_nil ?_
  refine q_thn ?_
  refine tr_seq ?_
  refine tr_seq ?_
  refine tr_reg ?_
  refine rs_v (v_move rfl) rfl ?_
  refine rs_nil ?_
  refine q_thn ?_
  refine tr_block ?_
  refine tr_seq ?_
  refine tr_seq ?_
  refine tr_reg ?_
  refine rs_v (v_eq rfl rfl) rfl ?_
  refine rs_v (v_assign rfl) rfl ?_
  refine rs_nil ?_
  refine q_thn ?_
  refine tr_if_f (lkb o0) ?_
  refine tr_seq ?_
  refine tr_reg ?_
  refine rs_v (v_eq rfl rfl) rfl ?_
  refine rs_v (v_assign rfl) rfl ?_
  refine rs_nil ?_
  refine q_thn ?_
  refine tr_if_f (lkb o1) ?_
  refine tr_seq ?_
  refine tr_reg ?_
  refine rs_v (v_eq rfl rfl) rfl ?_
  refine rs_v (v_assign rfl) rfl ?_
  refine rs_nil ?_
  refine q_thn ?_
  refine tr_if_f (lkb o4) ?_
  refine tr_reg ?_
  refine rs_v (v_eq rfl rfl) rfl ?_
  refine rs_v (v_assign rfl) rfl ?_
  refine rs_nil ?_
  refine q_thn ?_
  refine tr_if_f (lkb o5) ?_
  refine tr_seq ?_
  refine tr_reg ?_
  refine rs_v (v_eq rfl rfl) rfl ?_
  refine rs_v (v_assign rfl) rfl ?_
  refine rs_nil ?_
  refine q_thn ?_
  refine tr_if_f (lkb o2) ?_
  refine tr_seq ?_
  refine tr_reg ?_
  refine rs_v (v_eq rfl rfl) rfl ?_
  refine rs_v (v_assign rfl) rfl ?_
  refine rs_nil ?_
  refine q_thn ?_
  refine tr_if_f (lkb o3) ?_
  refine tr_skip ?_
  refine q_blk_n ?_
  refine q_thn ?_
  refine tr_seq ?_
  refine tr_reg ?_
  refine rs_v (v_assign rfl) rfl ?_
  refine rs_nil ?_
  refine q_thn ?_
  refine tr_ret ?_
  refine q_ret (res_tmp rfl rfl) ?_
  exact ⟨rfl, rfl⟩
theorem c_taken (χ : Chi) (h : Heap) (W : List SpanD) (p : Pos) (s : StepD) (ok : Bool) (last : Int) (hk : okl W p ok last) :
    Cl Try.prog χ 85 #[.int .u8 s.op, .bool ok, .int .u8 last] h (fun r h' => r = .bool (stepP W p s).isSome ∧ h' = h) := by
  obtain ⟨op, key⟩ := s
  by_cases o0 : op = 0
  · subst o0; exact c_taken_0 χ h ok last
  by_cases o1 : op = 1
  · subst o1; exact c_taken_1 χ h ok last
  by_cases o4 : op = 4
  · subst o4; exact c_taken_4 χ h ok last
  by_cases o5 : op = 5
  · subst o5; exact c_taken_5 χ h ok last
  by_cases o2 : op = 2
  · subst o2
    rcases hk with ⟨rfl, j, rfl, _⟩ | ⟨rfl, ⟨rfl, rfl | rfl⟩ | ⟨rfl, rfl | rfl⟩ | ⟨rfl, rfl | rfl⟩⟩
    · exact c_taken_2t χ h last
    · exact c_taken_2f5 χ h
    · exact c_taken_2f3 χ h
    · exact c_taken_2f4 χ h
    · exact c_taken_2f2 χ h
    · exact c_taken_2f0 χ h
    · exact c_taken_2f1 χ h
  by_cases o3 : op = 3
  · subst o3
    rcases hk with ⟨rfl, j, rfl, _⟩ | ⟨rfl, ⟨rfl, rfl | rfl⟩ | ⟨rfl, rfl | rfl⟩ | ⟨rfl, rfl | rfl⟩⟩
    · exact c_taken_3t χ h last
    · exact c_taken_3f5 χ h
    · exact c_taken_3f3 χ h
    · exact c_taken_3f4 χ h
    · exact c_taken_3f2 χ h
    · exact c_taken_3f0 χ h
    · exact c_taken_3f1 χ h
  · have e : (stepP W p ⟨op, key⟩) = none := by simp [stepP, o0, o1, o2, o3, o4, o5]
    rw [e]
    exact c_taken_x χ h op ok last (decide_eq_false o0) (decide_eq_false o1) (decide_eq_false o2) (decide_eq_false o3) (decide_eq_false o4) (decide_eq_false o5)
end Go.Proofs.Ytgebfbnndgjkiaa
